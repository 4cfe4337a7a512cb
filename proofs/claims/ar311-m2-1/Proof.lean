import JvmDerived
import JvmDerived.Pilot.@@N@@Statement
import JvmDerived.Pilot.@@N@@Code
set_option linter.unusedVariables false
set_option linter.unusedSimpArgs false
namespace Jvm.RoadKit
open Sem ClassFile Op Lib Jvm.Stand Jvm.Free Jvm.LawKit
section New
variable {p : Program} {l : Launch} {e : Env} {R : Room} {s : State} {m : MethodId} {args : Array Value} {below : List Frame} {meth : Method} {c : Code} {T : State} {locs : List Loc} {cells slots : Nat}
theorem retI (X : Stand p l e R s m args below meth c T locs cells slots) (hx : p.tables.exec = Jvm.exec) {pc : Nat} {Ls : Array Slot} {z : Int32} {rest : List Value} (hret : meth.sig.returnType = some .int) (hd : decode c.code pc = .ok (.ireturn, 1)) {fs : List Frame}
    (hl : ∀ (f : JFrame) (acts : List Action), f.method = m → f.locked = none → f.entered = [] → (doReturn e (T.setTop f) acts (some (.int z))).1 = T.setFrames fs) : Steps p.tables e below (T.setTop (mkF m pc Ls (.int z :: rest))) (T.setFrames fs) := by
  have hm' : T.vm.method? m = some meth := X.method'
  have hn : narrow .int (.int z) = .int z := rfl
  show Steps p.tables e below (T.setTop { method := m, pc := pc, locals := Ls, stack := _ :: rest, locked := none }) _
  jvm_step X.here [X.here.top, hx, hd, hm', hret, hn]
  first | (intro acts; rw [hl _ acts rfl rfl rfl]) | rw [hl _ _ rfl rfl rfl]
  exact Steps.refl _
end New
end Jvm.RoadKit
namespace Jvm.Pilot.@@N@@
open Jvm Jvm.ClassFile Sem Op Lib Jvm.Free Jvm.Stand Jvm.LawKit Jvm.RoadKit Bundle Jvm.Pilot.@@N@@.Jvm.D
abbrev GG (p : Program) (e : Env) (below : List Frame) (T : State) (g : JFrame) (t : State) : Prop := Steps p.tables e below (T.setTop g) t
theorem ww {a0 : Array Value} {Z : State} (hw : ∀ d ∈ tables_1, d.before a0 Z = true) (i : Nat) {d : Jvm.Cond} (h : tables_1[i]? = some d) : d.before a0 Z = true := hw d (List.mem_of_getElem? h)
theorem mw {d : Jvm.Cond} {Z s : State} {a0 args : Array Value} (hZ : Z.Warmed39 s.vm) (hw : ∀ d ∈ tables_1, d.before a0 Z = true) (i : Nat) (h : tables_1[i]? = some d) (hd : (d.onTables && d.keepsFace) = true := by first | rfl | simp [Cond.onTables, Cond.keepsFace, Cond.keeps, Cond.steady]) : d.before args s = true := mvT hZ (hw d (List.mem_of_getElem? h)) hd
theorem own_char (x : Int32) : ¬ nar .char x < 0 ∧ ¬ (65535 : Int32) < nar .char x := by
  have h : (nar .char x).toInt = (x.toUInt32.toUInt16.toNat : Int) := by
    show (x.toUInt32.toUInt16.toUInt32.toInt32).toBitVec.toInt = _
    have e : (x.toUInt32.toUInt16.toUInt32.toInt32).toBitVec.toNat = x.toUInt32.toUInt16.toNat := by
      show x.toUInt32.toUInt16.toUInt32.toNat = _
      exact UInt16.toNat_toUInt32 _
    have hl := x.toUInt32.toUInt16.toNat_lt
    rw [BitVec.toInt_eq_toNat_of_lt (by rw [e]; omega), e]
  have hl := x.toUInt32.toUInt16.toNat_lt
  have e1 : (65535 : Int32).toInt = 65535 := rfl
  have e0 : (0 : Int32).toInt = 0 := rfl
  rw [Int32.lt_iff_toInt_lt, Int32.lt_iff_toInt_lt, h, e1, e0]
  omega
/-- a char as a natural -/
theorem own_nat {c : Int32} (h : ¬ c < 0 ∧ ¬ (65535 : Int32) < c) : ∃ n : Nat, n < 65536 ∧ c = Int32.ofNat n := by
  have e1 : (65535 : Int32).toInt = 65535 := rfl
  have e0 : (0 : Int32).toInt = 0 := rfl
  rw [Int32.lt_iff_toInt_lt, Int32.lt_iff_toInt_lt, e1, e0] at h
  refine ⟨c.toInt.toNat, by omega, ?_⟩
  apply Int32.toInt_inj.mp
  rw [Int32.toInt_ofNat_of_lt (by omega)]
  omega
theorem own_narc {c : Int32} (h : ¬ c < 0 ∧ ¬ (65535 : Int32) < c) : nar .char c = c := by
  obtain ⟨n, hn, rfl⟩ := own_nat h
  apply Int32.toBitVec_inj.mp
  apply BitVec.eq_of_toNat_eq
  show ((Int32.ofNat n).toUInt32.toUInt16.toUInt32).toNat = (BitVec.ofNat 32 n).toNat
  rw [UInt16.toNat_toUInt32, UInt32.toNat_toUInt16]
  show (BitVec.ofNat 32 n).toNat % 65536 = _
  rw [BitVec.toNat_ofNat]
  omega
theorem own_three (p : Int32) : (p &&& 3) = 0 ∨ (p &&& 3) = 1 ∨ (p &&& 3) = 2 ∨ (p &&& 3) = 3 := by
  have h : (p &&& 3).toBitVec.toNat < 4 := by
    simp only [Int32.toBitVec_and, BitVec.toNat_and]
    exact Nat.lt_succ_of_le Nat.and_le_right
  have e : (p &&& 3) = Int32.ofNat (p &&& 3).toBitVec.toNat := by
    apply Int32.toBitVec_inj.mp
    show _ = BitVec.ofNat 32 _
    rw [BitVec.ofNat_toNat]; simp
  have t : ∀ k : Fin 4, Int32.ofNat k.val = 0 ∨ Int32.ofNat k.val = 1 ∨ Int32.ofNat k.val = 2 ∨ Int32.ofNat k.val = 3 := by decide
  rw [e]
  exact t ⟨_, h⟩
/-- a Latin-1 char read back -/
theorem own_lat {c : Int32} (h : ¬ c < 0 ∧ ¬ (65535 : Int32) < c) (h2 : ¬ (255 : Int32) < c) : nar .char (nar .char ((((nar .byte (c.toInt8.toInt32)) &&& (255 : Int32)).toUInt32.toUInt16.toUInt32.toInt32))) = c := by
  have t : ∀ k : Fin 256, nar .char (nar .char ((((nar .byte ((Int32.ofNat k.val).toInt8.toInt32)) &&& (255 : Int32)).toUInt32.toUInt16.toUInt32.toInt32))) = Int32.ofNat k.val := by decide +kernel
  obtain ⟨n, hn, rfl⟩ := own_nat h
  have e1 : (255 : Int32).toInt = 255 := rfl
  rw [Int32.lt_iff_toInt_lt, Int32.toInt_ofNat_of_lt (by omega), e1] at h2
  exact t ⟨n, by omega⟩
theorem own_byte (x : Int32) : (nar .byte (x.toInt8.toInt32) &&& 255).toBitVec.toNat = x.toBitVec.toNat % 256 := by
  have e : nar .byte (x.toInt8.toInt32) = x.toInt8.toInt32 := by
    show (x.toInt8.toInt32).toInt8.toInt32 = _
    rw [Int8.toInt8_toInt32]
  rw [e, Int32.toBitVec_and, Int8.toBitVec_toInt32]
  have e2 : (255 : Int32).toBitVec = 255#32 := rfl
  rw [e2]
  have e4 : x.toInt8.toBitVec = x.toBitVec.setWidth 8 := by
    rw [Int32.toBitVec_toInt8]
    exact BitVec.signExtend_eq_setWidth_of_le _ (by decide)
  rw [e4]
  have e3 : ((x.toBitVec.setWidth 8).signExtend 32 &&& 255#32) = ((x.toBitVec.setWidth 8).setWidth 32) := by
    apply BitVec.eq_of_getLsbD_eq
    intro i hi
    have t : ∀ j : Fin 32, (255#32).getLsbD j.val = decide (j.val < 8) := by decide
    have q := t ⟨i, hi⟩
    simp only at q
    rw [BitVec.getLsbD_and, q, BitVec.getLsbD_setWidth, BitVec.getLsbD_signExtend]
    by_cases h8 : i < 8
    · simp [h8, hi]
    · simp [h8]
  rw [e3, BitVec.toNat_setWidth, BitVec.toNat_setWidth]
  omega
/-- a wide char read back -/
theorem own_w {c : Int32} (h : ¬ c < 0 ∧ ¬ (65535 : Int32) < c) : (((nar .byte ((c >>> ((0 : Int32) &&& 31)).toInt8.toInt32)) &&& (255 : Int32)) <<< ((0 : Int32) &&& 31)) ||| (((nar .byte ((c >>> ((8 : Int32) &&& 31)).toInt8.toInt32)) &&& (255 : Int32)) <<< ((8 : Int32) &&& 31)) = c := by
  obtain ⟨n, hn, rfl⟩ := own_nat h
  have n32 : (Int32.ofNat n).toBitVec.toNat = n := by show (BitVec.ofNat 32 n).toNat = n; rw [BitVec.toNat_ofNat]; exact Nat.mod_eq_of_lt (by omega)
  have s0 : ((Int32.ofNat n) >>> ((0 : Int32) &&& 31)) = Int32.ofNat n := by
    apply Int32.toBitVec_inj.mp
    rw [show ((0 : Int32) &&& 31) = 0 from rfl, Int32.toBitVec_shiftRight]
    simp
  have s8 : ((Int32.ofNat n) >>> ((8 : Int32) &&& 31)).toBitVec.toNat = n / 256 := by
    rw [show ((8 : Int32) &&& 31) = 8 from rfl, Int32.toBitVec_shiftRight]
    show (BitVec.sshiftRight (Int32.ofNat n).toBitVec 8).toNat = _
    rw [BitVec.sshiftRight_eq_of_msb_false (by rw [BitVec.msb_eq_false_iff_two_mul_lt, n32]; omega), BitVec.toNat_ushiftRight, n32, Nat.shiftRight_eq_div_pow]
  have b0 := own_byte (Int32.ofNat n)
  have b8 := own_byte ((Int32.ofNat n) >>> ((8 : Int32) &&& 31))
  rw [s8] at b8
  rw [n32] at b0
  rw [s0]
  generalize (nar .byte ((Int32.ofNat n).toInt8.toInt32) &&& 255) = u at b0 ⊢
  generalize (nar .byte (((Int32.ofNat n) >>> ((8 : Int32) &&& 31)).toInt8.toInt32) &&& 255) = v at b8 ⊢
  have k0 : (u <<< ((0 : Int32) &&& 31)) = u := by
    apply Int32.toBitVec_inj.mp
    rw [show ((0 : Int32) &&& 31) = 0 from rfl, Int32.toBitVec_shiftLeft]
    simp
  have k8 : (v <<< ((8 : Int32) &&& 31)).toBitVec.toNat = (n / 256) <<< 8 := by
    rw [show ((8 : Int32) &&& 31) = 8 from rfl, Int32.toBitVec_shiftLeft]
    show (v.toBitVec <<< 8).toNat = _
    rw [BitVec.toNat_shiftLeft, b8, Nat.mod_eq_of_lt (by omega : n / 256 < 256), Nat.shiftLeft_eq]
    omega
  apply Int32.toBitVec_inj.mp
  apply BitVec.eq_of_toNat_eq
  rw [Int32.toBitVec_or, BitVec.toNat_or, k0, b0, k8, n32, Nat.or_comm, ← Nat.shiftLeft_add_eq_or_of_lt (by omega : n % 256 < 2 ^ 8), Nat.shiftLeft_eq]
  omega
theorem own_w1 {c : Int32} (h : ¬ c < 0 ∧ ¬ (65535 : Int32) < c) : nar .char (((((nar .byte ((c >>> ((0 : Int32) &&& 31)).toInt8.toInt32)) &&& (255 : Int32)) <<< ((0 : Int32) &&& 31)) ||| (((nar .byte ((c >>> ((8 : Int32) &&& 31)).toInt8.toInt32)) &&& (255 : Int32)) <<< ((8 : Int32) &&& 31))).toUInt32.toUInt16.toUInt32.toInt32) = c := by
  show nar .char (nar .char ((((nar .byte ((c >>> ((0 : Int32) &&& 31)).toInt8.toInt32)) &&& (255 : Int32)) <<< ((0 : Int32) &&& 31)) ||| (((nar .byte ((c >>> ((8 : Int32) &&& 31)).toInt8.toInt32)) &&& (255 : Int32)) <<< ((8 : Int32) &&& 31)))) = c
  rw [own_w h, own_narc h, own_narc h]
theorem own_wide {c : Int32} (h : ¬ c < 0 ∧ ¬ (65535 : Int32) < c) : nar .char (nar .char (nar .char (((((nar .byte ((c >>> ((0 : Int32) &&& 31)).toInt8.toInt32)) &&& (255 : Int32)) <<< ((0 : Int32) &&& 31)) ||| (((nar .byte ((c >>> ((8 : Int32) &&& 31)).toInt8.toInt32)) &&& (255 : Int32)) <<< ((8 : Int32) &&& 31))).toUInt32.toUInt16.toUInt32.toInt32))) = c := by rw [own_w1 h, own_narc h, own_narc h]
/-- the String's four chars: its coder, its array's length and values -/
def Str4 (c0 c1 c2 c3 cd nB : Int32) (vs : List Value) : Prop := (cd = 0 ∧ nB = 4 ∧ vs = [(.int (nar .byte (c0.toInt8.toInt32))), (.int (nar .byte (c1.toInt8.toInt32))), (.int (nar .byte (c2.toInt8.toInt32))), (.int (nar .byte (c3.toInt8.toInt32)))] ∧ (¬ (255 : Int32) < c0 ∧ ¬ (255 : Int32) < c1 ∧ ¬ (255 : Int32) < c2 ∧ ¬ (255 : Int32) < c3)) ∨ (cd = 1 ∧ nB = 8 ∧ vs = [(.int (nar .byte ((c0 >>> ((0 : Int32) &&& 31)).toInt8.toInt32))), (.int (nar .byte ((c0 >>> ((8 : Int32) &&& 31)).toInt8.toInt32))), (.int (nar .byte ((c1 >>> ((0 : Int32) &&& 31)).toInt8.toInt32))), (.int (nar .byte ((c1 >>> ((8 : Int32) &&& 31)).toInt8.toInt32))), (.int (nar .byte ((c2 >>> ((0 : Int32) &&& 31)).toInt8.toInt32))), (.int (nar .byte ((c2 >>> ((8 : Int32) &&& 31)).toInt8.toInt32))), (.int (nar .byte ((c3 >>> ((0 : Int32) &&& 31)).toInt8.toInt32))), (.int (nar .byte ((c3 >>> ((8 : Int32) &&& 31)).toInt8.toInt32)))])
def isC (c : Int32) : Prop := ¬ c < 0 ∧ ¬ (65535 : Int32) < c
def clo (st : Bool) : List (Int32 × Int32) → Int32
  | [] => -1
  | (i, c) :: r => if (if st then c = 34 else c = 8221) then i else if (st = false ∧ c = 8220) then -1 else clo st r

theorem ef_ch (m : MethodId) (x0 : Int32) : entryFrame m #[(.int x0)] 2 = mkF m 0 #[.val (.int x0), .unset] [] := by first | (simp [entryFrame, mkF, argsToLocals, Value.category]; done) | rfl
theorem pn_0 : plainName "com/example/planscribe/planscribe/terms/QuotesClosingPinLaw" = true := by first | (simp [plainName, overriddenIn]; done) | decide +kernel
theorem d_ch_0 : decode method_2_code 0 = .ok (.iload_n 0, 1) := by decide +kernel
theorem d_ch_1 : decode method_2_code 1 = .ok (.iconst 3, 1) := by decide +kernel
theorem d_ch_2 : decode method_2_code 2 = .ok (.iand, 1) := by decide +kernel
theorem d_ch_3 : decode method_2_code 3 = .ok (.istore_n 1, 1) := by decide +kernel
theorem d_ch_4 : decode method_2_code 4 = .ok (.iload_n 1, 1) := by decide +kernel
theorem d_ch_5 : decode method_2_code 5 = .ok (.ifCond .ne 6, 3) := by decide +kernel
theorem d_ch_8 : decode method_2_code 8 = .ok (.bipush 34, 2) := by decide +kernel
theorem d_ch_10 : decode method_2_code 10 = .ok (.ireturn, 1) := by decide +kernel
theorem d_ch_11 : decode method_2_code 11 = .ok (.iload_n 1, 1) := by decide +kernel
theorem d_ch_12 : decode method_2_code 12 = .ok (.iconst 1, 1) := by decide +kernel
theorem d_ch_13 : decode method_2_code 13 = .ok (.if_icmp .ne 7, 3) := by decide +kernel
theorem d_ch_16 : decode method_2_code 16 = .ok (.sipush 8220, 3) := by decide +kernel
theorem d_ch_19 : decode method_2_code 19 = .ok (.ireturn, 1) := by decide +kernel
theorem d_ch_20 : decode method_2_code 20 = .ok (.iload_n 1, 1) := by decide +kernel
theorem d_ch_21 : decode method_2_code 21 = .ok (.iconst 2, 1) := by decide +kernel
theorem d_ch_22 : decode method_2_code 22 = .ok (.if_icmp .ne 7, 3) := by decide +kernel
theorem d_ch_25 : decode method_2_code 25 = .ok (.sipush 8221, 3) := by decide +kernel
theorem d_ch_28 : decode method_2_code 28 = .ok (.ireturn, 1) := by decide +kernel
theorem d_ch_29 : decode method_2_code 29 = .ok (.iload_n 0, 1) := by decide +kernel
theorem d_ch_30 : decode method_2_code 30 = .ok (.iconst 2, 1) := by decide +kernel
theorem d_ch_31 : decode method_2_code 31 = .ok (.iushr, 1) := by decide +kernel
theorem d_ch_32 : decode method_2_code 32 = .ok (.ldc 7, 2) := by decide +kernel
theorem d_ch_34 : decode method_2_code 34 = .ok (.iand, 1) := by decide +kernel
theorem d_ch_35 : decode method_2_code 35 = .ok (.i2c, 1) := by decide +kernel
theorem d_ch_36 : decode method_2_code 36 = .ok (.ireturn, 1) := by decide +kernel
def Q_ch (Z : State) (pp : Int32) (h0 : Heap) (n0 : Nat) (v : Option Value) (h : Heap) (L : List Loc) : Prop := ∃ (r : Int32), v = some (.int r) ∧ Fr n0 L ∧ h = h0 ∧ (isC r)
set_option maxRecDepth 65536 in
set_option maxHeartbeats 40000000 in
theorem rm_ch (l : Launch) (Z : State) (a0 : Array Value) (hw : ∀ d ∈ tables_1, d.before a0 Z = true) (ws : List Jvm.Cond) (pp : Int32) (h0 : Heap) (n0 : Nat) (Z0 : n0 ≤ h0.size) :
    MetFree l (⟨"com/example/planscribe/planscribe/terms/QuotesClosingPinLaw", "ch", "(I)C"⟩ : MethodName) (head1 (Jvm.Cond.code (⟨"com/example/planscribe/planscribe/terms/QuotesClosingPinLaw", "ch", "(I)C"⟩ : MethodName) method_2_code 2 (some .char) :: ws) ({ frames := 0, cells := 0, slots := 0, locals := 0 } : Room)) (fun a U => a = #[(.int pp)] ∧ Z.Warmed39 U.vm ∧ U.heap = h0) (fun _ _ _ _ _ => True) (fun _ U o U' => ∃ v L, o = .returned v ∧ Q_ch Z pp h0 n0 v U'.heap L ∧ FrameEnd U o U' L ({ frames := 0, cells := 0, slots := 0, locals := 0 } : Room).cells ({ frames := 0, cells := 0, slots := 0, locals := 0 } : Room).slots) := by
  refine MetFree.of_bodySF (plainFor_of_name pn_0) hisR ?_
  intro p e s m args below meth c s₁ Bd hml0 hP hK
  obtain ⟨rfl, hZ, hh⟩ := hP
  have hx := Bd.exec
  have hby := Bd.bytes
  have hml : c.maxLocals = 2 := hml0
  have hown : s.vm.findClass "com/example/planscribe/planscribe/terms/QuotesClosingPinLaw" = some m.cls := findClass_of_methodNamed Bd.named
  have hnm := (name_of_methodNamed Bd.named Bd.method).1
  have X0 : Stand p l e ({ frames := 0, cells := 0, slots := 0, locals := 0 } : Room) s m #[(.int pp)] below meth c s₁ [] 0 0 := Stand.of_body Bd
  have e0 : s₁.heap = h0 := by rw [← hh, Bd.state]; rfl
  have N0 := Fr.nil n0
  obtain ⟨s0, hs0⟩ : ∃ z, z = (s₁.setTop (entryFrame m #[(.int pp)] 2)) := ⟨_, rfl⟩
  have P0 : ∀ t, GG p e below s₁ (mkF m 0 #[.val (.int pp), .unset] []) t → Steps p.tables e below s0 t := fun t kk_ => by rw [hs0]; exact castTop (ef_ch m pp) kk_
  have P1 : ∀ t, GG p e below s₁ (mkF m 5 #[.val (.int pp), .val (.int (pp &&& (3 : Int32)))] [(.int (pp &&& (3 : Int32)))]) t → Steps p.tables e below s0 t := fun t kk_ => P0 t (by
    refine XS.iloadN X0.here hx rfl (hb hby d_ch_0) rfl ?_
    refine XS.iconst X0.here hx rfl (hb hby d_ch_1) ?_
    refine XS.iand X0.here hx rfl (hb hby d_ch_2) rfl ?_
    refine XS.istoreN X0.here hx rfl (hb hby d_ch_3) rfl (l' := #[.val (.int pp), .val (.int (pp &&& (3 : Int32)))]) rfl ?_
    refine XS.iloadN X0.here hx rfl (hb hby d_ch_4) rfl ?_
    exact kk_)
  by_cases hc5_2 : (pp &&& (3 : Int32)) = (0 : Int32)
  ·
    have P3 : ∀ t, GG p e below s₁ (mkF m 10 #[.val (.int pp), .val (.int (pp &&& (3 : Int32)))] [(.int (34 : Int32))]) t → Steps p.tables e below s0 t := fun t kk_ => P1 t (by
      refine XS.ifNo X0.here hx rfl (hb hby d_ch_5) rfl ((if0 _ _).trans (teq (hc5_2 : (pp &&& (3 : Int32)) = (0 : Int32))).2) ?_
      refine XS.bipush X0.here hx rfl (hb hby d_ch_8) ?_
      exact kk_)
    subst hs0
    obtain ⟨fs, hr, hrun, hended, hW, hsame⟩ := X0.leave (v := some (.int (nar .char (34 : Int32)))) (fun h => by rw [Bd.returns] at h; cases h)
    refine ⟨_, _, P3 _ ?_, hrun, hended, _, _, rfl, ?_, ⟨_, rfl⟩, hW, hsame.mono (by decide) (by decide)⟩
    · show GG p e below s₁ (mkF m 10 #[.val (.int pp), .val (.int (pp &&& (3 : Int32)))] [(.int (34 : Int32))]) _
      exact retN X0 hx (t := .char) Bd.returns (by simp) (hb hby d_ch_10) hr
    · show Q_ch Z pp h0 n0 _ s₁.heap _
      rw [e0]
      exact ⟨(nar .char (34 : Int32)), rfl, N0, rfl, own_char _⟩
  ·
    have P4 : ∀ t, GG p e below s₁ (mkF m 13 #[.val (.int pp), .val (.int (pp &&& (3 : Int32)))] [(.int (1 : Int32)), (.int (pp &&& (3 : Int32)))]) t → Steps p.tables e below s0 t := fun t kk_ => P1 t (by
      refine XS.ifYes X0.here hx rfl (pc0 := 5) (pc' := 11) rfl (hb hby d_ch_5) rfl ((if0 _ _).trans (feq (hc5_2 : ¬ ((pp &&& (3 : Int32)) = (0 : Int32)))).2) (by decide) (by decide) ?_
      refine XS.iloadN X0.here hx rfl (hb hby d_ch_11) rfl ?_
      refine XS.iconst X0.here hx rfl (hb hby d_ch_12) ?_
      exact kk_)
    by_cases hc13_5 : (pp &&& (3 : Int32)) = (1 : Int32)
    ·
      have P6 : ∀ t, GG p e below s₁ (mkF m 19 #[.val (.int pp), .val (.int (pp &&& (3 : Int32)))] [(.int (8220 : Int32))]) t → Steps p.tables e below s0 t := fun t kk_ => P4 t (by
        refine XS.icmpNo X0.here hx rfl (hb hby d_ch_13) rfl (teq (hc13_5 : (pp &&& (3 : Int32)) = (1 : Int32))).2 ?_
        refine XS.sipush X0.here hx rfl (hb hby d_ch_16) ?_
        exact kk_)
      subst hs0
      obtain ⟨fs, hr, hrun, hended, hW, hsame⟩ := X0.leave (v := some (.int (nar .char (8220 : Int32)))) (fun h => by rw [Bd.returns] at h; cases h)
      refine ⟨_, _, P6 _ ?_, hrun, hended, _, _, rfl, ?_, ⟨_, rfl⟩, hW, hsame.mono (by decide) (by decide)⟩
      · show GG p e below s₁ (mkF m 19 #[.val (.int pp), .val (.int (pp &&& (3 : Int32)))] [(.int (8220 : Int32))]) _
        exact retN X0 hx (t := .char) Bd.returns (by simp) (hb hby d_ch_19) hr
      · show Q_ch Z pp h0 n0 _ s₁.heap _
        rw [e0]
        exact ⟨(nar .char (8220 : Int32)), rfl, N0, rfl, own_char _⟩
    ·
      have P7 : ∀ t, GG p e below s₁ (mkF m 22 #[.val (.int pp), .val (.int (pp &&& (3 : Int32)))] [(.int (2 : Int32)), (.int (pp &&& (3 : Int32)))]) t → Steps p.tables e below s0 t := fun t kk_ => P4 t (by
        refine XS.icmpYes X0.here hx rfl (pc0 := 13) (pc' := 20) rfl (hb hby d_ch_13) rfl (feq (hc13_5 : ¬ ((pp &&& (3 : Int32)) = (1 : Int32)))).2 (by decide) (by decide) ?_
        refine XS.iloadN X0.here hx rfl (hb hby d_ch_20) rfl ?_
        refine XS.iconst X0.here hx rfl (hb hby d_ch_21) ?_
        exact kk_)
      by_cases hc22_8 : (pp &&& (3 : Int32)) = (2 : Int32)
      ·
        have P9 : ∀ t, GG p e below s₁ (mkF m 28 #[.val (.int pp), .val (.int (pp &&& (3 : Int32)))] [(.int (8221 : Int32))]) t → Steps p.tables e below s0 t := fun t kk_ => P7 t (by
          refine XS.icmpNo X0.here hx rfl (hb hby d_ch_22) rfl (teq (hc22_8 : (pp &&& (3 : Int32)) = (2 : Int32))).2 ?_
          refine XS.sipush X0.here hx rfl (hb hby d_ch_25) ?_
          exact kk_)
        subst hs0
        obtain ⟨fs, hr, hrun, hended, hW, hsame⟩ := X0.leave (v := some (.int (nar .char (8221 : Int32)))) (fun h => by rw [Bd.returns] at h; cases h)
        refine ⟨_, _, P9 _ ?_, hrun, hended, _, _, rfl, ?_, ⟨_, rfl⟩, hW, hsame.mono (by decide) (by decide)⟩
        · show GG p e below s₁ (mkF m 28 #[.val (.int pp), .val (.int (pp &&& (3 : Int32)))] [(.int (8221 : Int32))]) _
          exact retN X0 hx (t := .char) Bd.returns (by simp) (hb hby d_ch_28) hr
        · show Q_ch Z pp h0 n0 _ s₁.heap _
          rw [e0]
          exact ⟨(nar .char (8221 : Int32)), rfl, N0, rfl, own_char _⟩
      ·
        have P10 : ∀ t, GG p e below s₁ (mkF m 36 #[.val (.int pp), .val (.int (pp &&& (3 : Int32)))] [(.int ((((pp.toUInt32 >>> ((2 : Int32) &&& 31).toUInt32).toInt32) &&& (65535 : Int32)).toUInt32.toUInt16.toUInt32.toInt32))]) t → Steps p.tables e below s0 t := fun t kk_ => P7 t (by
          refine XS.icmpYes X0.here hx rfl (pc0 := 22) (pc' := 29) rfl (hb hby d_ch_22) rfl (feq (hc22_8 : ¬ ((pp &&& (3 : Int32)) = (2 : Int32)))).2 (by decide) (by decide) ?_
          refine XS.iloadN X0.here hx rfl (hb hby d_ch_29) rfl ?_
          refine XS.iconst X0.here hx rfl (hb hby d_ch_30) ?_
          refine XS.iushr X0.here hx rfl (hb hby d_ch_31) rfl ?_
          refine X0.ldcInt hx hown (mw hZ hw 5 rfl) (g := (mkF m 32 #[.val (.int pp), .val (.int (pp &&& (3 : Int32)))] [(.int ((pp.toUInt32 >>> ((2 : Int32) &&& 31).toUInt32).toInt32))])) rfl (hb hby d_ch_32) _ ?_
          refine XS.iand X0.here hx rfl (hb hby d_ch_34) rfl ?_
          refine XS.i2c X0.here hx rfl (hb hby d_ch_35) rfl ?_
          exact kk_)
        subst hs0
        obtain ⟨fs, hr, hrun, hended, hW, hsame⟩ := X0.leave (v := some (.int (nar .char ((((pp.toUInt32 >>> ((2 : Int32) &&& 31).toUInt32).toInt32) &&& (65535 : Int32)).toUInt32.toUInt16.toUInt32.toInt32)))) (fun h => by rw [Bd.returns] at h; cases h)
        refine ⟨_, _, P10 _ ?_, hrun, hended, _, _, rfl, ?_, ⟨_, rfl⟩, hW, hsame.mono (by decide) (by decide)⟩
        · show GG p e below s₁ (mkF m 36 #[.val (.int pp), .val (.int (pp &&& (3 : Int32)))] [(.int ((((pp.toUInt32 >>> ((2 : Int32) &&& 31).toUInt32).toInt32) &&& (65535 : Int32)).toUInt32.toUInt16.toUInt32.toInt32))]) _
          exact retN X0 hx (t := .char) Bd.returns (by simp) (hb hby d_ch_36) hr
        · show Q_ch Z pp h0 n0 _ s₁.heap _
          rw [e0]
          exact ⟨(nar .char ((((pp.toUInt32 >>> ((2 : Int32) &&& 31).toUInt32).toInt32) &&& (65535 : Int32)).toUInt32.toUInt16.toUInt32.toInt32)), rfl, N0, rfl, own_char _⟩
theorem ef_compN (m : MethodId) (x0 : Addr) (x2 : Addr) : entryFrame m #[(.ref x0), (.int (0 : Int32)), (.ref x2), (.int (0 : Int32)), (.int (4 : Int32))] 7 = mkF m 0 #[.val (.ref x0), .val (.int (0 : Int32)), .val (.ref x2), .val (.int (0 : Int32)), .val (.int (4 : Int32)), .unset, .unset] [] := by first | (simp [entryFrame, mkF, argsToLocals, Value.category]; done) | rfl
theorem pn_1 : plainName "java/lang/StringUTF16" = true := by first | (simp [plainName, overriddenIn]; done) | decide +kernel
theorem d_compress_0 : decode jdk_52_method_21_code 0 = .ok (.iconst 0, 1) := by decide +kernel
theorem d_compress_1 : decode jdk_52_method_21_code 1 = .ok (.istore 5, 2) := by decide +kernel
theorem d_compress_3 : decode jdk_52_method_21_code 3 = .ok (.iload 5, 2) := by decide +kernel
theorem d_compress_5 : decode jdk_52_method_21_code 5 = .ok (.iload 4, 2) := by decide +kernel
theorem d_compress_7 : decode jdk_52_method_21_code 7 = .ok (.if_icmp .ge 37, 3) := by decide +kernel
theorem d_compress_10 : decode jdk_52_method_21_code 10 = .ok (.aload_n 0, 1) := by decide +kernel
theorem d_compress_11 : decode jdk_52_method_21_code 11 = .ok (.iload_n 1, 1) := by decide +kernel
theorem d_compress_12 : decode jdk_52_method_21_code 12 = .ok (.caload, 1) := by decide +kernel
theorem d_compress_13 : decode jdk_52_method_21_code 13 = .ok (.istore 6, 2) := by decide +kernel
theorem d_compress_15 : decode jdk_52_method_21_code 15 = .ok (.iload 6, 2) := by decide +kernel
theorem d_compress_17 : decode jdk_52_method_21_code 17 = .ok (.sipush 255, 3) := by decide +kernel
theorem d_compress_20 : decode jdk_52_method_21_code 20 = .ok (.if_icmp .le 6, 3) := by decide +kernel
theorem d_compress_23 : decode jdk_52_method_21_code 23 = .ok (.iload 5, 2) := by decide +kernel
theorem d_compress_25 : decode jdk_52_method_21_code 25 = .ok (.ireturn, 1) := by decide +kernel
theorem d_compress_26 : decode jdk_52_method_21_code 26 = .ok (.aload_n 2, 1) := by decide +kernel
theorem d_compress_27 : decode jdk_52_method_21_code 27 = .ok (.iload_n 3, 1) := by decide +kernel
theorem d_compress_28 : decode jdk_52_method_21_code 28 = .ok (.iload 6, 2) := by decide +kernel
theorem d_compress_30 : decode jdk_52_method_21_code 30 = .ok (.i2b, 1) := by decide +kernel
theorem d_compress_31 : decode jdk_52_method_21_code 31 = .ok (.bastore, 1) := by decide +kernel
theorem d_compress_32 : decode jdk_52_method_21_code 32 = .ok (.iinc 1 1, 3) := by decide +kernel
theorem d_compress_35 : decode jdk_52_method_21_code 35 = .ok (.iinc 3 1, 3) := by decide +kernel
theorem d_compress_38 : decode jdk_52_method_21_code 38 = .ok (.iinc 5 1, 3) := by decide +kernel
theorem d_compress_41 : decode jdk_52_method_21_code 41 = .ok (.goto (-38), 3) := by decide +kernel
theorem d_compress_44 : decode jdk_52_method_21_code 44 = .ok (.iload 4, 2) := by decide +kernel
theorem d_compress_46 : decode jdk_52_method_21_code 46 = .ok (.ireturn, 1) := by decide +kernel
def Q_compN (Z : State) (sa : Addr) (ks : ClassId) (da : Addr) (kd : ClassId) (c0 : Int32) (c1 : Int32) (c2 : Int32) (c3 : Int32) (h0 : Heap) (n0 : Nat) (v : Option Value) (h : Heap) (L : List Loc) : Prop := ∃ (r : Int32) (vs : List Value), v = some (.int r) ∧ Fr n0 L ∧ Keep h0 h [da] ∧ (Arv Z h da kd .byte (4 : Int32) vs (.int (0 : Int32))) ∧ ((r = 4 ∧ vs = [(.int (nar .byte (c0.toInt8.toInt32))), (.int (nar .byte (c1.toInt8.toInt32))), (.int (nar .byte (c2.toInt8.toInt32))), (.int (nar .byte (c3.toInt8.toInt32)))] ∧ (¬ (255 : Int32) < c0 ∧ ¬ (255 : Int32) < c1 ∧ ¬ (255 : Int32) < c2 ∧ ¬ (255 : Int32) < c3)) ∨ (r = 0 ∧ (255 : Int32) < c0) ∨ (r = 1 ∧ (255 : Int32) < c1) ∨ (r = 2 ∧ (255 : Int32) < c2) ∨ (r = 3 ∧ (255 : Int32) < c3))
set_option maxRecDepth 65536 in
set_option maxHeartbeats 40000000 in
theorem rm_compN (l : Launch) (Z : State) (a0 : Array Value) (hw : ∀ d ∈ tables_1, d.before a0 Z = true) (ws : List Jvm.Cond) (sa : Addr) (ks : ClassId) (da : Addr) (kd : ClassId) (c0 : Int32) (c1 : Int32) (c2 : Int32) (c3 : Int32) (h0 : Heap) (n0 : Nat) (Z0 : n0 ≤ h0.size) (V_sa : Arv Z h0 sa ks .char (4 : Int32) [(.int c0), (.int c1), (.int c2), (.int c3)] (.int (0 : Int32))) (V_da : Arv Z h0 da kd .byte (4 : Int32) [(.int (0 : Int32)), (.int (0 : Int32)), (.int (0 : Int32)), (.int (0 : Int32))] (.int (0 : Int32))) (g_da : n0 ≤ da) (ne_sa_da : sa ≠ da) :
    MetFree l (⟨"java/lang/StringUTF16", "compress", "([CI[BII)I"⟩ : MethodName) (head1 (Jvm.Cond.code (⟨"java/lang/StringUTF16", "compress", "([CI[BII)I"⟩ : MethodName) jdk_52_method_21_code 7 (some .int) :: ws) ({ frames := 0, cells := 0, slots := 0, locals := 0 } : Room)) (fun a U => a = #[(.ref sa), (.int (0 : Int32)), (.ref da), (.int (0 : Int32)), (.int (4 : Int32))] ∧ Z.Warmed39 U.vm ∧ U.heap = h0) (fun _ _ _ _ _ => True) (fun _ U o U' => ∃ v L, o = .returned v ∧ Q_compN Z sa ks da kd c0 c1 c2 c3 h0 n0 v U'.heap L ∧ FrameEnd U o U' L ({ frames := 0, cells := 0, slots := 0, locals := 0 } : Room).cells ({ frames := 0, cells := 0, slots := 0, locals := 0 } : Room).slots) := by
  refine MetFree.of_bodySF (plainFor_of_name pn_1) hisR ?_
  intro p e s m args below meth c s₁ Bd hml0 hP hK
  obtain ⟨rfl, hZ, hh⟩ := hP
  have hx := Bd.exec
  have hby := Bd.bytes
  have hml : c.maxLocals = 7 := hml0
  have hown : s.vm.findClass "java/lang/StringUTF16" = some m.cls := findClass_of_methodNamed Bd.named
  have hnm := (name_of_methodNamed Bd.named Bd.method).1
  have X0 : Stand p l e ({ frames := 0, cells := 0, slots := 0, locals := 0 } : Room) s m #[(.ref sa), (.int (0 : Int32)), (.ref da), (.int (0 : Int32)), (.int (4 : Int32))] below meth c s₁ [] 0 0 := Stand.of_body Bd
  have e0 : s₁.heap = h0 := by rw [← hh, Bd.state]; rfl
  have N0 := Fr.nil n0
  obtain ⟨s0, hs0⟩ : ∃ z, z = (s₁.setTop (entryFrame m #[(.ref sa), (.int (0 : Int32)), (.ref da), (.int (0 : Int32)), (.int (4 : Int32))] 7)) := ⟨_, rfl⟩
  have P0 : ∀ t, GG p e below s₁ (mkF m 0 #[.val (.ref sa), .val (.int (0 : Int32)), .val (.ref da), .val (.int (0 : Int32)), .val (.int (4 : Int32)), .unset, .unset] []) t → Steps p.tables e below s0 t := fun t kk_ => by rw [hs0]; exact castTop (ef_compN m sa da) kk_
  have P1 : ∀ t, GG p e below s₁ (mkF m 12 #[.val (.ref sa), .val (.int (0 : Int32)), .val (.ref da), .val (.int (0 : Int32)), .val (.int (4 : Int32)), .val (.int (0 : Int32)), .unset] [(.int (0 : Int32)), (.ref sa)]) t → Steps p.tables e below s0 t := fun t kk_ => P0 t (by
    refine XS.iconst X0.here hx rfl (hb hby d_compress_0) ?_
    refine XS.istore X0.here hx rfl (hb hby d_compress_1) rfl (l' := #[.val (.ref sa), .val (.int (0 : Int32)), .val (.ref da), .val (.int (0 : Int32)), .val (.int (4 : Int32)), .val (.int (0 : Int32)), .unset]) rfl ?_
    refine XS.iload X0.here hx rfl (hb hby d_compress_3) rfl ?_
    refine XS.iload X0.here hx rfl (hb hby d_compress_5) rfl ?_
    refine XS.icmpNo X0.here hx rfl (hb hby d_compress_7) rfl (tlt ((by decide) : (0 : Int32) < (4 : Int32))).2.1 ?_
    refine XS.aloadN X0.here hx rfl (hb hby d_compress_10) rfl rfl ?_
    refine XS.iloadN X0.here hx rfl (hb hby d_compress_11) rfl ?_
    exact kk_)
  obtain ⟨cl2, Ar2, q2, S2, M2, Hs2, G2⟩ := id V_sa
  have hin2 := inb_of (j := (0 : Int32)) S2 ⟨by decide, by decide⟩
  have hat2 : cl2.slots[((0 : Int32)).toNatClampNeg]? = some (.int c0) := Has.at Hs2 hin2 (rfl)
  have P3 : ∀ t, GG p e below s₁ (mkF m 13 #[.val (.ref sa), .val (.int (0 : Int32)), .val (.ref da), .val (.int (0 : Int32)), .val (.int (4 : Int32)), .val (.int (0 : Int32)), .unset] [(.int c0)]) t → Steps p.tables e below s0 t := fun t kk_ => P1 t (by
    refine X0.caload hx (j := (0 : Int32)) (v := (.int c0)) (by rw [e0]; exact Ar2.1) (State.isArrayOf_alike hZ.alike Ar2.2.1) Ar2.2.2 hin2 hat2 (g := (mkF m 12 #[.val (.ref sa), .val (.int (0 : Int32)), .val (.ref da), .val (.int (0 : Int32)), .val (.int (4 : Int32)), .val (.int (0 : Int32)), .unset] [(.int (0 : Int32)), (.ref sa)])) rfl rfl (hb hby d_compress_12) _ ?_
    exact kk_)
  have P4 : ∀ t, GG p e below s₁ (mkF m 20 #[.val (.ref sa), .val (.int (0 : Int32)), .val (.ref da), .val (.int (0 : Int32)), .val (.int (4 : Int32)), .val (.int (0 : Int32)), .val (.int c0)] [(.int (255 : Int32)), (.int c0)]) t → Steps p.tables e below s0 t := fun t kk_ => P3 t (by
    refine XS.istore X0.here hx rfl (hb hby d_compress_13) rfl (l' := #[.val (.ref sa), .val (.int (0 : Int32)), .val (.ref da), .val (.int (0 : Int32)), .val (.int (4 : Int32)), .val (.int (0 : Int32)), .val (.int c0)]) rfl ?_
    refine XS.iload X0.here hx rfl (hb hby d_compress_15) rfl ?_
    refine XS.sipush X0.here hx rfl (hb hby d_compress_17) ?_
    exact kk_)
  by_cases hc20_5 : (255 : Int32) < c0
  ·
    have P6 : ∀ t, GG p e below s₁ (mkF m 25 #[.val (.ref sa), .val (.int (0 : Int32)), .val (.ref da), .val (.int (0 : Int32)), .val (.int (4 : Int32)), .val (.int (0 : Int32)), .val (.int c0)] [(.int (0 : Int32))]) t → Steps p.tables e below s0 t := fun t kk_ => P4 t (by
      refine XS.icmpNo X0.here hx rfl (hb hby d_compress_20) rfl (tlt (hc20_5 : (255 : Int32) < c0)).2.2.2 ?_
      refine XS.iload X0.here hx rfl (hb hby d_compress_23) rfl ?_
      exact kk_)
    subst hs0
    obtain ⟨fs, hr, hrun, hended, hW, hsame⟩ := X0.leave (v := some (.int (0 : Int32))) (fun h => by rw [Bd.returns] at h; cases h)
    refine ⟨_, _, P6 _ ?_, hrun, hended, _, _, rfl, ?_, ⟨_, rfl⟩, hW, hsame.mono (by decide) (by decide)⟩
    · show GG p e below s₁ (mkF m 25 #[.val (.ref sa), .val (.int (0 : Int32)), .val (.ref da), .val (.int (0 : Int32)), .val (.int (4 : Int32)), .val (.int (0 : Int32)), .val (.int c0)] [(.int (0 : Int32))]) _
      exact retI X0 hx Bd.returns (hb hby d_compress_25) hr
    · show Q_compN Z sa ks da kd c0 c1 c2 c3 h0 n0 _ s₁.heap _
      rw [e0]
      exact ⟨(0 : Int32), [(.int (0 : Int32)), (.int (0 : Int32)), (.int (0 : Int32)), (.int (0 : Int32))], rfl, N0, (Keep.refl h0 [da]), V_da, Or.inr (Or.inl ⟨rfl, hc20_5⟩)⟩
  ·
    have P7 : ∀ t, GG p e below s₁ (mkF m 31 #[.val (.ref sa), .val (.int (0 : Int32)), .val (.ref da), .val (.int (0 : Int32)), .val (.int (4 : Int32)), .val (.int (0 : Int32)), .val (.int c0)] [(.int (c0.toInt8.toInt32)), (.int (0 : Int32)), (.ref da)]) t → Steps p.tables e below s0 t := fun t kk_ => P4 t (by
      refine XS.icmpYes X0.here hx rfl (pc0 := 20) (pc' := 26) rfl (hb hby d_compress_20) rfl (flt (hc20_5 : ¬ ((255 : Int32) < c0))).2.2.2 (by decide) (by decide) ?_
      refine XS.aloadN X0.here hx rfl (hb hby d_compress_26) rfl rfl ?_
      refine XS.iloadN X0.here hx rfl (hb hby d_compress_27) rfl ?_
      refine XS.iload X0.here hx rfl (hb hby d_compress_28) rfl ?_
      refine XS.i2b X0.here hx rfl (hb hby d_compress_30) rfl ?_
      exact kk_)
    obtain ⟨cl8, Ar8, q8, S8, M8, Hs8, G8⟩ := V_da
    obtain ⟨T8, h8, X8, e8, W8, st8⟩ := stB X0 hx hZ e0 Ar8 (j := (0 : Int32)) (inb_of S8 ⟨by decide, by decide⟩) (g := (mkF m 31 #[.val (.ref sa), .val (.int (0 : Int32)), .val (.ref da), .val (.int (0 : Int32)), .val (.int (4 : Int32)), .val (.int (0 : Int32)), .val (.int c0)] [(.int (c0.toInt8.toInt32)), (.int (0 : Int32)), (.ref da)])) rfl rfl (hb hby d_compress_31)
    have P9 : ∀ t, GG p e below T8 (mkF m 32 #[.val (.ref sa), .val (.int (0 : Int32)), .val (.ref da), .val (.int (0 : Int32)), .val (.int (4 : Int32)), .val (.int (0 : Int32)), .val (.int c0)] []) t → Steps p.tables e below s0 t := fun t kk_ => P7 t (st8 _ kk_)
    have N8 := Fr.snoc X8 N0 g_da
    have K8 : Keep h0 h8 [da] := (Keep.refl h0 [da]).wr W8 (Or.inl (List.mem_of_getElem? (i := 0) rfl))
    replace V_sa : Arv Z h8 sa ks .char (4 : Int32) [(.int c0), (.int c1), (.int c2), (.int c3)] (.int (0 : Int32)) := V_sa.other W8 ne_sa_da
    have V_da : Arv Z h8 da kd .byte (4 : Int32) [(.int (nar .byte (c0.toInt8.toInt32))), (.int (0 : Int32)), (.int (0 : Int32)), (.int (0 : Int32))] (.int (0 : Int32)) := Arv.set Ar8 q8 S8 M8 Hs8 G8 (fits_nar_byte _) W8 0 rfl (Nat.le_of_ble_eq_true rfl)
    have P10 : ∀ t, GG p e below T8 (mkF m 12 #[.val (.ref sa), .val (.int (1 : Int32)), .val (.ref da), .val (.int (1 : Int32)), .val (.int (4 : Int32)), .val (.int (1 : Int32)), .val (.int c0)] [(.int (1 : Int32)), (.ref sa)]) t → Steps p.tables e below s0 t := fun t kk_ => P9 t (by
      refine XS.iinc X8.here hx rfl (hb hby d_compress_32) rfl (l' := #[.val (.ref sa), .val (.int (1 : Int32)), .val (.ref da), .val (.int (0 : Int32)), .val (.int (4 : Int32)), .val (.int (0 : Int32)), .val (.int c0)]) rfl ?_
      refine XS.iinc X8.here hx rfl (hb hby d_compress_35) rfl (l' := #[.val (.ref sa), .val (.int (1 : Int32)), .val (.ref da), .val (.int (1 : Int32)), .val (.int (4 : Int32)), .val (.int (0 : Int32)), .val (.int c0)]) rfl ?_
      refine XS.iinc X8.here hx rfl (hb hby d_compress_38) rfl (l' := #[.val (.ref sa), .val (.int (1 : Int32)), .val (.ref da), .val (.int (1 : Int32)), .val (.int (4 : Int32)), .val (.int (1 : Int32)), .val (.int c0)]) rfl ?_
      refine XS.goto X8.here hx rfl (pc0 := 41) (pc' := 3) rfl (hb hby d_compress_41) (by decide) (by decide) ?_
      refine XS.iload X8.here hx rfl (hb hby d_compress_3) rfl ?_
      refine XS.iload X8.here hx rfl (hb hby d_compress_5) rfl ?_
      refine XS.icmpNo X8.here hx rfl (hb hby d_compress_7) rfl (tlt ((by decide) : (1 : Int32) < (4 : Int32))).2.1 ?_
      refine XS.aloadN X8.here hx rfl (hb hby d_compress_10) rfl rfl ?_
      refine XS.iloadN X8.here hx rfl (hb hby d_compress_11) rfl ?_
      exact kk_)
    obtain ⟨cl11, Ar11, q11, S11, M11, Hs11, G11⟩ := id V_sa
    have hin11 := inb_of (j := (1 : Int32)) S11 ⟨by decide, by decide⟩
    have hat11 : cl11.slots[((1 : Int32)).toNatClampNeg]? = some (.int c1) := Has.at Hs11 hin11 (rfl)
    have P12 : ∀ t, GG p e below T8 (mkF m 13 #[.val (.ref sa), .val (.int (1 : Int32)), .val (.ref da), .val (.int (1 : Int32)), .val (.int (4 : Int32)), .val (.int (1 : Int32)), .val (.int c0)] [(.int c1)]) t → Steps p.tables e below s0 t := fun t kk_ => P10 t (by
      refine X8.caload hx (j := (1 : Int32)) (v := (.int c1)) (by rw [e8]; exact Ar11.1) (State.isArrayOf_alike hZ.alike Ar11.2.1) Ar11.2.2 hin11 hat11 (g := (mkF m 12 #[.val (.ref sa), .val (.int (1 : Int32)), .val (.ref da), .val (.int (1 : Int32)), .val (.int (4 : Int32)), .val (.int (1 : Int32)), .val (.int c0)] [(.int (1 : Int32)), (.ref sa)])) rfl rfl (hb hby d_compress_12) _ ?_
      exact kk_)
    have P13 : ∀ t, GG p e below T8 (mkF m 20 #[.val (.ref sa), .val (.int (1 : Int32)), .val (.ref da), .val (.int (1 : Int32)), .val (.int (4 : Int32)), .val (.int (1 : Int32)), .val (.int c1)] [(.int (255 : Int32)), (.int c1)]) t → Steps p.tables e below s0 t := fun t kk_ => P12 t (by
      refine XS.istore X8.here hx rfl (hb hby d_compress_13) rfl (l' := #[.val (.ref sa), .val (.int (1 : Int32)), .val (.ref da), .val (.int (1 : Int32)), .val (.int (4 : Int32)), .val (.int (1 : Int32)), .val (.int c1)]) rfl ?_
      refine XS.iload X8.here hx rfl (hb hby d_compress_15) rfl ?_
      refine XS.sipush X8.here hx rfl (hb hby d_compress_17) ?_
      exact kk_)
    by_cases hc20_14 : (255 : Int32) < c1
    ·
      have P15 : ∀ t, GG p e below T8 (mkF m 25 #[.val (.ref sa), .val (.int (1 : Int32)), .val (.ref da), .val (.int (1 : Int32)), .val (.int (4 : Int32)), .val (.int (1 : Int32)), .val (.int c1)] [(.int (1 : Int32))]) t → Steps p.tables e below s0 t := fun t kk_ => P13 t (by
        refine XS.icmpNo X8.here hx rfl (hb hby d_compress_20) rfl (tlt (hc20_14 : (255 : Int32) < c1)).2.2.2 ?_
        refine XS.iload X8.here hx rfl (hb hby d_compress_23) rfl ?_
        exact kk_)
      subst hs0
      obtain ⟨fs, hr, hrun, hended, hW, hsame⟩ := X8.leave (v := some (.int (1 : Int32))) (fun h => by rw [Bd.returns] at h; cases h)
      refine ⟨_, _, P15 _ ?_, hrun, hended, _, _, rfl, ?_, ⟨_, rfl⟩, hW, hsame.mono (by decide) (by decide)⟩
      · show GG p e below T8 (mkF m 25 #[.val (.ref sa), .val (.int (1 : Int32)), .val (.ref da), .val (.int (1 : Int32)), .val (.int (4 : Int32)), .val (.int (1 : Int32)), .val (.int c1)] [(.int (1 : Int32))]) _
        exact retI X8 hx Bd.returns (hb hby d_compress_25) hr
      · show Q_compN Z sa ks da kd c0 c1 c2 c3 h0 n0 _ T8.heap _
        rw [e8]
        exact ⟨(1 : Int32), [(.int (nar .byte (c0.toInt8.toInt32))), (.int (0 : Int32)), (.int (0 : Int32)), (.int (0 : Int32))], rfl, N8, K8, V_da, Or.inr (Or.inr (Or.inl ⟨rfl, hc20_14⟩))⟩
    ·
      have P16 : ∀ t, GG p e below T8 (mkF m 31 #[.val (.ref sa), .val (.int (1 : Int32)), .val (.ref da), .val (.int (1 : Int32)), .val (.int (4 : Int32)), .val (.int (1 : Int32)), .val (.int c1)] [(.int (c1.toInt8.toInt32)), (.int (1 : Int32)), (.ref da)]) t → Steps p.tables e below s0 t := fun t kk_ => P13 t (by
        refine XS.icmpYes X8.here hx rfl (pc0 := 20) (pc' := 26) rfl (hb hby d_compress_20) rfl (flt (hc20_14 : ¬ ((255 : Int32) < c1))).2.2.2 (by decide) (by decide) ?_
        refine XS.aloadN X8.here hx rfl (hb hby d_compress_26) rfl rfl ?_
        refine XS.iloadN X8.here hx rfl (hb hby d_compress_27) rfl ?_
        refine XS.iload X8.here hx rfl (hb hby d_compress_28) rfl ?_
        refine XS.i2b X8.here hx rfl (hb hby d_compress_30) rfl ?_
        exact kk_)
      obtain ⟨cl17, Ar17, q17, S17, M17, Hs17, G17⟩ := V_da
      obtain ⟨T17, h17, X17, e17, W17, st17⟩ := stB X8 hx hZ e8 Ar17 (j := (1 : Int32)) (inb_of S17 ⟨by decide, by decide⟩) (g := (mkF m 31 #[.val (.ref sa), .val (.int (1 : Int32)), .val (.ref da), .val (.int (1 : Int32)), .val (.int (4 : Int32)), .val (.int (1 : Int32)), .val (.int c1)] [(.int (c1.toInt8.toInt32)), (.int (1 : Int32)), (.ref da)])) rfl rfl (hb hby d_compress_31)
      have P18 : ∀ t, GG p e below T17 (mkF m 32 #[.val (.ref sa), .val (.int (1 : Int32)), .val (.ref da), .val (.int (1 : Int32)), .val (.int (4 : Int32)), .val (.int (1 : Int32)), .val (.int c1)] []) t → Steps p.tables e below s0 t := fun t kk_ => P16 t (st17 _ kk_)
      have N17 := Fr.snoc X17 N8 g_da
      have K17 : Keep h0 h17 [da] := K8.wr W17 (Or.inl (List.mem_of_getElem? (i := 0) rfl))
      replace V_sa : Arv Z h17 sa ks .char (4 : Int32) [(.int c0), (.int c1), (.int c2), (.int c3)] (.int (0 : Int32)) := V_sa.other W17 ne_sa_da
      have V_da : Arv Z h17 da kd .byte (4 : Int32) [(.int (nar .byte (c0.toInt8.toInt32))), (.int (nar .byte (c1.toInt8.toInt32))), (.int (0 : Int32)), (.int (0 : Int32))] (.int (0 : Int32)) := Arv.set Ar17 q17 S17 M17 Hs17 G17 (fits_nar_byte _) W17 1 rfl (Nat.le_of_ble_eq_true rfl)
      have P19 : ∀ t, GG p e below T17 (mkF m 12 #[.val (.ref sa), .val (.int (2 : Int32)), .val (.ref da), .val (.int (2 : Int32)), .val (.int (4 : Int32)), .val (.int (2 : Int32)), .val (.int c1)] [(.int (2 : Int32)), (.ref sa)]) t → Steps p.tables e below s0 t := fun t kk_ => P18 t (by
        refine XS.iinc X17.here hx rfl (hb hby d_compress_32) rfl (l' := #[.val (.ref sa), .val (.int (2 : Int32)), .val (.ref da), .val (.int (1 : Int32)), .val (.int (4 : Int32)), .val (.int (1 : Int32)), .val (.int c1)]) rfl ?_
        refine XS.iinc X17.here hx rfl (hb hby d_compress_35) rfl (l' := #[.val (.ref sa), .val (.int (2 : Int32)), .val (.ref da), .val (.int (2 : Int32)), .val (.int (4 : Int32)), .val (.int (1 : Int32)), .val (.int c1)]) rfl ?_
        refine XS.iinc X17.here hx rfl (hb hby d_compress_38) rfl (l' := #[.val (.ref sa), .val (.int (2 : Int32)), .val (.ref da), .val (.int (2 : Int32)), .val (.int (4 : Int32)), .val (.int (2 : Int32)), .val (.int c1)]) rfl ?_
        refine XS.goto X17.here hx rfl (pc0 := 41) (pc' := 3) rfl (hb hby d_compress_41) (by decide) (by decide) ?_
        refine XS.iload X17.here hx rfl (hb hby d_compress_3) rfl ?_
        refine XS.iload X17.here hx rfl (hb hby d_compress_5) rfl ?_
        refine XS.icmpNo X17.here hx rfl (hb hby d_compress_7) rfl (tlt ((by decide) : (2 : Int32) < (4 : Int32))).2.1 ?_
        refine XS.aloadN X17.here hx rfl (hb hby d_compress_10) rfl rfl ?_
        refine XS.iloadN X17.here hx rfl (hb hby d_compress_11) rfl ?_
        exact kk_)
      obtain ⟨cl20, Ar20, q20, S20, M20, Hs20, G20⟩ := id V_sa
      have hin20 := inb_of (j := (2 : Int32)) S20 ⟨by decide, by decide⟩
      have hat20 : cl20.slots[((2 : Int32)).toNatClampNeg]? = some (.int c2) := Has.at Hs20 hin20 (rfl)
      have P21 : ∀ t, GG p e below T17 (mkF m 13 #[.val (.ref sa), .val (.int (2 : Int32)), .val (.ref da), .val (.int (2 : Int32)), .val (.int (4 : Int32)), .val (.int (2 : Int32)), .val (.int c1)] [(.int c2)]) t → Steps p.tables e below s0 t := fun t kk_ => P19 t (by
        refine X17.caload hx (j := (2 : Int32)) (v := (.int c2)) (by rw [e17]; exact Ar20.1) (State.isArrayOf_alike hZ.alike Ar20.2.1) Ar20.2.2 hin20 hat20 (g := (mkF m 12 #[.val (.ref sa), .val (.int (2 : Int32)), .val (.ref da), .val (.int (2 : Int32)), .val (.int (4 : Int32)), .val (.int (2 : Int32)), .val (.int c1)] [(.int (2 : Int32)), (.ref sa)])) rfl rfl (hb hby d_compress_12) _ ?_
        exact kk_)
      have P22 : ∀ t, GG p e below T17 (mkF m 20 #[.val (.ref sa), .val (.int (2 : Int32)), .val (.ref da), .val (.int (2 : Int32)), .val (.int (4 : Int32)), .val (.int (2 : Int32)), .val (.int c2)] [(.int (255 : Int32)), (.int c2)]) t → Steps p.tables e below s0 t := fun t kk_ => P21 t (by
        refine XS.istore X17.here hx rfl (hb hby d_compress_13) rfl (l' := #[.val (.ref sa), .val (.int (2 : Int32)), .val (.ref da), .val (.int (2 : Int32)), .val (.int (4 : Int32)), .val (.int (2 : Int32)), .val (.int c2)]) rfl ?_
        refine XS.iload X17.here hx rfl (hb hby d_compress_15) rfl ?_
        refine XS.sipush X17.here hx rfl (hb hby d_compress_17) ?_
        exact kk_)
      by_cases hc20_23 : (255 : Int32) < c2
      ·
        have P24 : ∀ t, GG p e below T17 (mkF m 25 #[.val (.ref sa), .val (.int (2 : Int32)), .val (.ref da), .val (.int (2 : Int32)), .val (.int (4 : Int32)), .val (.int (2 : Int32)), .val (.int c2)] [(.int (2 : Int32))]) t → Steps p.tables e below s0 t := fun t kk_ => P22 t (by
          refine XS.icmpNo X17.here hx rfl (hb hby d_compress_20) rfl (tlt (hc20_23 : (255 : Int32) < c2)).2.2.2 ?_
          refine XS.iload X17.here hx rfl (hb hby d_compress_23) rfl ?_
          exact kk_)
        subst hs0
        obtain ⟨fs, hr, hrun, hended, hW, hsame⟩ := X17.leave (v := some (.int (2 : Int32))) (fun h => by rw [Bd.returns] at h; cases h)
        refine ⟨_, _, P24 _ ?_, hrun, hended, _, _, rfl, ?_, ⟨_, rfl⟩, hW, hsame.mono (by decide) (by decide)⟩
        · show GG p e below T17 (mkF m 25 #[.val (.ref sa), .val (.int (2 : Int32)), .val (.ref da), .val (.int (2 : Int32)), .val (.int (4 : Int32)), .val (.int (2 : Int32)), .val (.int c2)] [(.int (2 : Int32))]) _
          exact retI X17 hx Bd.returns (hb hby d_compress_25) hr
        · show Q_compN Z sa ks da kd c0 c1 c2 c3 h0 n0 _ T17.heap _
          rw [e17]
          exact ⟨(2 : Int32), [(.int (nar .byte (c0.toInt8.toInt32))), (.int (nar .byte (c1.toInt8.toInt32))), (.int (0 : Int32)), (.int (0 : Int32))], rfl, N17, K17, V_da, Or.inr (Or.inr (Or.inr (Or.inl ⟨rfl, hc20_23⟩)))⟩
      ·
        have P25 : ∀ t, GG p e below T17 (mkF m 31 #[.val (.ref sa), .val (.int (2 : Int32)), .val (.ref da), .val (.int (2 : Int32)), .val (.int (4 : Int32)), .val (.int (2 : Int32)), .val (.int c2)] [(.int (c2.toInt8.toInt32)), (.int (2 : Int32)), (.ref da)]) t → Steps p.tables e below s0 t := fun t kk_ => P22 t (by
          refine XS.icmpYes X17.here hx rfl (pc0 := 20) (pc' := 26) rfl (hb hby d_compress_20) rfl (flt (hc20_23 : ¬ ((255 : Int32) < c2))).2.2.2 (by decide) (by decide) ?_
          refine XS.aloadN X17.here hx rfl (hb hby d_compress_26) rfl rfl ?_
          refine XS.iloadN X17.here hx rfl (hb hby d_compress_27) rfl ?_
          refine XS.iload X17.here hx rfl (hb hby d_compress_28) rfl ?_
          refine XS.i2b X17.here hx rfl (hb hby d_compress_30) rfl ?_
          exact kk_)
        obtain ⟨cl26, Ar26, q26, S26, M26, Hs26, G26⟩ := V_da
        obtain ⟨T26, h26, X26, e26, W26, st26⟩ := stB X17 hx hZ e17 Ar26 (j := (2 : Int32)) (inb_of S26 ⟨by decide, by decide⟩) (g := (mkF m 31 #[.val (.ref sa), .val (.int (2 : Int32)), .val (.ref da), .val (.int (2 : Int32)), .val (.int (4 : Int32)), .val (.int (2 : Int32)), .val (.int c2)] [(.int (c2.toInt8.toInt32)), (.int (2 : Int32)), (.ref da)])) rfl rfl (hb hby d_compress_31)
        have P27 : ∀ t, GG p e below T26 (mkF m 32 #[.val (.ref sa), .val (.int (2 : Int32)), .val (.ref da), .val (.int (2 : Int32)), .val (.int (4 : Int32)), .val (.int (2 : Int32)), .val (.int c2)] []) t → Steps p.tables e below s0 t := fun t kk_ => P25 t (st26 _ kk_)
        have N26 := Fr.snoc X26 N17 g_da
        have K26 : Keep h0 h26 [da] := K17.wr W26 (Or.inl (List.mem_of_getElem? (i := 0) rfl))
        replace V_sa : Arv Z h26 sa ks .char (4 : Int32) [(.int c0), (.int c1), (.int c2), (.int c3)] (.int (0 : Int32)) := V_sa.other W26 ne_sa_da
        have V_da : Arv Z h26 da kd .byte (4 : Int32) [(.int (nar .byte (c0.toInt8.toInt32))), (.int (nar .byte (c1.toInt8.toInt32))), (.int (nar .byte (c2.toInt8.toInt32))), (.int (0 : Int32))] (.int (0 : Int32)) := Arv.set Ar26 q26 S26 M26 Hs26 G26 (fits_nar_byte _) W26 2 rfl (Nat.le_of_ble_eq_true rfl)
        have P28 : ∀ t, GG p e below T26 (mkF m 12 #[.val (.ref sa), .val (.int (3 : Int32)), .val (.ref da), .val (.int (3 : Int32)), .val (.int (4 : Int32)), .val (.int (3 : Int32)), .val (.int c2)] [(.int (3 : Int32)), (.ref sa)]) t → Steps p.tables e below s0 t := fun t kk_ => P27 t (by
          refine XS.iinc X26.here hx rfl (hb hby d_compress_32) rfl (l' := #[.val (.ref sa), .val (.int (3 : Int32)), .val (.ref da), .val (.int (2 : Int32)), .val (.int (4 : Int32)), .val (.int (2 : Int32)), .val (.int c2)]) rfl ?_
          refine XS.iinc X26.here hx rfl (hb hby d_compress_35) rfl (l' := #[.val (.ref sa), .val (.int (3 : Int32)), .val (.ref da), .val (.int (3 : Int32)), .val (.int (4 : Int32)), .val (.int (2 : Int32)), .val (.int c2)]) rfl ?_
          refine XS.iinc X26.here hx rfl (hb hby d_compress_38) rfl (l' := #[.val (.ref sa), .val (.int (3 : Int32)), .val (.ref da), .val (.int (3 : Int32)), .val (.int (4 : Int32)), .val (.int (3 : Int32)), .val (.int c2)]) rfl ?_
          refine XS.goto X26.here hx rfl (pc0 := 41) (pc' := 3) rfl (hb hby d_compress_41) (by decide) (by decide) ?_
          refine XS.iload X26.here hx rfl (hb hby d_compress_3) rfl ?_
          refine XS.iload X26.here hx rfl (hb hby d_compress_5) rfl ?_
          refine XS.icmpNo X26.here hx rfl (hb hby d_compress_7) rfl (tlt ((by decide) : (3 : Int32) < (4 : Int32))).2.1 ?_
          refine XS.aloadN X26.here hx rfl (hb hby d_compress_10) rfl rfl ?_
          refine XS.iloadN X26.here hx rfl (hb hby d_compress_11) rfl ?_
          exact kk_)
        obtain ⟨cl29, Ar29, q29, S29, M29, Hs29, G29⟩ := id V_sa
        have hin29 := inb_of (j := (3 : Int32)) S29 ⟨by decide, by decide⟩
        have hat29 : cl29.slots[((3 : Int32)).toNatClampNeg]? = some (.int c3) := Has.at Hs29 hin29 (rfl)
        have P30 : ∀ t, GG p e below T26 (mkF m 13 #[.val (.ref sa), .val (.int (3 : Int32)), .val (.ref da), .val (.int (3 : Int32)), .val (.int (4 : Int32)), .val (.int (3 : Int32)), .val (.int c2)] [(.int c3)]) t → Steps p.tables e below s0 t := fun t kk_ => P28 t (by
          refine X26.caload hx (j := (3 : Int32)) (v := (.int c3)) (by rw [e26]; exact Ar29.1) (State.isArrayOf_alike hZ.alike Ar29.2.1) Ar29.2.2 hin29 hat29 (g := (mkF m 12 #[.val (.ref sa), .val (.int (3 : Int32)), .val (.ref da), .val (.int (3 : Int32)), .val (.int (4 : Int32)), .val (.int (3 : Int32)), .val (.int c2)] [(.int (3 : Int32)), (.ref sa)])) rfl rfl (hb hby d_compress_12) _ ?_
          exact kk_)
        have P31 : ∀ t, GG p e below T26 (mkF m 20 #[.val (.ref sa), .val (.int (3 : Int32)), .val (.ref da), .val (.int (3 : Int32)), .val (.int (4 : Int32)), .val (.int (3 : Int32)), .val (.int c3)] [(.int (255 : Int32)), (.int c3)]) t → Steps p.tables e below s0 t := fun t kk_ => P30 t (by
          refine XS.istore X26.here hx rfl (hb hby d_compress_13) rfl (l' := #[.val (.ref sa), .val (.int (3 : Int32)), .val (.ref da), .val (.int (3 : Int32)), .val (.int (4 : Int32)), .val (.int (3 : Int32)), .val (.int c3)]) rfl ?_
          refine XS.iload X26.here hx rfl (hb hby d_compress_15) rfl ?_
          refine XS.sipush X26.here hx rfl (hb hby d_compress_17) ?_
          exact kk_)
        by_cases hc20_32 : (255 : Int32) < c3
        ·
          have P33 : ∀ t, GG p e below T26 (mkF m 25 #[.val (.ref sa), .val (.int (3 : Int32)), .val (.ref da), .val (.int (3 : Int32)), .val (.int (4 : Int32)), .val (.int (3 : Int32)), .val (.int c3)] [(.int (3 : Int32))]) t → Steps p.tables e below s0 t := fun t kk_ => P31 t (by
            refine XS.icmpNo X26.here hx rfl (hb hby d_compress_20) rfl (tlt (hc20_32 : (255 : Int32) < c3)).2.2.2 ?_
            refine XS.iload X26.here hx rfl (hb hby d_compress_23) rfl ?_
            exact kk_)
          subst hs0
          obtain ⟨fs, hr, hrun, hended, hW, hsame⟩ := X26.leave (v := some (.int (3 : Int32))) (fun h => by rw [Bd.returns] at h; cases h)
          refine ⟨_, _, P33 _ ?_, hrun, hended, _, _, rfl, ?_, ⟨_, rfl⟩, hW, hsame.mono (by decide) (by decide)⟩
          · show GG p e below T26 (mkF m 25 #[.val (.ref sa), .val (.int (3 : Int32)), .val (.ref da), .val (.int (3 : Int32)), .val (.int (4 : Int32)), .val (.int (3 : Int32)), .val (.int c3)] [(.int (3 : Int32))]) _
            exact retI X26 hx Bd.returns (hb hby d_compress_25) hr
          · show Q_compN Z sa ks da kd c0 c1 c2 c3 h0 n0 _ T26.heap _
            rw [e26]
            exact ⟨(3 : Int32), [(.int (nar .byte (c0.toInt8.toInt32))), (.int (nar .byte (c1.toInt8.toInt32))), (.int (nar .byte (c2.toInt8.toInt32))), (.int (0 : Int32))], rfl, N26, K26, V_da, Or.inr (Or.inr (Or.inr (Or.inr (⟨rfl, hc20_32⟩))))⟩
        ·
          have P34 : ∀ t, GG p e below T26 (mkF m 31 #[.val (.ref sa), .val (.int (3 : Int32)), .val (.ref da), .val (.int (3 : Int32)), .val (.int (4 : Int32)), .val (.int (3 : Int32)), .val (.int c3)] [(.int (c3.toInt8.toInt32)), (.int (3 : Int32)), (.ref da)]) t → Steps p.tables e below s0 t := fun t kk_ => P31 t (by
            refine XS.icmpYes X26.here hx rfl (pc0 := 20) (pc' := 26) rfl (hb hby d_compress_20) rfl (flt (hc20_32 : ¬ ((255 : Int32) < c3))).2.2.2 (by decide) (by decide) ?_
            refine XS.aloadN X26.here hx rfl (hb hby d_compress_26) rfl rfl ?_
            refine XS.iloadN X26.here hx rfl (hb hby d_compress_27) rfl ?_
            refine XS.iload X26.here hx rfl (hb hby d_compress_28) rfl ?_
            refine XS.i2b X26.here hx rfl (hb hby d_compress_30) rfl ?_
            exact kk_)
          obtain ⟨cl35, Ar35, q35, S35, M35, Hs35, G35⟩ := V_da
          obtain ⟨T35, h35, X35, e35, W35, st35⟩ := stB X26 hx hZ e26 Ar35 (j := (3 : Int32)) (inb_of S35 ⟨by decide, by decide⟩) (g := (mkF m 31 #[.val (.ref sa), .val (.int (3 : Int32)), .val (.ref da), .val (.int (3 : Int32)), .val (.int (4 : Int32)), .val (.int (3 : Int32)), .val (.int c3)] [(.int (c3.toInt8.toInt32)), (.int (3 : Int32)), (.ref da)])) rfl rfl (hb hby d_compress_31)
          have P36 : ∀ t, GG p e below T35 (mkF m 32 #[.val (.ref sa), .val (.int (3 : Int32)), .val (.ref da), .val (.int (3 : Int32)), .val (.int (4 : Int32)), .val (.int (3 : Int32)), .val (.int c3)] []) t → Steps p.tables e below s0 t := fun t kk_ => P34 t (st35 _ kk_)
          have N35 := Fr.snoc X35 N26 g_da
          have K35 : Keep h0 h35 [da] := K26.wr W35 (Or.inl (List.mem_of_getElem? (i := 0) rfl))
          replace V_sa : Arv Z h35 sa ks .char (4 : Int32) [(.int c0), (.int c1), (.int c2), (.int c3)] (.int (0 : Int32)) := V_sa.other W35 ne_sa_da
          have V_da : Arv Z h35 da kd .byte (4 : Int32) [(.int (nar .byte (c0.toInt8.toInt32))), (.int (nar .byte (c1.toInt8.toInt32))), (.int (nar .byte (c2.toInt8.toInt32))), (.int (nar .byte (c3.toInt8.toInt32)))] (.int (0 : Int32)) := Arv.set Ar35 q35 S35 M35 Hs35 G35 (fits_nar_byte _) W35 3 rfl (Nat.le_of_ble_eq_true rfl)
          have P37 : ∀ t, GG p e below T35 (mkF m 46 #[.val (.ref sa), .val (.int (4 : Int32)), .val (.ref da), .val (.int (4 : Int32)), .val (.int (4 : Int32)), .val (.int (4 : Int32)), .val (.int c3)] [(.int (4 : Int32))]) t → Steps p.tables e below s0 t := fun t kk_ => P36 t (by
            refine XS.iinc X35.here hx rfl (hb hby d_compress_32) rfl (l' := #[.val (.ref sa), .val (.int (4 : Int32)), .val (.ref da), .val (.int (3 : Int32)), .val (.int (4 : Int32)), .val (.int (3 : Int32)), .val (.int c3)]) rfl ?_
            refine XS.iinc X35.here hx rfl (hb hby d_compress_35) rfl (l' := #[.val (.ref sa), .val (.int (4 : Int32)), .val (.ref da), .val (.int (4 : Int32)), .val (.int (4 : Int32)), .val (.int (3 : Int32)), .val (.int c3)]) rfl ?_
            refine XS.iinc X35.here hx rfl (hb hby d_compress_38) rfl (l' := #[.val (.ref sa), .val (.int (4 : Int32)), .val (.ref da), .val (.int (4 : Int32)), .val (.int (4 : Int32)), .val (.int (4 : Int32)), .val (.int c3)]) rfl ?_
            refine XS.goto X35.here hx rfl (pc0 := 41) (pc' := 3) rfl (hb hby d_compress_41) (by decide) (by decide) ?_
            refine XS.iload X35.here hx rfl (hb hby d_compress_3) rfl ?_
            refine XS.iload X35.here hx rfl (hb hby d_compress_5) rfl ?_
            refine XS.icmpYes X35.here hx rfl (pc0 := 7) (pc' := 44) rfl (hb hby d_compress_7) rfl (flt ((by decide) : ¬ ((4 : Int32) < (4 : Int32)))).2.1 (by decide) (by decide) ?_
            refine XS.iload X35.here hx rfl (hb hby d_compress_44) rfl ?_
            exact kk_)
          subst hs0
          obtain ⟨fs, hr, hrun, hended, hW, hsame⟩ := X35.leave (v := some (.int (4 : Int32))) (fun h => by rw [Bd.returns] at h; cases h)
          refine ⟨_, _, P37 _ ?_, hrun, hended, _, _, rfl, ?_, ⟨_, rfl⟩, hW, hsame.mono (by decide) (by decide)⟩
          · show GG p e below T35 (mkF m 46 #[.val (.ref sa), .val (.int (4 : Int32)), .val (.ref da), .val (.int (4 : Int32)), .val (.int (4 : Int32)), .val (.int (4 : Int32)), .val (.int c3)] [(.int (4 : Int32))]) _
            exact retI X35 hx Bd.returns (hb hby d_compress_46) hr
          · show Q_compN Z sa ks da kd c0 c1 c2 c3 h0 n0 _ T35.heap _
            rw [e35]
            exact ⟨(4 : Int32), [(.int (nar .byte (c0.toInt8.toInt32))), (.int (nar .byte (c1.toInt8.toInt32))), (.int (nar .byte (c2.toInt8.toInt32))), (.int (nar .byte (c3.toInt8.toInt32)))], rfl, N35, K35, V_da, Or.inl ⟨rfl, rfl, hc20_5, hc20_14, hc20_23, hc20_32⟩⟩
theorem ef_newBytesLength (m : MethodId)  : entryFrame m #[(.int (4 : Int32))] 1 = mkF m 0 #[.val (.int (4 : Int32))] [] := by first | (simp [entryFrame, mkF, argsToLocals, Value.category]; done) | rfl
theorem d_newBytesLength_0 : decode jdk_52_method_3_code 0 = .ok (.iload_n 0, 1) := by decide +kernel
theorem d_newBytesLength_1 : decode jdk_52_method_3_code 1 = .ok (.ifCond .ge 11, 3) := by decide +kernel
theorem d_newBytesLength_12 : decode jdk_52_method_3_code 12 = .ok (.iload_n 0, 1) := by decide +kernel
theorem d_newBytesLength_13 : decode jdk_52_method_3_code 13 = .ok (.ldc 20, 2) := by decide +kernel
theorem d_newBytesLength_15 : decode jdk_52_method_3_code 15 = .ok (.if_icmp .lt 40, 3) := by decide +kernel
theorem d_newBytesLength_55 : decode jdk_52_method_3_code 55 = .ok (.iload_n 0, 1) := by decide +kernel
theorem d_newBytesLength_56 : decode jdk_52_method_3_code 56 = .ok (.iconst 1, 1) := by decide +kernel
theorem d_newBytesLength_57 : decode jdk_52_method_3_code 57 = .ok (.ishl, 1) := by decide +kernel
theorem d_newBytesLength_58 : decode jdk_52_method_3_code 58 = .ok (.ireturn, 1) := by decide +kernel
def Q_newBytesLength (Z : State) (h0 : Heap) (n0 : Nat) (v : Option Value) (h : Heap) (L : List Loc) : Prop := v = some (.int (8 : Int32)) ∧ Fr n0 L ∧ h = h0
set_option maxRecDepth 65536 in
set_option maxHeartbeats 40000000 in
theorem rm_newBytesLength (l : Launch) (Z : State) (a0 : Array Value) (hw : ∀ d ∈ tables_1, d.before a0 Z = true) (ws : List Jvm.Cond) (h0 : Heap) (n0 : Nat) (Z0 : n0 ≤ h0.size) :
    MetFree l (⟨"java/lang/StringUTF16", "newBytesLength", "(I)I"⟩ : MethodName) (head1 (Jvm.Cond.code (⟨"java/lang/StringUTF16", "newBytesLength", "(I)I"⟩ : MethodName) jdk_52_method_3_code 1 (some .int) :: ws) ({ frames := 0, cells := 0, slots := 0, locals := 0 } : Room)) (fun a U => a = #[(.int (4 : Int32))] ∧ Z.Warmed39 U.vm ∧ U.heap = h0) (fun _ _ _ _ _ => True) (fun _ U o U' => ∃ v L, o = .returned v ∧ Q_newBytesLength Z h0 n0 v U'.heap L ∧ FrameEnd U o U' L ({ frames := 0, cells := 0, slots := 0, locals := 0 } : Room).cells ({ frames := 0, cells := 0, slots := 0, locals := 0 } : Room).slots) := by
  refine MetFree.of_bodySF (plainFor_of_name pn_1) hisR ?_
  intro p e s m args below meth c s₁ Bd hml0 hP hK
  obtain ⟨rfl, hZ, hh⟩ := hP
  have hx := Bd.exec
  have hby := Bd.bytes
  have hml : c.maxLocals = 1 := hml0
  have hown : s.vm.findClass "java/lang/StringUTF16" = some m.cls := findClass_of_methodNamed Bd.named
  have hnm := (name_of_methodNamed Bd.named Bd.method).1
  have X0 : Stand p l e ({ frames := 0, cells := 0, slots := 0, locals := 0 } : Room) s m #[(.int (4 : Int32))] below meth c s₁ [] 0 0 := Stand.of_body Bd
  have e0 : s₁.heap = h0 := by rw [← hh, Bd.state]; rfl
  have N0 := Fr.nil n0
  obtain ⟨s0, hs0⟩ : ∃ z, z = (s₁.setTop (entryFrame m #[(.int (4 : Int32))] 1)) := ⟨_, rfl⟩
  have P0 : ∀ t, GG p e below s₁ (mkF m 0 #[.val (.int (4 : Int32))] []) t → Steps p.tables e below s0 t := fun t kk_ => by rw [hs0]; exact castTop (ef_newBytesLength m ) kk_
  have P1 : ∀ t, GG p e below s₁ (mkF m 58 #[.val (.int (4 : Int32))] [(.int (8 : Int32))]) t → Steps p.tables e below s0 t := fun t kk_ => P0 t (by
    refine XS.iloadN X0.here hx rfl (hb hby d_newBytesLength_0) rfl ?_
    refine XS.ifYes X0.here hx rfl (pc0 := 1) (pc' := 12) rfl (hb hby d_newBytesLength_1) rfl ((if0 _ _).trans (flt ((by decide) : ¬ ((4 : Int32) < (0 : Int32)))).2.1) (by decide) (by decide) ?_
    refine XS.iloadN X0.here hx rfl (hb hby d_newBytesLength_12) rfl ?_
    refine X0.ldcInt hx hown (mw hZ hw 37 rfl) (g := (mkF m 13 #[.val (.int (4 : Int32))] [(.int (4 : Int32))])) rfl (hb hby d_newBytesLength_13) _ ?_
    refine XS.icmpYes X0.here hx rfl (pc0 := 15) (pc' := 55) rfl (hb hby d_newBytesLength_15) rfl (tlt ((by decide) : (4 : Int32) < (1073741823 : Int32))).1 (by decide) (by decide) ?_
    refine XS.iloadN X0.here hx rfl (hb hby d_newBytesLength_55) rfl ?_
    refine XS.iconst X0.here hx rfl (hb hby d_newBytesLength_56) ?_
    refine XS.ishl X0.here hx rfl (hb hby d_newBytesLength_57) rfl ?_
    exact kk_)
  subst hs0
  obtain ⟨fs, hr, hrun, hended, hW, hsame⟩ := X0.leave (v := some (.int (8 : Int32))) (fun h => by rw [Bd.returns] at h; cases h)
  refine ⟨_, _, P1 _ ?_, hrun, hended, _, _, rfl, ?_, ⟨_, rfl⟩, hW, hsame.mono (by decide) (by decide)⟩
  · show GG p e below s₁ (mkF m 58 #[.val (.int (4 : Int32))] [(.int (8 : Int32))]) _
    exact retI X0 hx Bd.returns (hb hby d_newBytesLength_58) hr
  · show Q_newBytesLength Z h0 n0 _ s₁.heap _
    rw [e0]
    exact ⟨rfl, N0, rfl⟩
theorem ef_newBytesFor (m : MethodId)  : entryFrame m #[(.int (4 : Int32))] 1 = mkF m 0 #[.val (.int (4 : Int32))] [] := by first | (simp [entryFrame, mkF, argsToLocals, Value.category]; done) | rfl
theorem d_newBytesFor_0 : decode jdk_52_method_2_code 0 = .ok (.iload_n 0, 1) := by decide +kernel
theorem pd_0 : parseMethodDescriptor "(I)I" = some ⟨[.int], some .int⟩ := by decide +kernel
theorem d_newBytesFor_1 : decode jdk_52_method_2_code 1 = .ok (.invokestatic 11, 3) := by decide +kernel
abbrev mn_0 : MethodName := ⟨"java/lang/StringUTF16", "newBytesLength", "(I)I"⟩
theorem d_newBytesFor_4 : decode jdk_52_method_2_code 4 = .ok (.newarray .byte, 2) := by decide +kernel
theorem d_newBytesFor_6 : decode jdk_52_method_2_code 6 = .ok (.areturn, 1) := by decide +kernel
def Q_newBytesFor (Z : State) (h0 : Heap) (n0 : Nat) (v : Option Value) (h : Heap) (L : List Loc) : Prop := ∃ (t : Addr) (kb : ClassId), v = some (.ref t) ∧ Fr n0 L ∧ Keep h0 h [] ∧ (h0.size ≤ t) ∧ (Arv Z h t kb .byte (8 : Int32) [(.int (0 : Int32)), (.int (0 : Int32)), (.int (0 : Int32)), (.int (0 : Int32)), (.int (0 : Int32)), (.int (0 : Int32)), (.int (0 : Int32)), (.int (0 : Int32))] (.int (0 : Int32)))
set_option maxRecDepth 65536 in
set_option maxHeartbeats 40000000 in
theorem rm_newBytesFor (l : Launch) (Z : State) (a0 : Array Value) (hw : ∀ d ∈ tables_1, d.before a0 Z = true) (ws : List Jvm.Cond) (h0 : Heap) (n0 : Nat) (Z0 : n0 ≤ h0.size) :
    MetFree l (⟨"java/lang/StringUTF16", "newBytesFor", "(I)[B"⟩ : MethodName) (head1 (Jvm.Cond.code (⟨"java/lang/StringUTF16", "newBytesFor", "(I)[B"⟩ : MethodName) jdk_52_method_2_code 1 (some (.array .byte)) :: ws) ({ frames := 1, cells := 1, slots := 8, locals := 12 } : Room)) (fun a U => a = #[(.int (4 : Int32))] ∧ Z.Warmed39 U.vm ∧ U.heap = h0) (fun _ _ _ _ _ => True) (fun _ U o U' => ∃ v L, o = .returned v ∧ Q_newBytesFor Z h0 n0 v U'.heap L ∧ FrameEnd U o U' L ({ frames := 1, cells := 1, slots := 8, locals := 12 } : Room).cells ({ frames := 1, cells := 1, slots := 8, locals := 12 } : Room).slots) := by
  refine MetFree.of_bodySF (plainFor_of_name pn_1) hisR ?_
  intro p e s m args below meth c s₁ Bd hml0 hP hK
  obtain ⟨rfl, hZ, hh⟩ := hP
  have hx := Bd.exec
  have hby := Bd.bytes
  have hml : c.maxLocals = 1 := hml0
  have hown : s.vm.findClass "java/lang/StringUTF16" = some m.cls := findClass_of_methodNamed Bd.named
  have hnm := (name_of_methodNamed Bd.named Bd.method).1
  have X0 : Stand p l e ({ frames := 1, cells := 1, slots := 8, locals := 12 } : Room) s m #[(.int (4 : Int32))] below meth c s₁ [] 0 0 := Stand.of_body Bd
  have e0 : s₁.heap = h0 := by rw [← hh, Bd.state]; rfl
  have N0 := Fr.nil n0
  obtain ⟨s0, hs0⟩ : ∃ z, z = (s₁.setTop (entryFrame m #[(.int (4 : Int32))] 1)) := ⟨_, rfl⟩
  have P0 : ∀ t, GG p e below s₁ (mkF m 0 #[.val (.int (4 : Int32))] []) t → Steps p.tables e below s0 t := fun t kk_ => by rw [hs0]; exact castTop (ef_newBytesFor m ) kk_
  have P1 : ∀ t, GG p e below s₁ (mkF m 1 #[.val (.int (4 : Int32))] [(.int (4 : Int32))]) t → Steps p.tables e below s0 t := fun t kk_ => P0 t (by
    refine XS.iloadN X0.here hx rfl (hb hby d_newBytesFor_0) rfl ?_
    exact kk_)
  obtain ⟨_, _, ⟨T2, L2, k2, n2⟩, -, X2, ⟨Lc2, hQ2, l2, y2, z2⟩, st2⟩ := Jvm.LawKit.callS X0 hx (y := mn_0) hown (mw hZ hw 34 rfl) (mw hZ hw 35 rfl) (mw hZ hw 22 rfl) (mw hZ hw 36 rfl) (by decide) (backOf (W := 0) (rm_newBytesLength l Z a0 hw [] h0 n0 (Nat.le_trans Z0 (Nat.le_refl h0.size))) hZ (ww hw 36 rfl) (ww hw 22 rfl) (by decide) (by decide)) (g := (mkF m 1 #[.val (.int (4 : Int32))] [(.int (4 : Int32))])) rfl (by rw [hml]; rfl) (argsL := [(.int (4 : Int32))]) (rest := []) (lenOf pd_0 rfl) rfl (by show 2 * 0 + _ ≤ _; exact Nat.le_of_eq rfl) (hb hby d_newBytesFor_1) (fun _ _ => ⟨rfl, e0, (by decide : 0 + 0 ≤ _), (by decide : 0 + 0 ≤ _)⟩)
  dsimp only [Pt.U, Pt.locs, Pt.cells, Pt.slots] at X2 l2 y2 z2 st2 hQ2
  subst l2 y2 z2
  obtain ⟨rfl, N2q, e2⟩ := hQ2
  have N2 := Fr.app N0 N2q
  have P3 : ∀ t, GG p e below T2 (mkF m 4 #[.val (.int (4 : Int32))] [(.int (8 : Int32))]) t → Steps p.tables e below s0 t := fun t kk_ => P1 t (st2 _ kk_)
  obtain ⟨T4, h4, k4, X4, e4, E4, A4, st4⟩ := newP X2 hx hZ (ww hw 24 rfl) e2 (g := (mkF m 4 #[.val (.int (4 : Int32))] [(.int (8 : Int32))])) rfl (hb hby d_newBytesFor_4) rfl (by decide) (cap := 8) (by decide) (by decide) (by decide) (by decide)
  obtain ⟨b4, g4⟩ : ∃ z, z = h0.size := ⟨_, rfl⟩
  rw [← g4] at A4 st4
  have P5 : ∀ t, GG p e below T4 (mkF m 6 #[.val (.int (4 : Int32))] [(.ref b4)]) t → Steps p.tables e below s0 t := fun t kk_ => P3 t (st4 _ kk_)
  have sz_b4 : h0.size ≤ b4 := Nat.le_trans (Nat.le_refl h0.size) (Nat.le_of_eq g4.symm)
  have K4 : Keep h0 h4 [] := (Keep.refl h0 []).ext E4
  have V_b4 : Arv Z h4 b4 k4 .byte (8 : Int32) [(.int (0 : Int32)), (.int (0 : Int32)), (.int (0 : Int32)), (.int (0 : Int32)), (.int (0 : Int32)), (.int (0 : Int32)), (.int (0 : Int32)), (.int (0 : Int32))] (.int (0 : Int32)) := (Arv.new A4 (by decide)).pad (pad_rep [] (.int (0 : Int32)) 8)
  subst hs0
  obtain ⟨fs, hr, hrun, hended, hW, hsame⟩ := X4.leave (v := some (.ref b4)) (fun h => by rw [Bd.returns] at h; cases h)
  refine ⟨_, _, P5 _ ?_, hrun, hended, _, _, rfl, ?_, ⟨_, rfl⟩, hW, hsame.mono (by decide) (by decide)⟩
  · show GG p e below T4 (mkF m 6 #[.val (.int (4 : Int32))] [(.ref b4)]) _
    jvm_step X4.here [X4.here.top, hx, (hb hby d_newBytesFor_6), X4.method', Bd.returns, Value.isRef, FieldType.isReference]
    first | (intro acts; rw [hr _ acts rfl rfl rfl]) | rw [hr _ _ rfl rfl rfl]
    exact Steps.refl _
  · show Q_newBytesFor Z h0 n0 _ T4.heap _
    rw [e4]
    exact ⟨b4, k4, rfl, N2, K4, sz_b4, V_b4⟩
theorem ef_put0 (m : MethodId) (x0 : Addr) (x2 : Int32) : entryFrame m #[(.ref x0), (.int (0 : Int32)), (.int x2)] 3 = mkF m 0 #[.val (.ref x0), .val (.int (0 : Int32)), .val (.int x2)] [] := by first | (simp [entryFrame, mkF, argsToLocals, Value.category]; done) | rfl
theorem d_putChar_0 : decode jdk_52_method_4_code 0 = .ok (.getstatic 44, 3) := by decide +kernel
theorem d_putChar_3 : decode jdk_52_method_4_code 3 = .ok (.ifCond .ne 25, 3) := by decide +kernel
theorem d_putChar_28 : decode jdk_52_method_4_code 28 = .ok (.iload_n 1, 1) := by decide +kernel
theorem d_putChar_29 : decode jdk_52_method_4_code 29 = .ok (.iconst 1, 1) := by decide +kernel
theorem d_putChar_30 : decode jdk_52_method_4_code 30 = .ok (.ishl, 1) := by decide +kernel
theorem d_putChar_31 : decode jdk_52_method_4_code 31 = .ok (.istore_n 1, 1) := by decide +kernel
theorem d_putChar_32 : decode jdk_52_method_4_code 32 = .ok (.aload_n 0, 1) := by decide +kernel
theorem d_putChar_33 : decode jdk_52_method_4_code 33 = .ok (.iload_n 1, 1) := by decide +kernel
theorem d_putChar_34 : decode jdk_52_method_4_code 34 = .ok (.iinc 1 1, 3) := by decide +kernel
theorem d_putChar_37 : decode jdk_52_method_4_code 37 = .ok (.iload_n 2, 1) := by decide +kernel
theorem d_putChar_38 : decode jdk_52_method_4_code 38 = .ok (.getstatic 59, 3) := by decide +kernel
theorem d_putChar_41 : decode jdk_52_method_4_code 41 = .ok (.ishr, 1) := by decide +kernel
theorem d_putChar_42 : decode jdk_52_method_4_code 42 = .ok (.i2b, 1) := by decide +kernel
theorem d_putChar_43 : decode jdk_52_method_4_code 43 = .ok (.bastore, 1) := by decide +kernel
theorem d_putChar_44 : decode jdk_52_method_4_code 44 = .ok (.aload_n 0, 1) := by decide +kernel
theorem d_putChar_45 : decode jdk_52_method_4_code 45 = .ok (.iload_n 1, 1) := by decide +kernel
theorem d_putChar_46 : decode jdk_52_method_4_code 46 = .ok (.iload_n 2, 1) := by decide +kernel
theorem d_putChar_47 : decode jdk_52_method_4_code 47 = .ok (.getstatic 63, 3) := by decide +kernel
theorem d_putChar_50 : decode jdk_52_method_4_code 50 = .ok (.ishr, 1) := by decide +kernel
theorem d_putChar_51 : decode jdk_52_method_4_code 51 = .ok (.i2b, 1) := by decide +kernel
theorem d_putChar_52 : decode jdk_52_method_4_code 52 = .ok (.bastore, 1) := by decide +kernel
theorem d_putChar_53 : decode jdk_52_method_4_code 53 = .ok (.return_, 1) := by decide +kernel
def Q_put0 (Z : State) (tb : Addr) (kb : ClassId) (cc : Int32) (v0 : Value) (v1 : Value) (v2 : Value) (v3 : Value) (v4 : Value) (v5 : Value) (v6 : Value) (v7 : Value) (h0 : Heap) (n0 : Nat) (v : Option Value) (h : Heap) (L : List Loc) : Prop := v = none ∧ Fr n0 L ∧ Keep h0 h [tb] ∧ (Arv Z h tb kb .byte (8 : Int32) [(.int (nar .byte ((cc >>> ((0 : Int32) &&& 31)).toInt8.toInt32))), (.int (nar .byte ((cc >>> ((8 : Int32) &&& 31)).toInt8.toInt32))), v2, v3, v4, v5, v6, v7] (.int (0 : Int32)))
set_option maxRecDepth 65536 in
set_option maxHeartbeats 40000000 in
theorem rm_put0 (l : Launch) (Z : State) (a0 : Array Value) (hw : ∀ d ∈ tables_1, d.before a0 Z = true) (ws : List Jvm.Cond) (tb : Addr) (kb : ClassId) (cc : Int32) (v0 : Value) (v1 : Value) (v2 : Value) (v3 : Value) (v4 : Value) (v5 : Value) (v6 : Value) (v7 : Value) (h0 : Heap) (n0 : Nat) (Z0 : n0 ≤ h0.size) (V_tb : Arv Z h0 tb kb .byte (8 : Int32) [v0, v1, v2, v3, v4, v5, v6, v7] (.int (0 : Int32))) (g_tb : n0 ≤ tb) (S__assertionsDisabled : Sta Z Z.heap "java/lang/StringUTF16" "$assertionsDisabled" "Z" (.int (1 : Int32))) (S_HI_BYTE_SHIFT : Sta Z Z.heap "java/lang/StringUTF16" "HI_BYTE_SHIFT" "I" (.int (0 : Int32))) (S_LO_BYTE_SHIFT : Sta Z Z.heap "java/lang/StringUTF16" "LO_BYTE_SHIFT" "I" (.int (8 : Int32))) (OL : Old Z n0 h0) :
    MetFree l (⟨"java/lang/StringUTF16", "putChar", "([BII)V"⟩ : MethodName) (head1 (Jvm.Cond.code (⟨"java/lang/StringUTF16", "putChar", "([BII)V"⟩ : MethodName) jdk_52_method_4_code 3 none :: ws) ({ frames := 0, cells := 0, slots := 0, locals := 0 } : Room)) (fun a U => a = #[(.ref tb), (.int (0 : Int32)), (.int cc)] ∧ Z.Warmed39 U.vm ∧ U.heap = h0) (fun _ _ _ _ _ => True) (fun _ U o U' => ∃ v L, o = .returned v ∧ Q_put0 Z tb kb cc v0 v1 v2 v3 v4 v5 v6 v7 h0 n0 v U'.heap L ∧ FrameEnd U o U' L ({ frames := 0, cells := 0, slots := 0, locals := 0 } : Room).cells ({ frames := 0, cells := 0, slots := 0, locals := 0 } : Room).slots) := by
  refine MetFree.of_bodySF (plainFor_of_name pn_1) hisR ?_
  intro p e s m args below meth c s₁ Bd hml0 hP hK
  obtain ⟨rfl, hZ, hh⟩ := hP
  have hx := Bd.exec
  have hby := Bd.bytes
  have hml : c.maxLocals = 3 := hml0
  have hown : s.vm.findClass "java/lang/StringUTF16" = some m.cls := findClass_of_methodNamed Bd.named
  have hnm := (name_of_methodNamed Bd.named Bd.method).1
  have X0 : Stand p l e ({ frames := 0, cells := 0, slots := 0, locals := 0 } : Room) s m #[(.ref tb), (.int (0 : Int32)), (.int cc)] below meth c s₁ [] 0 0 := Stand.of_body Bd
  have e0 : s₁.heap = h0 := by rw [← hh, Bd.state]; rfl
  have N0 := Fr.nil n0
  obtain ⟨s0, hs0⟩ : ∃ z, z = (s₁.setTop (entryFrame m #[(.ref tb), (.int (0 : Int32)), (.int cc)] 3)) := ⟨_, rfl⟩
  have P0 : ∀ t, GG p e below s₁ (mkF m 0 #[.val (.ref tb), .val (.int (0 : Int32)), .val (.int cc)] []) t → Steps p.tables e below s0 t := fun t kk_ => by rw [hs0]; exact castTop (ef_put0 m tb cc) kk_
  obtain ⟨T1, X1, e1, st1⟩ := getS2 X0 hx hZ hown (host := "") (Or.inl (ww hw 41 rfl)) Via.refl e0 (S__assertionsDisabled.ext OL.2) (g := (mkF m 0 #[.val (.ref tb), .val (.int (0 : Int32)), .val (.int cc)] [])) rfl (hb hby d_putChar_0)
  have P2 : ∀ t, GG p e below T1 (mkF m 3 #[.val (.ref tb), .val (.int (0 : Int32)), .val (.int cc)] [(.int (1 : Int32))]) t → Steps p.tables e below s0 t := fun t kk_ => P0 t (st1 _ kk_)
  have P3 : ∀ t, GG p e below T1 (mkF m 38 #[.val (.ref tb), .val (.int (1 : Int32)), .val (.int cc)] [(.int cc), (.int (0 : Int32)), (.ref tb)]) t → Steps p.tables e below s0 t := fun t kk_ => P2 t (by
    refine XS.ifYes X1.here hx rfl (pc0 := 3) (pc' := 28) rfl (hb hby d_putChar_3) rfl ((if0 _ _).trans (feq ((by decide) : ¬ ((1 : Int32) = (0 : Int32)))).2) (by decide) (by decide) ?_
    refine XS.iloadN X1.here hx rfl (hb hby d_putChar_28) rfl ?_
    refine XS.iconst X1.here hx rfl (hb hby d_putChar_29) ?_
    refine XS.ishl X1.here hx rfl (hb hby d_putChar_30) rfl ?_
    refine XS.istoreN X1.here hx rfl (hb hby d_putChar_31) rfl (l' := #[.val (.ref tb), .val (.int (0 : Int32)), .val (.int cc)]) rfl ?_
    refine XS.aloadN X1.here hx rfl (hb hby d_putChar_32) rfl rfl ?_
    refine XS.iloadN X1.here hx rfl (hb hby d_putChar_33) rfl ?_
    refine XS.iinc X1.here hx rfl (hb hby d_putChar_34) rfl (l' := #[.val (.ref tb), .val (.int (1 : Int32)), .val (.int cc)]) rfl ?_
    refine XS.iloadN X1.here hx rfl (hb hby d_putChar_37) rfl ?_
    exact kk_)
  obtain ⟨T4, X4, e4, st4⟩ := getS2 X1 hx hZ hown (host := "") (Or.inl (ww hw 42 rfl)) Via.refl e1 (S_HI_BYTE_SHIFT.ext OL.2) (g := (mkF m 38 #[.val (.ref tb), .val (.int (1 : Int32)), .val (.int cc)] [(.int cc), (.int (0 : Int32)), (.ref tb)])) rfl (hb hby d_putChar_38)
  have P5 : ∀ t, GG p e below T4 (mkF m 41 #[.val (.ref tb), .val (.int (1 : Int32)), .val (.int cc)] [(.int (0 : Int32)), (.int cc), (.int (0 : Int32)), (.ref tb)]) t → Steps p.tables e below s0 t := fun t kk_ => P3 t (st4 _ kk_)
  have P6 : ∀ t, GG p e below T4 (mkF m 43 #[.val (.ref tb), .val (.int (1 : Int32)), .val (.int cc)] [(.int ((cc >>> ((0 : Int32) &&& 31)).toInt8.toInt32)), (.int (0 : Int32)), (.ref tb)]) t → Steps p.tables e below s0 t := fun t kk_ => P5 t (by
    refine XS.ishr X4.here hx rfl (hb hby d_putChar_41) rfl ?_
    refine XS.i2b X4.here hx rfl (hb hby d_putChar_42) rfl ?_
    exact kk_)
  obtain ⟨cl7, Ar7, q7, S7, M7, Hs7, G7⟩ := V_tb
  obtain ⟨T7, h7, X7, e7, W7, st7⟩ := stB X4 hx hZ e4 Ar7 (j := (0 : Int32)) (inb_of S7 ⟨by decide, by decide⟩) (g := (mkF m 43 #[.val (.ref tb), .val (.int (1 : Int32)), .val (.int cc)] [(.int ((cc >>> ((0 : Int32) &&& 31)).toInt8.toInt32)), (.int (0 : Int32)), (.ref tb)])) rfl rfl (hb hby d_putChar_43)
  have P8 : ∀ t, GG p e below T7 (mkF m 44 #[.val (.ref tb), .val (.int (1 : Int32)), .val (.int cc)] []) t → Steps p.tables e below s0 t := fun t kk_ => P6 t (st7 _ kk_)
  have N7 := Fr.snoc X7 N0 g_tb
  have K7 : Keep h0 h7 [tb] := (Keep.refl h0 [tb]).wr W7 (Or.inl (List.mem_of_getElem? (i := 0) rfl))
  replace OL : Old Z n0 h7 := OL.wr W7 g_tb
  have V_tb : Arv Z h7 tb kb .byte (8 : Int32) [(.int (nar .byte ((cc >>> ((0 : Int32) &&& 31)).toInt8.toInt32))), v1, v2, v3, v4, v5, v6, v7] (.int (0 : Int32)) := Arv.set Ar7 q7 S7 M7 Hs7 G7 (fits_nar_byte _) W7 0 rfl (Nat.le_of_ble_eq_true rfl)
  have P9 : ∀ t, GG p e below T7 (mkF m 47 #[.val (.ref tb), .val (.int (1 : Int32)), .val (.int cc)] [(.int cc), (.int (1 : Int32)), (.ref tb)]) t → Steps p.tables e below s0 t := fun t kk_ => P8 t (by
    refine XS.aloadN X7.here hx rfl (hb hby d_putChar_44) rfl rfl ?_
    refine XS.iloadN X7.here hx rfl (hb hby d_putChar_45) rfl ?_
    refine XS.iloadN X7.here hx rfl (hb hby d_putChar_46) rfl ?_
    exact kk_)
  obtain ⟨T10, X10, e10, st10⟩ := getS2 X7 hx hZ hown (host := "") (Or.inl (ww hw 43 rfl)) Via.refl e7 (S_LO_BYTE_SHIFT.ext OL.2) (g := (mkF m 47 #[.val (.ref tb), .val (.int (1 : Int32)), .val (.int cc)] [(.int cc), (.int (1 : Int32)), (.ref tb)])) rfl (hb hby d_putChar_47)
  have P11 : ∀ t, GG p e below T10 (mkF m 50 #[.val (.ref tb), .val (.int (1 : Int32)), .val (.int cc)] [(.int (8 : Int32)), (.int cc), (.int (1 : Int32)), (.ref tb)]) t → Steps p.tables e below s0 t := fun t kk_ => P9 t (st10 _ kk_)
  have P12 : ∀ t, GG p e below T10 (mkF m 52 #[.val (.ref tb), .val (.int (1 : Int32)), .val (.int cc)] [(.int ((cc >>> ((8 : Int32) &&& 31)).toInt8.toInt32)), (.int (1 : Int32)), (.ref tb)]) t → Steps p.tables e below s0 t := fun t kk_ => P11 t (by
    refine XS.ishr X10.here hx rfl (hb hby d_putChar_50) rfl ?_
    refine XS.i2b X10.here hx rfl (hb hby d_putChar_51) rfl ?_
    exact kk_)
  obtain ⟨cl13, Ar13, q13, S13, M13, Hs13, G13⟩ := V_tb
  obtain ⟨T13, h13, X13, e13, W13, st13⟩ := stB X10 hx hZ e10 Ar13 (j := (1 : Int32)) (inb_of S13 ⟨by decide, by decide⟩) (g := (mkF m 52 #[.val (.ref tb), .val (.int (1 : Int32)), .val (.int cc)] [(.int ((cc >>> ((8 : Int32) &&& 31)).toInt8.toInt32)), (.int (1 : Int32)), (.ref tb)])) rfl rfl (hb hby d_putChar_52)
  have P14 : ∀ t, GG p e below T13 (mkF m 53 #[.val (.ref tb), .val (.int (1 : Int32)), .val (.int cc)] []) t → Steps p.tables e below s0 t := fun t kk_ => P12 t (st13 _ kk_)
  have N13 := Fr.snoc X13 N7 g_tb
  have K13 : Keep h0 h13 [tb] := K7.wr W13 (Or.inl (List.mem_of_getElem? (i := 0) rfl))
  replace OL : Old Z n0 h13 := OL.wr W13 g_tb
  have V_tb : Arv Z h13 tb kb .byte (8 : Int32) [(.int (nar .byte ((cc >>> ((0 : Int32) &&& 31)).toInt8.toInt32))), (.int (nar .byte ((cc >>> ((8 : Int32) &&& 31)).toInt8.toInt32))), v2, v3, v4, v5, v6, v7] (.int (0 : Int32)) := Arv.set Ar13 q13 S13 M13 Hs13 G13 (fits_nar_byte _) W13 1 rfl (Nat.le_of_ble_eq_true rfl)
  subst hs0
  obtain ⟨fs, hr, hrun, hended, hW, hsame⟩ := X13.leave (v := none) (fun _ => rfl)
  refine ⟨_, _, P14 _ ?_, hrun, hended, _, _, rfl, ?_, ⟨_, rfl⟩, hW, hsame.mono (by decide) (by decide)⟩
  · show GG p e below T13 (mkF m 53 #[.val (.ref tb), .val (.int (1 : Int32)), .val (.int cc)] []) _
    exact X13.returnOut hx Bd.returns (hb hby d_putChar_53) hr
  · show Q_put0 Z tb kb cc v0 v1 v2 v3 v4 v5 v6 v7 h0 n0 _ T13.heap _
    rw [e13]
    exact ⟨rfl, N13, K13, V_tb⟩
theorem ef_get0 (m : MethodId) (x0 : Addr) : entryFrame m #[(.ref x0), (.int (0 : Int32))] 2 = mkF m 0 #[.val (.ref x0), .val (.int (0 : Int32))] [] := by first | (simp [entryFrame, mkF, argsToLocals, Value.category]; done) | rfl
theorem d_getChar_0 : decode jdk_52_method_5_code 0 = .ok (.getstatic 44, 3) := by decide +kernel
theorem d_getChar_3 : decode jdk_52_method_5_code 3 = .ok (.ifCond .ne 25, 3) := by decide +kernel
theorem d_getChar_28 : decode jdk_52_method_5_code 28 = .ok (.iload_n 1, 1) := by decide +kernel
theorem d_getChar_29 : decode jdk_52_method_5_code 29 = .ok (.iconst 1, 1) := by decide +kernel
theorem d_getChar_30 : decode jdk_52_method_5_code 30 = .ok (.ishl, 1) := by decide +kernel
theorem d_getChar_31 : decode jdk_52_method_5_code 31 = .ok (.istore_n 1, 1) := by decide +kernel
theorem d_getChar_32 : decode jdk_52_method_5_code 32 = .ok (.aload_n 0, 1) := by decide +kernel
theorem d_getChar_33 : decode jdk_52_method_5_code 33 = .ok (.iload_n 1, 1) := by decide +kernel
theorem d_getChar_34 : decode jdk_52_method_5_code 34 = .ok (.iinc 1 1, 3) := by decide +kernel
theorem d_getChar_37 : decode jdk_52_method_5_code 37 = .ok (.baload, 1) := by decide +kernel
theorem d_getChar_38 : decode jdk_52_method_5_code 38 = .ok (.sipush 255, 3) := by decide +kernel
theorem d_getChar_41 : decode jdk_52_method_5_code 41 = .ok (.iand, 1) := by decide +kernel
theorem d_getChar_42 : decode jdk_52_method_5_code 42 = .ok (.getstatic 59, 3) := by decide +kernel
theorem d_getChar_45 : decode jdk_52_method_5_code 45 = .ok (.ishl, 1) := by decide +kernel
theorem d_getChar_46 : decode jdk_52_method_5_code 46 = .ok (.aload_n 0, 1) := by decide +kernel
theorem d_getChar_47 : decode jdk_52_method_5_code 47 = .ok (.iload_n 1, 1) := by decide +kernel
theorem d_getChar_48 : decode jdk_52_method_5_code 48 = .ok (.baload, 1) := by decide +kernel
theorem d_getChar_49 : decode jdk_52_method_5_code 49 = .ok (.sipush 255, 3) := by decide +kernel
theorem d_getChar_52 : decode jdk_52_method_5_code 52 = .ok (.iand, 1) := by decide +kernel
theorem d_getChar_53 : decode jdk_52_method_5_code 53 = .ok (.getstatic 63, 3) := by decide +kernel
theorem d_getChar_56 : decode jdk_52_method_5_code 56 = .ok (.ishl, 1) := by decide +kernel
theorem d_getChar_57 : decode jdk_52_method_5_code 57 = .ok (.ior, 1) := by decide +kernel
theorem d_getChar_58 : decode jdk_52_method_5_code 58 = .ok (.i2c, 1) := by decide +kernel
theorem d_getChar_59 : decode jdk_52_method_5_code 59 = .ok (.ireturn, 1) := by decide +kernel
def Q_get0 (Z : State) (tb : Addr) (kb : ClassId) (ga : Int32) (gb : Int32) (v2 : Value) (v3 : Value) (v4 : Value) (v5 : Value) (v6 : Value) (v7 : Value) (h0 : Heap) (n0 : Nat) (v : Option Value) (h : Heap) (L : List Loc) : Prop := v = some (.int (nar .char ((((ga &&& (255 : Int32)) <<< ((0 : Int32) &&& 31)) ||| ((gb &&& (255 : Int32)) <<< ((8 : Int32) &&& 31))).toUInt32.toUInt16.toUInt32.toInt32))) ∧ Fr n0 L ∧ h = h0
set_option maxRecDepth 65536 in
set_option maxHeartbeats 40000000 in
theorem rm_get0 (l : Launch) (Z : State) (a0 : Array Value) (hw : ∀ d ∈ tables_1, d.before a0 Z = true) (ws : List Jvm.Cond) (tb : Addr) (kb : ClassId) (ga : Int32) (gb : Int32) (v2 : Value) (v3 : Value) (v4 : Value) (v5 : Value) (v6 : Value) (v7 : Value) (h0 : Heap) (n0 : Nat) (Z0 : n0 ≤ h0.size) (V_tb : Arv Z h0 tb kb .byte (8 : Int32) [(.int ga), (.int gb), v2, v3, v4, v5, v6, v7] (.int (0 : Int32))) (S__assertionsDisabled : Sta Z Z.heap "java/lang/StringUTF16" "$assertionsDisabled" "Z" (.int (1 : Int32))) (S_HI_BYTE_SHIFT : Sta Z Z.heap "java/lang/StringUTF16" "HI_BYTE_SHIFT" "I" (.int (0 : Int32))) (S_LO_BYTE_SHIFT : Sta Z Z.heap "java/lang/StringUTF16" "LO_BYTE_SHIFT" "I" (.int (8 : Int32))) (OL : Old Z n0 h0) :
    MetFree l (⟨"java/lang/StringUTF16", "getChar", "([BI)C"⟩ : MethodName) (head1 (Jvm.Cond.code (⟨"java/lang/StringUTF16", "getChar", "([BI)C"⟩ : MethodName) jdk_52_method_5_code 2 (some .char) :: ws) ({ frames := 0, cells := 0, slots := 0, locals := 0 } : Room)) (fun a U => a = #[(.ref tb), (.int (0 : Int32))] ∧ Z.Warmed39 U.vm ∧ U.heap = h0) (fun _ _ _ _ _ => True) (fun _ U o U' => ∃ v L, o = .returned v ∧ Q_get0 Z tb kb ga gb v2 v3 v4 v5 v6 v7 h0 n0 v U'.heap L ∧ FrameEnd U o U' L ({ frames := 0, cells := 0, slots := 0, locals := 0 } : Room).cells ({ frames := 0, cells := 0, slots := 0, locals := 0 } : Room).slots) := by
  refine MetFree.of_bodySF (plainFor_of_name pn_1) hisR ?_
  intro p e s m args below meth c s₁ Bd hml0 hP hK
  obtain ⟨rfl, hZ, hh⟩ := hP
  have hx := Bd.exec
  have hby := Bd.bytes
  have hml : c.maxLocals = 2 := hml0
  have hown : s.vm.findClass "java/lang/StringUTF16" = some m.cls := findClass_of_methodNamed Bd.named
  have hnm := (name_of_methodNamed Bd.named Bd.method).1
  have X0 : Stand p l e ({ frames := 0, cells := 0, slots := 0, locals := 0 } : Room) s m #[(.ref tb), (.int (0 : Int32))] below meth c s₁ [] 0 0 := Stand.of_body Bd
  have e0 : s₁.heap = h0 := by rw [← hh, Bd.state]; rfl
  have N0 := Fr.nil n0
  obtain ⟨s0, hs0⟩ : ∃ z, z = (s₁.setTop (entryFrame m #[(.ref tb), (.int (0 : Int32))] 2)) := ⟨_, rfl⟩
  have P0 : ∀ t, GG p e below s₁ (mkF m 0 #[.val (.ref tb), .val (.int (0 : Int32))] []) t → Steps p.tables e below s0 t := fun t kk_ => by rw [hs0]; exact castTop (ef_get0 m tb) kk_
  obtain ⟨T1, X1, e1, st1⟩ := getS2 X0 hx hZ hown (host := "") (Or.inl (ww hw 41 rfl)) Via.refl e0 (S__assertionsDisabled.ext OL.2) (g := (mkF m 0 #[.val (.ref tb), .val (.int (0 : Int32))] [])) rfl (hb hby d_getChar_0)
  have P2 : ∀ t, GG p e below T1 (mkF m 3 #[.val (.ref tb), .val (.int (0 : Int32))] [(.int (1 : Int32))]) t → Steps p.tables e below s0 t := fun t kk_ => P0 t (st1 _ kk_)
  have P3 : ∀ t, GG p e below T1 (mkF m 37 #[.val (.ref tb), .val (.int (1 : Int32))] [(.int (0 : Int32)), (.ref tb)]) t → Steps p.tables e below s0 t := fun t kk_ => P2 t (by
    refine XS.ifYes X1.here hx rfl (pc0 := 3) (pc' := 28) rfl (hb hby d_getChar_3) rfl ((if0 _ _).trans (feq ((by decide) : ¬ ((1 : Int32) = (0 : Int32)))).2) (by decide) (by decide) ?_
    refine XS.iloadN X1.here hx rfl (hb hby d_getChar_28) rfl ?_
    refine XS.iconst X1.here hx rfl (hb hby d_getChar_29) ?_
    refine XS.ishl X1.here hx rfl (hb hby d_getChar_30) rfl ?_
    refine XS.istoreN X1.here hx rfl (hb hby d_getChar_31) rfl (l' := #[.val (.ref tb), .val (.int (0 : Int32))]) rfl ?_
    refine XS.aloadN X1.here hx rfl (hb hby d_getChar_32) rfl rfl ?_
    refine XS.iloadN X1.here hx rfl (hb hby d_getChar_33) rfl ?_
    refine XS.iinc X1.here hx rfl (hb hby d_getChar_34) rfl (l' := #[.val (.ref tb), .val (.int (1 : Int32))]) rfl ?_
    exact kk_)
  obtain ⟨cl4, Ar4, q4, S4, M4, Hs4, G4⟩ := id V_tb
  have hin4 := inb_of (j := (0 : Int32)) S4 ⟨by decide, by decide⟩
  have hat4 : cl4.slots[((0 : Int32)).toNatClampNeg]? = some (.int ga) := Has.at Hs4 hin4 (rfl)
  have P5 : ∀ t, GG p e below T1 (mkF m 38 #[.val (.ref tb), .val (.int (1 : Int32))] [(.int ga)]) t → Steps p.tables e below s0 t := fun t kk_ => P3 t (by
    refine X1.baloadBytes hx (j := (0 : Int32)) (v := (.int ga)) (by rw [e1]; exact Ar4.1) (State.isArrayOf_alike hZ.alike Ar4.2.1) Ar4.2.2 hin4 hat4 (g := (mkF m 37 #[.val (.ref tb), .val (.int (1 : Int32))] [(.int (0 : Int32)), (.ref tb)])) rfl rfl (hb hby d_getChar_37) _ ?_
    exact kk_)
  have P6 : ∀ t, GG p e below T1 (mkF m 42 #[.val (.ref tb), .val (.int (1 : Int32))] [(.int (ga &&& (255 : Int32)))]) t → Steps p.tables e below s0 t := fun t kk_ => P5 t (by
    refine XS.sipush X1.here hx rfl (hb hby d_getChar_38) ?_
    refine XS.iand X1.here hx rfl (hb hby d_getChar_41) rfl ?_
    exact kk_)
  obtain ⟨T7, X7, e7, st7⟩ := getS2 X1 hx hZ hown (host := "") (Or.inl (ww hw 42 rfl)) Via.refl e1 (S_HI_BYTE_SHIFT.ext OL.2) (g := (mkF m 42 #[.val (.ref tb), .val (.int (1 : Int32))] [(.int (ga &&& (255 : Int32)))])) rfl (hb hby d_getChar_42)
  have P8 : ∀ t, GG p e below T7 (mkF m 45 #[.val (.ref tb), .val (.int (1 : Int32))] [(.int (0 : Int32)), (.int (ga &&& (255 : Int32)))]) t → Steps p.tables e below s0 t := fun t kk_ => P6 t (st7 _ kk_)
  have P9 : ∀ t, GG p e below T7 (mkF m 48 #[.val (.ref tb), .val (.int (1 : Int32))] [(.int (1 : Int32)), (.ref tb), (.int ((ga &&& (255 : Int32)) <<< ((0 : Int32) &&& 31)))]) t → Steps p.tables e below s0 t := fun t kk_ => P8 t (by
    refine XS.ishl X7.here hx rfl (hb hby d_getChar_45) rfl ?_
    refine XS.aloadN X7.here hx rfl (hb hby d_getChar_46) rfl rfl ?_
    refine XS.iloadN X7.here hx rfl (hb hby d_getChar_47) rfl ?_
    exact kk_)
  obtain ⟨cl10, Ar10, q10, S10, M10, Hs10, G10⟩ := id V_tb
  have hin10 := inb_of (j := (1 : Int32)) S10 ⟨by decide, by decide⟩
  have hat10 : cl10.slots[((1 : Int32)).toNatClampNeg]? = some (.int gb) := Has.at Hs10 hin10 (rfl)
  have P11 : ∀ t, GG p e below T7 (mkF m 49 #[.val (.ref tb), .val (.int (1 : Int32))] [(.int gb), (.int ((ga &&& (255 : Int32)) <<< ((0 : Int32) &&& 31)))]) t → Steps p.tables e below s0 t := fun t kk_ => P9 t (by
    refine X7.baloadBytes hx (j := (1 : Int32)) (v := (.int gb)) (by rw [e7]; exact Ar10.1) (State.isArrayOf_alike hZ.alike Ar10.2.1) Ar10.2.2 hin10 hat10 (g := (mkF m 48 #[.val (.ref tb), .val (.int (1 : Int32))] [(.int (1 : Int32)), (.ref tb), (.int ((ga &&& (255 : Int32)) <<< ((0 : Int32) &&& 31)))])) rfl rfl (hb hby d_getChar_48) _ ?_
    exact kk_)
  have P12 : ∀ t, GG p e below T7 (mkF m 53 #[.val (.ref tb), .val (.int (1 : Int32))] [(.int (gb &&& (255 : Int32))), (.int ((ga &&& (255 : Int32)) <<< ((0 : Int32) &&& 31)))]) t → Steps p.tables e below s0 t := fun t kk_ => P11 t (by
    refine XS.sipush X7.here hx rfl (hb hby d_getChar_49) ?_
    refine XS.iand X7.here hx rfl (hb hby d_getChar_52) rfl ?_
    exact kk_)
  obtain ⟨T13, X13, e13, st13⟩ := getS2 X7 hx hZ hown (host := "") (Or.inl (ww hw 43 rfl)) Via.refl e7 (S_LO_BYTE_SHIFT.ext OL.2) (g := (mkF m 53 #[.val (.ref tb), .val (.int (1 : Int32))] [(.int (gb &&& (255 : Int32))), (.int ((ga &&& (255 : Int32)) <<< ((0 : Int32) &&& 31)))])) rfl (hb hby d_getChar_53)
  have P14 : ∀ t, GG p e below T13 (mkF m 56 #[.val (.ref tb), .val (.int (1 : Int32))] [(.int (8 : Int32)), (.int (gb &&& (255 : Int32))), (.int ((ga &&& (255 : Int32)) <<< ((0 : Int32) &&& 31)))]) t → Steps p.tables e below s0 t := fun t kk_ => P12 t (st13 _ kk_)
  have P15 : ∀ t, GG p e below T13 (mkF m 59 #[.val (.ref tb), .val (.int (1 : Int32))] [(.int ((((ga &&& (255 : Int32)) <<< ((0 : Int32) &&& 31)) ||| ((gb &&& (255 : Int32)) <<< ((8 : Int32) &&& 31))).toUInt32.toUInt16.toUInt32.toInt32))]) t → Steps p.tables e below s0 t := fun t kk_ => P14 t (by
    refine XS.ishl X13.here hx rfl (hb hby d_getChar_56) rfl ?_
    refine XS.ior X13.here hx rfl (hb hby d_getChar_57) rfl ?_
    refine XS.i2c X13.here hx rfl (hb hby d_getChar_58) rfl ?_
    exact kk_)
  subst hs0
  obtain ⟨fs, hr, hrun, hended, hW, hsame⟩ := X13.leave (v := some (.int (nar .char ((((ga &&& (255 : Int32)) <<< ((0 : Int32) &&& 31)) ||| ((gb &&& (255 : Int32)) <<< ((8 : Int32) &&& 31))).toUInt32.toUInt16.toUInt32.toInt32)))) (fun h => by rw [Bd.returns] at h; cases h)
  refine ⟨_, _, P15 _ ?_, hrun, hended, _, _, rfl, ?_, ⟨_, rfl⟩, hW, hsame.mono (by decide) (by decide)⟩
  · show GG p e below T13 (mkF m 59 #[.val (.ref tb), .val (.int (1 : Int32))] [(.int ((((ga &&& (255 : Int32)) <<< ((0 : Int32) &&& 31)) ||| ((gb &&& (255 : Int32)) <<< ((8 : Int32) &&& 31))).toUInt32.toUInt16.toUInt32.toInt32))]) _
    exact retN X13 hx (t := .char) Bd.returns (by simp) (hb hby d_getChar_59) hr
  · show Q_get0 Z tb kb ga gb v2 v3 v4 v5 v6 v7 h0 n0 _ T13.heap _
    rw [e13]
    exact ⟨rfl, N0, rfl⟩
theorem ef_put1 (m : MethodId) (x0 : Addr) (x2 : Int32) : entryFrame m #[(.ref x0), (.int (1 : Int32)), (.int x2)] 3 = mkF m 0 #[.val (.ref x0), .val (.int (1 : Int32)), .val (.int x2)] [] := by first | (simp [entryFrame, mkF, argsToLocals, Value.category]; done) | rfl
def Q_put1 (Z : State) (tb : Addr) (kb : ClassId) (cc : Int32) (v0 : Value) (v1 : Value) (v2 : Value) (v3 : Value) (v4 : Value) (v5 : Value) (v6 : Value) (v7 : Value) (h0 : Heap) (n0 : Nat) (v : Option Value) (h : Heap) (L : List Loc) : Prop := v = none ∧ Fr n0 L ∧ Keep h0 h [tb] ∧ (Arv Z h tb kb .byte (8 : Int32) [v0, v1, (.int (nar .byte ((cc >>> ((0 : Int32) &&& 31)).toInt8.toInt32))), (.int (nar .byte ((cc >>> ((8 : Int32) &&& 31)).toInt8.toInt32))), v4, v5, v6, v7] (.int (0 : Int32)))
set_option maxRecDepth 65536 in
set_option maxHeartbeats 40000000 in
theorem rm_put1 (l : Launch) (Z : State) (a0 : Array Value) (hw : ∀ d ∈ tables_1, d.before a0 Z = true) (ws : List Jvm.Cond) (tb : Addr) (kb : ClassId) (cc : Int32) (v0 : Value) (v1 : Value) (v2 : Value) (v3 : Value) (v4 : Value) (v5 : Value) (v6 : Value) (v7 : Value) (h0 : Heap) (n0 : Nat) (Z0 : n0 ≤ h0.size) (V_tb : Arv Z h0 tb kb .byte (8 : Int32) [v0, v1, v2, v3, v4, v5, v6, v7] (.int (0 : Int32))) (g_tb : n0 ≤ tb) (S__assertionsDisabled : Sta Z Z.heap "java/lang/StringUTF16" "$assertionsDisabled" "Z" (.int (1 : Int32))) (S_HI_BYTE_SHIFT : Sta Z Z.heap "java/lang/StringUTF16" "HI_BYTE_SHIFT" "I" (.int (0 : Int32))) (S_LO_BYTE_SHIFT : Sta Z Z.heap "java/lang/StringUTF16" "LO_BYTE_SHIFT" "I" (.int (8 : Int32))) (OL : Old Z n0 h0) :
    MetFree l (⟨"java/lang/StringUTF16", "putChar", "([BII)V"⟩ : MethodName) (head1 (Jvm.Cond.code (⟨"java/lang/StringUTF16", "putChar", "([BII)V"⟩ : MethodName) jdk_52_method_4_code 3 none :: ws) ({ frames := 0, cells := 0, slots := 0, locals := 0 } : Room)) (fun a U => a = #[(.ref tb), (.int (1 : Int32)), (.int cc)] ∧ Z.Warmed39 U.vm ∧ U.heap = h0) (fun _ _ _ _ _ => True) (fun _ U o U' => ∃ v L, o = .returned v ∧ Q_put1 Z tb kb cc v0 v1 v2 v3 v4 v5 v6 v7 h0 n0 v U'.heap L ∧ FrameEnd U o U' L ({ frames := 0, cells := 0, slots := 0, locals := 0 } : Room).cells ({ frames := 0, cells := 0, slots := 0, locals := 0 } : Room).slots) := by
  refine MetFree.of_bodySF (plainFor_of_name pn_1) hisR ?_
  intro p e s m args below meth c s₁ Bd hml0 hP hK
  obtain ⟨rfl, hZ, hh⟩ := hP
  have hx := Bd.exec
  have hby := Bd.bytes
  have hml : c.maxLocals = 3 := hml0
  have hown : s.vm.findClass "java/lang/StringUTF16" = some m.cls := findClass_of_methodNamed Bd.named
  have hnm := (name_of_methodNamed Bd.named Bd.method).1
  have X0 : Stand p l e ({ frames := 0, cells := 0, slots := 0, locals := 0 } : Room) s m #[(.ref tb), (.int (1 : Int32)), (.int cc)] below meth c s₁ [] 0 0 := Stand.of_body Bd
  have e0 : s₁.heap = h0 := by rw [← hh, Bd.state]; rfl
  have N0 := Fr.nil n0
  obtain ⟨s0, hs0⟩ : ∃ z, z = (s₁.setTop (entryFrame m #[(.ref tb), (.int (1 : Int32)), (.int cc)] 3)) := ⟨_, rfl⟩
  have P0 : ∀ t, GG p e below s₁ (mkF m 0 #[.val (.ref tb), .val (.int (1 : Int32)), .val (.int cc)] []) t → Steps p.tables e below s0 t := fun t kk_ => by rw [hs0]; exact castTop (ef_put1 m tb cc) kk_
  obtain ⟨T1, X1, e1, st1⟩ := getS2 X0 hx hZ hown (host := "") (Or.inl (ww hw 41 rfl)) Via.refl e0 (S__assertionsDisabled.ext OL.2) (g := (mkF m 0 #[.val (.ref tb), .val (.int (1 : Int32)), .val (.int cc)] [])) rfl (hb hby d_putChar_0)
  have P2 : ∀ t, GG p e below T1 (mkF m 3 #[.val (.ref tb), .val (.int (1 : Int32)), .val (.int cc)] [(.int (1 : Int32))]) t → Steps p.tables e below s0 t := fun t kk_ => P0 t (st1 _ kk_)
  have P3 : ∀ t, GG p e below T1 (mkF m 38 #[.val (.ref tb), .val (.int (3 : Int32)), .val (.int cc)] [(.int cc), (.int (2 : Int32)), (.ref tb)]) t → Steps p.tables e below s0 t := fun t kk_ => P2 t (by
    refine XS.ifYes X1.here hx rfl (pc0 := 3) (pc' := 28) rfl (hb hby d_putChar_3) rfl ((if0 _ _).trans (feq ((by decide) : ¬ ((1 : Int32) = (0 : Int32)))).2) (by decide) (by decide) ?_
    refine XS.iloadN X1.here hx rfl (hb hby d_putChar_28) rfl ?_
    refine XS.iconst X1.here hx rfl (hb hby d_putChar_29) ?_
    refine XS.ishl X1.here hx rfl (hb hby d_putChar_30) rfl ?_
    refine XS.istoreN X1.here hx rfl (hb hby d_putChar_31) rfl (l' := #[.val (.ref tb), .val (.int (2 : Int32)), .val (.int cc)]) rfl ?_
    refine XS.aloadN X1.here hx rfl (hb hby d_putChar_32) rfl rfl ?_
    refine XS.iloadN X1.here hx rfl (hb hby d_putChar_33) rfl ?_
    refine XS.iinc X1.here hx rfl (hb hby d_putChar_34) rfl (l' := #[.val (.ref tb), .val (.int (3 : Int32)), .val (.int cc)]) rfl ?_
    refine XS.iloadN X1.here hx rfl (hb hby d_putChar_37) rfl ?_
    exact kk_)
  obtain ⟨T4, X4, e4, st4⟩ := getS2 X1 hx hZ hown (host := "") (Or.inl (ww hw 42 rfl)) Via.refl e1 (S_HI_BYTE_SHIFT.ext OL.2) (g := (mkF m 38 #[.val (.ref tb), .val (.int (3 : Int32)), .val (.int cc)] [(.int cc), (.int (2 : Int32)), (.ref tb)])) rfl (hb hby d_putChar_38)
  have P5 : ∀ t, GG p e below T4 (mkF m 41 #[.val (.ref tb), .val (.int (3 : Int32)), .val (.int cc)] [(.int (0 : Int32)), (.int cc), (.int (2 : Int32)), (.ref tb)]) t → Steps p.tables e below s0 t := fun t kk_ => P3 t (st4 _ kk_)
  have P6 : ∀ t, GG p e below T4 (mkF m 43 #[.val (.ref tb), .val (.int (3 : Int32)), .val (.int cc)] [(.int ((cc >>> ((0 : Int32) &&& 31)).toInt8.toInt32)), (.int (2 : Int32)), (.ref tb)]) t → Steps p.tables e below s0 t := fun t kk_ => P5 t (by
    refine XS.ishr X4.here hx rfl (hb hby d_putChar_41) rfl ?_
    refine XS.i2b X4.here hx rfl (hb hby d_putChar_42) rfl ?_
    exact kk_)
  obtain ⟨cl7, Ar7, q7, S7, M7, Hs7, G7⟩ := V_tb
  obtain ⟨T7, h7, X7, e7, W7, st7⟩ := stB X4 hx hZ e4 Ar7 (j := (2 : Int32)) (inb_of S7 ⟨by decide, by decide⟩) (g := (mkF m 43 #[.val (.ref tb), .val (.int (3 : Int32)), .val (.int cc)] [(.int ((cc >>> ((0 : Int32) &&& 31)).toInt8.toInt32)), (.int (2 : Int32)), (.ref tb)])) rfl rfl (hb hby d_putChar_43)
  have P8 : ∀ t, GG p e below T7 (mkF m 44 #[.val (.ref tb), .val (.int (3 : Int32)), .val (.int cc)] []) t → Steps p.tables e below s0 t := fun t kk_ => P6 t (st7 _ kk_)
  have N7 := Fr.snoc X7 N0 g_tb
  have K7 : Keep h0 h7 [tb] := (Keep.refl h0 [tb]).wr W7 (Or.inl (List.mem_of_getElem? (i := 0) rfl))
  replace OL : Old Z n0 h7 := OL.wr W7 g_tb
  have V_tb : Arv Z h7 tb kb .byte (8 : Int32) [v0, v1, (.int (nar .byte ((cc >>> ((0 : Int32) &&& 31)).toInt8.toInt32))), v3, v4, v5, v6, v7] (.int (0 : Int32)) := Arv.set Ar7 q7 S7 M7 Hs7 G7 (fits_nar_byte _) W7 2 rfl (Nat.le_of_ble_eq_true rfl)
  have P9 : ∀ t, GG p e below T7 (mkF m 47 #[.val (.ref tb), .val (.int (3 : Int32)), .val (.int cc)] [(.int cc), (.int (3 : Int32)), (.ref tb)]) t → Steps p.tables e below s0 t := fun t kk_ => P8 t (by
    refine XS.aloadN X7.here hx rfl (hb hby d_putChar_44) rfl rfl ?_
    refine XS.iloadN X7.here hx rfl (hb hby d_putChar_45) rfl ?_
    refine XS.iloadN X7.here hx rfl (hb hby d_putChar_46) rfl ?_
    exact kk_)
  obtain ⟨T10, X10, e10, st10⟩ := getS2 X7 hx hZ hown (host := "") (Or.inl (ww hw 43 rfl)) Via.refl e7 (S_LO_BYTE_SHIFT.ext OL.2) (g := (mkF m 47 #[.val (.ref tb), .val (.int (3 : Int32)), .val (.int cc)] [(.int cc), (.int (3 : Int32)), (.ref tb)])) rfl (hb hby d_putChar_47)
  have P11 : ∀ t, GG p e below T10 (mkF m 50 #[.val (.ref tb), .val (.int (3 : Int32)), .val (.int cc)] [(.int (8 : Int32)), (.int cc), (.int (3 : Int32)), (.ref tb)]) t → Steps p.tables e below s0 t := fun t kk_ => P9 t (st10 _ kk_)
  have P12 : ∀ t, GG p e below T10 (mkF m 52 #[.val (.ref tb), .val (.int (3 : Int32)), .val (.int cc)] [(.int ((cc >>> ((8 : Int32) &&& 31)).toInt8.toInt32)), (.int (3 : Int32)), (.ref tb)]) t → Steps p.tables e below s0 t := fun t kk_ => P11 t (by
    refine XS.ishr X10.here hx rfl (hb hby d_putChar_50) rfl ?_
    refine XS.i2b X10.here hx rfl (hb hby d_putChar_51) rfl ?_
    exact kk_)
  obtain ⟨cl13, Ar13, q13, S13, M13, Hs13, G13⟩ := V_tb
  obtain ⟨T13, h13, X13, e13, W13, st13⟩ := stB X10 hx hZ e10 Ar13 (j := (3 : Int32)) (inb_of S13 ⟨by decide, by decide⟩) (g := (mkF m 52 #[.val (.ref tb), .val (.int (3 : Int32)), .val (.int cc)] [(.int ((cc >>> ((8 : Int32) &&& 31)).toInt8.toInt32)), (.int (3 : Int32)), (.ref tb)])) rfl rfl (hb hby d_putChar_52)
  have P14 : ∀ t, GG p e below T13 (mkF m 53 #[.val (.ref tb), .val (.int (3 : Int32)), .val (.int cc)] []) t → Steps p.tables e below s0 t := fun t kk_ => P12 t (st13 _ kk_)
  have N13 := Fr.snoc X13 N7 g_tb
  have K13 : Keep h0 h13 [tb] := K7.wr W13 (Or.inl (List.mem_of_getElem? (i := 0) rfl))
  replace OL : Old Z n0 h13 := OL.wr W13 g_tb
  have V_tb : Arv Z h13 tb kb .byte (8 : Int32) [v0, v1, (.int (nar .byte ((cc >>> ((0 : Int32) &&& 31)).toInt8.toInt32))), (.int (nar .byte ((cc >>> ((8 : Int32) &&& 31)).toInt8.toInt32))), v4, v5, v6, v7] (.int (0 : Int32)) := Arv.set Ar13 q13 S13 M13 Hs13 G13 (fits_nar_byte _) W13 3 rfl (Nat.le_of_ble_eq_true rfl)
  subst hs0
  obtain ⟨fs, hr, hrun, hended, hW, hsame⟩ := X13.leave (v := none) (fun _ => rfl)
  refine ⟨_, _, P14 _ ?_, hrun, hended, _, _, rfl, ?_, ⟨_, rfl⟩, hW, hsame.mono (by decide) (by decide)⟩
  · show GG p e below T13 (mkF m 53 #[.val (.ref tb), .val (.int (3 : Int32)), .val (.int cc)] []) _
    exact X13.returnOut hx Bd.returns (hb hby d_putChar_53) hr
  · show Q_put1 Z tb kb cc v0 v1 v2 v3 v4 v5 v6 v7 h0 n0 _ T13.heap _
    rw [e13]
    exact ⟨rfl, N13, K13, V_tb⟩
theorem ef_get1 (m : MethodId) (x0 : Addr) : entryFrame m #[(.ref x0), (.int (1 : Int32))] 2 = mkF m 0 #[.val (.ref x0), .val (.int (1 : Int32))] [] := by first | (simp [entryFrame, mkF, argsToLocals, Value.category]; done) | rfl
def Q_get1 (Z : State) (tb : Addr) (kb : ClassId) (ga : Int32) (gb : Int32) (v0 : Value) (v1 : Value) (v4 : Value) (v5 : Value) (v6 : Value) (v7 : Value) (h0 : Heap) (n0 : Nat) (v : Option Value) (h : Heap) (L : List Loc) : Prop := v = some (.int (nar .char ((((ga &&& (255 : Int32)) <<< ((0 : Int32) &&& 31)) ||| ((gb &&& (255 : Int32)) <<< ((8 : Int32) &&& 31))).toUInt32.toUInt16.toUInt32.toInt32))) ∧ Fr n0 L ∧ h = h0
set_option maxRecDepth 65536 in
set_option maxHeartbeats 40000000 in
theorem rm_get1 (l : Launch) (Z : State) (a0 : Array Value) (hw : ∀ d ∈ tables_1, d.before a0 Z = true) (ws : List Jvm.Cond) (tb : Addr) (kb : ClassId) (ga : Int32) (gb : Int32) (v0 : Value) (v1 : Value) (v4 : Value) (v5 : Value) (v6 : Value) (v7 : Value) (h0 : Heap) (n0 : Nat) (Z0 : n0 ≤ h0.size) (V_tb : Arv Z h0 tb kb .byte (8 : Int32) [v0, v1, (.int ga), (.int gb), v4, v5, v6, v7] (.int (0 : Int32))) (S__assertionsDisabled : Sta Z Z.heap "java/lang/StringUTF16" "$assertionsDisabled" "Z" (.int (1 : Int32))) (S_HI_BYTE_SHIFT : Sta Z Z.heap "java/lang/StringUTF16" "HI_BYTE_SHIFT" "I" (.int (0 : Int32))) (S_LO_BYTE_SHIFT : Sta Z Z.heap "java/lang/StringUTF16" "LO_BYTE_SHIFT" "I" (.int (8 : Int32))) (OL : Old Z n0 h0) :
    MetFree l (⟨"java/lang/StringUTF16", "getChar", "([BI)C"⟩ : MethodName) (head1 (Jvm.Cond.code (⟨"java/lang/StringUTF16", "getChar", "([BI)C"⟩ : MethodName) jdk_52_method_5_code 2 (some .char) :: ws) ({ frames := 0, cells := 0, slots := 0, locals := 0 } : Room)) (fun a U => a = #[(.ref tb), (.int (1 : Int32))] ∧ Z.Warmed39 U.vm ∧ U.heap = h0) (fun _ _ _ _ _ => True) (fun _ U o U' => ∃ v L, o = .returned v ∧ Q_get1 Z tb kb ga gb v0 v1 v4 v5 v6 v7 h0 n0 v U'.heap L ∧ FrameEnd U o U' L ({ frames := 0, cells := 0, slots := 0, locals := 0 } : Room).cells ({ frames := 0, cells := 0, slots := 0, locals := 0 } : Room).slots) := by
  refine MetFree.of_bodySF (plainFor_of_name pn_1) hisR ?_
  intro p e s m args below meth c s₁ Bd hml0 hP hK
  obtain ⟨rfl, hZ, hh⟩ := hP
  have hx := Bd.exec
  have hby := Bd.bytes
  have hml : c.maxLocals = 2 := hml0
  have hown : s.vm.findClass "java/lang/StringUTF16" = some m.cls := findClass_of_methodNamed Bd.named
  have hnm := (name_of_methodNamed Bd.named Bd.method).1
  have X0 : Stand p l e ({ frames := 0, cells := 0, slots := 0, locals := 0 } : Room) s m #[(.ref tb), (.int (1 : Int32))] below meth c s₁ [] 0 0 := Stand.of_body Bd
  have e0 : s₁.heap = h0 := by rw [← hh, Bd.state]; rfl
  have N0 := Fr.nil n0
  obtain ⟨s0, hs0⟩ : ∃ z, z = (s₁.setTop (entryFrame m #[(.ref tb), (.int (1 : Int32))] 2)) := ⟨_, rfl⟩
  have P0 : ∀ t, GG p e below s₁ (mkF m 0 #[.val (.ref tb), .val (.int (1 : Int32))] []) t → Steps p.tables e below s0 t := fun t kk_ => by rw [hs0]; exact castTop (ef_get1 m tb) kk_
  obtain ⟨T1, X1, e1, st1⟩ := getS2 X0 hx hZ hown (host := "") (Or.inl (ww hw 41 rfl)) Via.refl e0 (S__assertionsDisabled.ext OL.2) (g := (mkF m 0 #[.val (.ref tb), .val (.int (1 : Int32))] [])) rfl (hb hby d_getChar_0)
  have P2 : ∀ t, GG p e below T1 (mkF m 3 #[.val (.ref tb), .val (.int (1 : Int32))] [(.int (1 : Int32))]) t → Steps p.tables e below s0 t := fun t kk_ => P0 t (st1 _ kk_)
  have P3 : ∀ t, GG p e below T1 (mkF m 37 #[.val (.ref tb), .val (.int (3 : Int32))] [(.int (2 : Int32)), (.ref tb)]) t → Steps p.tables e below s0 t := fun t kk_ => P2 t (by
    refine XS.ifYes X1.here hx rfl (pc0 := 3) (pc' := 28) rfl (hb hby d_getChar_3) rfl ((if0 _ _).trans (feq ((by decide) : ¬ ((1 : Int32) = (0 : Int32)))).2) (by decide) (by decide) ?_
    refine XS.iloadN X1.here hx rfl (hb hby d_getChar_28) rfl ?_
    refine XS.iconst X1.here hx rfl (hb hby d_getChar_29) ?_
    refine XS.ishl X1.here hx rfl (hb hby d_getChar_30) rfl ?_
    refine XS.istoreN X1.here hx rfl (hb hby d_getChar_31) rfl (l' := #[.val (.ref tb), .val (.int (2 : Int32))]) rfl ?_
    refine XS.aloadN X1.here hx rfl (hb hby d_getChar_32) rfl rfl ?_
    refine XS.iloadN X1.here hx rfl (hb hby d_getChar_33) rfl ?_
    refine XS.iinc X1.here hx rfl (hb hby d_getChar_34) rfl (l' := #[.val (.ref tb), .val (.int (3 : Int32))]) rfl ?_
    exact kk_)
  obtain ⟨cl4, Ar4, q4, S4, M4, Hs4, G4⟩ := id V_tb
  have hin4 := inb_of (j := (2 : Int32)) S4 ⟨by decide, by decide⟩
  have hat4 : cl4.slots[((2 : Int32)).toNatClampNeg]? = some (.int ga) := Has.at Hs4 hin4 (rfl)
  have P5 : ∀ t, GG p e below T1 (mkF m 38 #[.val (.ref tb), .val (.int (3 : Int32))] [(.int ga)]) t → Steps p.tables e below s0 t := fun t kk_ => P3 t (by
    refine X1.baloadBytes hx (j := (2 : Int32)) (v := (.int ga)) (by rw [e1]; exact Ar4.1) (State.isArrayOf_alike hZ.alike Ar4.2.1) Ar4.2.2 hin4 hat4 (g := (mkF m 37 #[.val (.ref tb), .val (.int (3 : Int32))] [(.int (2 : Int32)), (.ref tb)])) rfl rfl (hb hby d_getChar_37) _ ?_
    exact kk_)
  have P6 : ∀ t, GG p e below T1 (mkF m 42 #[.val (.ref tb), .val (.int (3 : Int32))] [(.int (ga &&& (255 : Int32)))]) t → Steps p.tables e below s0 t := fun t kk_ => P5 t (by
    refine XS.sipush X1.here hx rfl (hb hby d_getChar_38) ?_
    refine XS.iand X1.here hx rfl (hb hby d_getChar_41) rfl ?_
    exact kk_)
  obtain ⟨T7, X7, e7, st7⟩ := getS2 X1 hx hZ hown (host := "") (Or.inl (ww hw 42 rfl)) Via.refl e1 (S_HI_BYTE_SHIFT.ext OL.2) (g := (mkF m 42 #[.val (.ref tb), .val (.int (3 : Int32))] [(.int (ga &&& (255 : Int32)))])) rfl (hb hby d_getChar_42)
  have P8 : ∀ t, GG p e below T7 (mkF m 45 #[.val (.ref tb), .val (.int (3 : Int32))] [(.int (0 : Int32)), (.int (ga &&& (255 : Int32)))]) t → Steps p.tables e below s0 t := fun t kk_ => P6 t (st7 _ kk_)
  have P9 : ∀ t, GG p e below T7 (mkF m 48 #[.val (.ref tb), .val (.int (3 : Int32))] [(.int (3 : Int32)), (.ref tb), (.int ((ga &&& (255 : Int32)) <<< ((0 : Int32) &&& 31)))]) t → Steps p.tables e below s0 t := fun t kk_ => P8 t (by
    refine XS.ishl X7.here hx rfl (hb hby d_getChar_45) rfl ?_
    refine XS.aloadN X7.here hx rfl (hb hby d_getChar_46) rfl rfl ?_
    refine XS.iloadN X7.here hx rfl (hb hby d_getChar_47) rfl ?_
    exact kk_)
  obtain ⟨cl10, Ar10, q10, S10, M10, Hs10, G10⟩ := id V_tb
  have hin10 := inb_of (j := (3 : Int32)) S10 ⟨by decide, by decide⟩
  have hat10 : cl10.slots[((3 : Int32)).toNatClampNeg]? = some (.int gb) := Has.at Hs10 hin10 (rfl)
  have P11 : ∀ t, GG p e below T7 (mkF m 49 #[.val (.ref tb), .val (.int (3 : Int32))] [(.int gb), (.int ((ga &&& (255 : Int32)) <<< ((0 : Int32) &&& 31)))]) t → Steps p.tables e below s0 t := fun t kk_ => P9 t (by
    refine X7.baloadBytes hx (j := (3 : Int32)) (v := (.int gb)) (by rw [e7]; exact Ar10.1) (State.isArrayOf_alike hZ.alike Ar10.2.1) Ar10.2.2 hin10 hat10 (g := (mkF m 48 #[.val (.ref tb), .val (.int (3 : Int32))] [(.int (3 : Int32)), (.ref tb), (.int ((ga &&& (255 : Int32)) <<< ((0 : Int32) &&& 31)))])) rfl rfl (hb hby d_getChar_48) _ ?_
    exact kk_)
  have P12 : ∀ t, GG p e below T7 (mkF m 53 #[.val (.ref tb), .val (.int (3 : Int32))] [(.int (gb &&& (255 : Int32))), (.int ((ga &&& (255 : Int32)) <<< ((0 : Int32) &&& 31)))]) t → Steps p.tables e below s0 t := fun t kk_ => P11 t (by
    refine XS.sipush X7.here hx rfl (hb hby d_getChar_49) ?_
    refine XS.iand X7.here hx rfl (hb hby d_getChar_52) rfl ?_
    exact kk_)
  obtain ⟨T13, X13, e13, st13⟩ := getS2 X7 hx hZ hown (host := "") (Or.inl (ww hw 43 rfl)) Via.refl e7 (S_LO_BYTE_SHIFT.ext OL.2) (g := (mkF m 53 #[.val (.ref tb), .val (.int (3 : Int32))] [(.int (gb &&& (255 : Int32))), (.int ((ga &&& (255 : Int32)) <<< ((0 : Int32) &&& 31)))])) rfl (hb hby d_getChar_53)
  have P14 : ∀ t, GG p e below T13 (mkF m 56 #[.val (.ref tb), .val (.int (3 : Int32))] [(.int (8 : Int32)), (.int (gb &&& (255 : Int32))), (.int ((ga &&& (255 : Int32)) <<< ((0 : Int32) &&& 31)))]) t → Steps p.tables e below s0 t := fun t kk_ => P12 t (st13 _ kk_)
  have P15 : ∀ t, GG p e below T13 (mkF m 59 #[.val (.ref tb), .val (.int (3 : Int32))] [(.int ((((ga &&& (255 : Int32)) <<< ((0 : Int32) &&& 31)) ||| ((gb &&& (255 : Int32)) <<< ((8 : Int32) &&& 31))).toUInt32.toUInt16.toUInt32.toInt32))]) t → Steps p.tables e below s0 t := fun t kk_ => P14 t (by
    refine XS.ishl X13.here hx rfl (hb hby d_getChar_56) rfl ?_
    refine XS.ior X13.here hx rfl (hb hby d_getChar_57) rfl ?_
    refine XS.i2c X13.here hx rfl (hb hby d_getChar_58) rfl ?_
    exact kk_)
  subst hs0
  obtain ⟨fs, hr, hrun, hended, hW, hsame⟩ := X13.leave (v := some (.int (nar .char ((((ga &&& (255 : Int32)) <<< ((0 : Int32) &&& 31)) ||| ((gb &&& (255 : Int32)) <<< ((8 : Int32) &&& 31))).toUInt32.toUInt16.toUInt32.toInt32)))) (fun h => by rw [Bd.returns] at h; cases h)
  refine ⟨_, _, P15 _ ?_, hrun, hended, _, _, rfl, ?_, ⟨_, rfl⟩, hW, hsame.mono (by decide) (by decide)⟩
  · show GG p e below T13 (mkF m 59 #[.val (.ref tb), .val (.int (3 : Int32))] [(.int ((((ga &&& (255 : Int32)) <<< ((0 : Int32) &&& 31)) ||| ((gb &&& (255 : Int32)) <<< ((8 : Int32) &&& 31))).toUInt32.toUInt16.toUInt32.toInt32))]) _
    exact retN X13 hx (t := .char) Bd.returns (by simp) (hb hby d_getChar_59) hr
  · show Q_get1 Z tb kb ga gb v0 v1 v4 v5 v6 v7 h0 n0 _ T13.heap _
    rw [e13]
    exact ⟨rfl, N0, rfl⟩
theorem ef_put2 (m : MethodId) (x0 : Addr) (x2 : Int32) : entryFrame m #[(.ref x0), (.int (2 : Int32)), (.int x2)] 3 = mkF m 0 #[.val (.ref x0), .val (.int (2 : Int32)), .val (.int x2)] [] := by first | (simp [entryFrame, mkF, argsToLocals, Value.category]; done) | rfl
def Q_put2 (Z : State) (tb : Addr) (kb : ClassId) (cc : Int32) (v0 : Value) (v1 : Value) (v2 : Value) (v3 : Value) (v4 : Value) (v5 : Value) (v6 : Value) (v7 : Value) (h0 : Heap) (n0 : Nat) (v : Option Value) (h : Heap) (L : List Loc) : Prop := v = none ∧ Fr n0 L ∧ Keep h0 h [tb] ∧ (Arv Z h tb kb .byte (8 : Int32) [v0, v1, v2, v3, (.int (nar .byte ((cc >>> ((0 : Int32) &&& 31)).toInt8.toInt32))), (.int (nar .byte ((cc >>> ((8 : Int32) &&& 31)).toInt8.toInt32))), v6, v7] (.int (0 : Int32)))
set_option maxRecDepth 65536 in
set_option maxHeartbeats 40000000 in
theorem rm_put2 (l : Launch) (Z : State) (a0 : Array Value) (hw : ∀ d ∈ tables_1, d.before a0 Z = true) (ws : List Jvm.Cond) (tb : Addr) (kb : ClassId) (cc : Int32) (v0 : Value) (v1 : Value) (v2 : Value) (v3 : Value) (v4 : Value) (v5 : Value) (v6 : Value) (v7 : Value) (h0 : Heap) (n0 : Nat) (Z0 : n0 ≤ h0.size) (V_tb : Arv Z h0 tb kb .byte (8 : Int32) [v0, v1, v2, v3, v4, v5, v6, v7] (.int (0 : Int32))) (g_tb : n0 ≤ tb) (S__assertionsDisabled : Sta Z Z.heap "java/lang/StringUTF16" "$assertionsDisabled" "Z" (.int (1 : Int32))) (S_HI_BYTE_SHIFT : Sta Z Z.heap "java/lang/StringUTF16" "HI_BYTE_SHIFT" "I" (.int (0 : Int32))) (S_LO_BYTE_SHIFT : Sta Z Z.heap "java/lang/StringUTF16" "LO_BYTE_SHIFT" "I" (.int (8 : Int32))) (OL : Old Z n0 h0) :
    MetFree l (⟨"java/lang/StringUTF16", "putChar", "([BII)V"⟩ : MethodName) (head1 (Jvm.Cond.code (⟨"java/lang/StringUTF16", "putChar", "([BII)V"⟩ : MethodName) jdk_52_method_4_code 3 none :: ws) ({ frames := 0, cells := 0, slots := 0, locals := 0 } : Room)) (fun a U => a = #[(.ref tb), (.int (2 : Int32)), (.int cc)] ∧ Z.Warmed39 U.vm ∧ U.heap = h0) (fun _ _ _ _ _ => True) (fun _ U o U' => ∃ v L, o = .returned v ∧ Q_put2 Z tb kb cc v0 v1 v2 v3 v4 v5 v6 v7 h0 n0 v U'.heap L ∧ FrameEnd U o U' L ({ frames := 0, cells := 0, slots := 0, locals := 0 } : Room).cells ({ frames := 0, cells := 0, slots := 0, locals := 0 } : Room).slots) := by
  refine MetFree.of_bodySF (plainFor_of_name pn_1) hisR ?_
  intro p e s m args below meth c s₁ Bd hml0 hP hK
  obtain ⟨rfl, hZ, hh⟩ := hP
  have hx := Bd.exec
  have hby := Bd.bytes
  have hml : c.maxLocals = 3 := hml0
  have hown : s.vm.findClass "java/lang/StringUTF16" = some m.cls := findClass_of_methodNamed Bd.named
  have hnm := (name_of_methodNamed Bd.named Bd.method).1
  have X0 : Stand p l e ({ frames := 0, cells := 0, slots := 0, locals := 0 } : Room) s m #[(.ref tb), (.int (2 : Int32)), (.int cc)] below meth c s₁ [] 0 0 := Stand.of_body Bd
  have e0 : s₁.heap = h0 := by rw [← hh, Bd.state]; rfl
  have N0 := Fr.nil n0
  obtain ⟨s0, hs0⟩ : ∃ z, z = (s₁.setTop (entryFrame m #[(.ref tb), (.int (2 : Int32)), (.int cc)] 3)) := ⟨_, rfl⟩
  have P0 : ∀ t, GG p e below s₁ (mkF m 0 #[.val (.ref tb), .val (.int (2 : Int32)), .val (.int cc)] []) t → Steps p.tables e below s0 t := fun t kk_ => by rw [hs0]; exact castTop (ef_put2 m tb cc) kk_
  obtain ⟨T1, X1, e1, st1⟩ := getS2 X0 hx hZ hown (host := "") (Or.inl (ww hw 41 rfl)) Via.refl e0 (S__assertionsDisabled.ext OL.2) (g := (mkF m 0 #[.val (.ref tb), .val (.int (2 : Int32)), .val (.int cc)] [])) rfl (hb hby d_putChar_0)
  have P2 : ∀ t, GG p e below T1 (mkF m 3 #[.val (.ref tb), .val (.int (2 : Int32)), .val (.int cc)] [(.int (1 : Int32))]) t → Steps p.tables e below s0 t := fun t kk_ => P0 t (st1 _ kk_)
  have P3 : ∀ t, GG p e below T1 (mkF m 38 #[.val (.ref tb), .val (.int (5 : Int32)), .val (.int cc)] [(.int cc), (.int (4 : Int32)), (.ref tb)]) t → Steps p.tables e below s0 t := fun t kk_ => P2 t (by
    refine XS.ifYes X1.here hx rfl (pc0 := 3) (pc' := 28) rfl (hb hby d_putChar_3) rfl ((if0 _ _).trans (feq ((by decide) : ¬ ((1 : Int32) = (0 : Int32)))).2) (by decide) (by decide) ?_
    refine XS.iloadN X1.here hx rfl (hb hby d_putChar_28) rfl ?_
    refine XS.iconst X1.here hx rfl (hb hby d_putChar_29) ?_
    refine XS.ishl X1.here hx rfl (hb hby d_putChar_30) rfl ?_
    refine XS.istoreN X1.here hx rfl (hb hby d_putChar_31) rfl (l' := #[.val (.ref tb), .val (.int (4 : Int32)), .val (.int cc)]) rfl ?_
    refine XS.aloadN X1.here hx rfl (hb hby d_putChar_32) rfl rfl ?_
    refine XS.iloadN X1.here hx rfl (hb hby d_putChar_33) rfl ?_
    refine XS.iinc X1.here hx rfl (hb hby d_putChar_34) rfl (l' := #[.val (.ref tb), .val (.int (5 : Int32)), .val (.int cc)]) rfl ?_
    refine XS.iloadN X1.here hx rfl (hb hby d_putChar_37) rfl ?_
    exact kk_)
  obtain ⟨T4, X4, e4, st4⟩ := getS2 X1 hx hZ hown (host := "") (Or.inl (ww hw 42 rfl)) Via.refl e1 (S_HI_BYTE_SHIFT.ext OL.2) (g := (mkF m 38 #[.val (.ref tb), .val (.int (5 : Int32)), .val (.int cc)] [(.int cc), (.int (4 : Int32)), (.ref tb)])) rfl (hb hby d_putChar_38)
  have P5 : ∀ t, GG p e below T4 (mkF m 41 #[.val (.ref tb), .val (.int (5 : Int32)), .val (.int cc)] [(.int (0 : Int32)), (.int cc), (.int (4 : Int32)), (.ref tb)]) t → Steps p.tables e below s0 t := fun t kk_ => P3 t (st4 _ kk_)
  have P6 : ∀ t, GG p e below T4 (mkF m 43 #[.val (.ref tb), .val (.int (5 : Int32)), .val (.int cc)] [(.int ((cc >>> ((0 : Int32) &&& 31)).toInt8.toInt32)), (.int (4 : Int32)), (.ref tb)]) t → Steps p.tables e below s0 t := fun t kk_ => P5 t (by
    refine XS.ishr X4.here hx rfl (hb hby d_putChar_41) rfl ?_
    refine XS.i2b X4.here hx rfl (hb hby d_putChar_42) rfl ?_
    exact kk_)
  obtain ⟨cl7, Ar7, q7, S7, M7, Hs7, G7⟩ := V_tb
  obtain ⟨T7, h7, X7, e7, W7, st7⟩ := stB X4 hx hZ e4 Ar7 (j := (4 : Int32)) (inb_of S7 ⟨by decide, by decide⟩) (g := (mkF m 43 #[.val (.ref tb), .val (.int (5 : Int32)), .val (.int cc)] [(.int ((cc >>> ((0 : Int32) &&& 31)).toInt8.toInt32)), (.int (4 : Int32)), (.ref tb)])) rfl rfl (hb hby d_putChar_43)
  have P8 : ∀ t, GG p e below T7 (mkF m 44 #[.val (.ref tb), .val (.int (5 : Int32)), .val (.int cc)] []) t → Steps p.tables e below s0 t := fun t kk_ => P6 t (st7 _ kk_)
  have N7 := Fr.snoc X7 N0 g_tb
  have K7 : Keep h0 h7 [tb] := (Keep.refl h0 [tb]).wr W7 (Or.inl (List.mem_of_getElem? (i := 0) rfl))
  replace OL : Old Z n0 h7 := OL.wr W7 g_tb
  have V_tb : Arv Z h7 tb kb .byte (8 : Int32) [v0, v1, v2, v3, (.int (nar .byte ((cc >>> ((0 : Int32) &&& 31)).toInt8.toInt32))), v5, v6, v7] (.int (0 : Int32)) := Arv.set Ar7 q7 S7 M7 Hs7 G7 (fits_nar_byte _) W7 4 rfl (Nat.le_of_ble_eq_true rfl)
  have P9 : ∀ t, GG p e below T7 (mkF m 47 #[.val (.ref tb), .val (.int (5 : Int32)), .val (.int cc)] [(.int cc), (.int (5 : Int32)), (.ref tb)]) t → Steps p.tables e below s0 t := fun t kk_ => P8 t (by
    refine XS.aloadN X7.here hx rfl (hb hby d_putChar_44) rfl rfl ?_
    refine XS.iloadN X7.here hx rfl (hb hby d_putChar_45) rfl ?_
    refine XS.iloadN X7.here hx rfl (hb hby d_putChar_46) rfl ?_
    exact kk_)
  obtain ⟨T10, X10, e10, st10⟩ := getS2 X7 hx hZ hown (host := "") (Or.inl (ww hw 43 rfl)) Via.refl e7 (S_LO_BYTE_SHIFT.ext OL.2) (g := (mkF m 47 #[.val (.ref tb), .val (.int (5 : Int32)), .val (.int cc)] [(.int cc), (.int (5 : Int32)), (.ref tb)])) rfl (hb hby d_putChar_47)
  have P11 : ∀ t, GG p e below T10 (mkF m 50 #[.val (.ref tb), .val (.int (5 : Int32)), .val (.int cc)] [(.int (8 : Int32)), (.int cc), (.int (5 : Int32)), (.ref tb)]) t → Steps p.tables e below s0 t := fun t kk_ => P9 t (st10 _ kk_)
  have P12 : ∀ t, GG p e below T10 (mkF m 52 #[.val (.ref tb), .val (.int (5 : Int32)), .val (.int cc)] [(.int ((cc >>> ((8 : Int32) &&& 31)).toInt8.toInt32)), (.int (5 : Int32)), (.ref tb)]) t → Steps p.tables e below s0 t := fun t kk_ => P11 t (by
    refine XS.ishr X10.here hx rfl (hb hby d_putChar_50) rfl ?_
    refine XS.i2b X10.here hx rfl (hb hby d_putChar_51) rfl ?_
    exact kk_)
  obtain ⟨cl13, Ar13, q13, S13, M13, Hs13, G13⟩ := V_tb
  obtain ⟨T13, h13, X13, e13, W13, st13⟩ := stB X10 hx hZ e10 Ar13 (j := (5 : Int32)) (inb_of S13 ⟨by decide, by decide⟩) (g := (mkF m 52 #[.val (.ref tb), .val (.int (5 : Int32)), .val (.int cc)] [(.int ((cc >>> ((8 : Int32) &&& 31)).toInt8.toInt32)), (.int (5 : Int32)), (.ref tb)])) rfl rfl (hb hby d_putChar_52)
  have P14 : ∀ t, GG p e below T13 (mkF m 53 #[.val (.ref tb), .val (.int (5 : Int32)), .val (.int cc)] []) t → Steps p.tables e below s0 t := fun t kk_ => P12 t (st13 _ kk_)
  have N13 := Fr.snoc X13 N7 g_tb
  have K13 : Keep h0 h13 [tb] := K7.wr W13 (Or.inl (List.mem_of_getElem? (i := 0) rfl))
  replace OL : Old Z n0 h13 := OL.wr W13 g_tb
  have V_tb : Arv Z h13 tb kb .byte (8 : Int32) [v0, v1, v2, v3, (.int (nar .byte ((cc >>> ((0 : Int32) &&& 31)).toInt8.toInt32))), (.int (nar .byte ((cc >>> ((8 : Int32) &&& 31)).toInt8.toInt32))), v6, v7] (.int (0 : Int32)) := Arv.set Ar13 q13 S13 M13 Hs13 G13 (fits_nar_byte _) W13 5 rfl (Nat.le_of_ble_eq_true rfl)
  subst hs0
  obtain ⟨fs, hr, hrun, hended, hW, hsame⟩ := X13.leave (v := none) (fun _ => rfl)
  refine ⟨_, _, P14 _ ?_, hrun, hended, _, _, rfl, ?_, ⟨_, rfl⟩, hW, hsame.mono (by decide) (by decide)⟩
  · show GG p e below T13 (mkF m 53 #[.val (.ref tb), .val (.int (5 : Int32)), .val (.int cc)] []) _
    exact X13.returnOut hx Bd.returns (hb hby d_putChar_53) hr
  · show Q_put2 Z tb kb cc v0 v1 v2 v3 v4 v5 v6 v7 h0 n0 _ T13.heap _
    rw [e13]
    exact ⟨rfl, N13, K13, V_tb⟩
theorem ef_get2 (m : MethodId) (x0 : Addr) : entryFrame m #[(.ref x0), (.int (2 : Int32))] 2 = mkF m 0 #[.val (.ref x0), .val (.int (2 : Int32))] [] := by first | (simp [entryFrame, mkF, argsToLocals, Value.category]; done) | rfl
def Q_get2 (Z : State) (tb : Addr) (kb : ClassId) (ga : Int32) (gb : Int32) (v0 : Value) (v1 : Value) (v2 : Value) (v3 : Value) (v6 : Value) (v7 : Value) (h0 : Heap) (n0 : Nat) (v : Option Value) (h : Heap) (L : List Loc) : Prop := v = some (.int (nar .char ((((ga &&& (255 : Int32)) <<< ((0 : Int32) &&& 31)) ||| ((gb &&& (255 : Int32)) <<< ((8 : Int32) &&& 31))).toUInt32.toUInt16.toUInt32.toInt32))) ∧ Fr n0 L ∧ h = h0
set_option maxRecDepth 65536 in
set_option maxHeartbeats 40000000 in
theorem rm_get2 (l : Launch) (Z : State) (a0 : Array Value) (hw : ∀ d ∈ tables_1, d.before a0 Z = true) (ws : List Jvm.Cond) (tb : Addr) (kb : ClassId) (ga : Int32) (gb : Int32) (v0 : Value) (v1 : Value) (v2 : Value) (v3 : Value) (v6 : Value) (v7 : Value) (h0 : Heap) (n0 : Nat) (Z0 : n0 ≤ h0.size) (V_tb : Arv Z h0 tb kb .byte (8 : Int32) [v0, v1, v2, v3, (.int ga), (.int gb), v6, v7] (.int (0 : Int32))) (S__assertionsDisabled : Sta Z Z.heap "java/lang/StringUTF16" "$assertionsDisabled" "Z" (.int (1 : Int32))) (S_HI_BYTE_SHIFT : Sta Z Z.heap "java/lang/StringUTF16" "HI_BYTE_SHIFT" "I" (.int (0 : Int32))) (S_LO_BYTE_SHIFT : Sta Z Z.heap "java/lang/StringUTF16" "LO_BYTE_SHIFT" "I" (.int (8 : Int32))) (OL : Old Z n0 h0) :
    MetFree l (⟨"java/lang/StringUTF16", "getChar", "([BI)C"⟩ : MethodName) (head1 (Jvm.Cond.code (⟨"java/lang/StringUTF16", "getChar", "([BI)C"⟩ : MethodName) jdk_52_method_5_code 2 (some .char) :: ws) ({ frames := 0, cells := 0, slots := 0, locals := 0 } : Room)) (fun a U => a = #[(.ref tb), (.int (2 : Int32))] ∧ Z.Warmed39 U.vm ∧ U.heap = h0) (fun _ _ _ _ _ => True) (fun _ U o U' => ∃ v L, o = .returned v ∧ Q_get2 Z tb kb ga gb v0 v1 v2 v3 v6 v7 h0 n0 v U'.heap L ∧ FrameEnd U o U' L ({ frames := 0, cells := 0, slots := 0, locals := 0 } : Room).cells ({ frames := 0, cells := 0, slots := 0, locals := 0 } : Room).slots) := by
  refine MetFree.of_bodySF (plainFor_of_name pn_1) hisR ?_
  intro p e s m args below meth c s₁ Bd hml0 hP hK
  obtain ⟨rfl, hZ, hh⟩ := hP
  have hx := Bd.exec
  have hby := Bd.bytes
  have hml : c.maxLocals = 2 := hml0
  have hown : s.vm.findClass "java/lang/StringUTF16" = some m.cls := findClass_of_methodNamed Bd.named
  have hnm := (name_of_methodNamed Bd.named Bd.method).1
  have X0 : Stand p l e ({ frames := 0, cells := 0, slots := 0, locals := 0 } : Room) s m #[(.ref tb), (.int (2 : Int32))] below meth c s₁ [] 0 0 := Stand.of_body Bd
  have e0 : s₁.heap = h0 := by rw [← hh, Bd.state]; rfl
  have N0 := Fr.nil n0
  obtain ⟨s0, hs0⟩ : ∃ z, z = (s₁.setTop (entryFrame m #[(.ref tb), (.int (2 : Int32))] 2)) := ⟨_, rfl⟩
  have P0 : ∀ t, GG p e below s₁ (mkF m 0 #[.val (.ref tb), .val (.int (2 : Int32))] []) t → Steps p.tables e below s0 t := fun t kk_ => by rw [hs0]; exact castTop (ef_get2 m tb) kk_
  obtain ⟨T1, X1, e1, st1⟩ := getS2 X0 hx hZ hown (host := "") (Or.inl (ww hw 41 rfl)) Via.refl e0 (S__assertionsDisabled.ext OL.2) (g := (mkF m 0 #[.val (.ref tb), .val (.int (2 : Int32))] [])) rfl (hb hby d_getChar_0)
  have P2 : ∀ t, GG p e below T1 (mkF m 3 #[.val (.ref tb), .val (.int (2 : Int32))] [(.int (1 : Int32))]) t → Steps p.tables e below s0 t := fun t kk_ => P0 t (st1 _ kk_)
  have P3 : ∀ t, GG p e below T1 (mkF m 37 #[.val (.ref tb), .val (.int (5 : Int32))] [(.int (4 : Int32)), (.ref tb)]) t → Steps p.tables e below s0 t := fun t kk_ => P2 t (by
    refine XS.ifYes X1.here hx rfl (pc0 := 3) (pc' := 28) rfl (hb hby d_getChar_3) rfl ((if0 _ _).trans (feq ((by decide) : ¬ ((1 : Int32) = (0 : Int32)))).2) (by decide) (by decide) ?_
    refine XS.iloadN X1.here hx rfl (hb hby d_getChar_28) rfl ?_
    refine XS.iconst X1.here hx rfl (hb hby d_getChar_29) ?_
    refine XS.ishl X1.here hx rfl (hb hby d_getChar_30) rfl ?_
    refine XS.istoreN X1.here hx rfl (hb hby d_getChar_31) rfl (l' := #[.val (.ref tb), .val (.int (4 : Int32))]) rfl ?_
    refine XS.aloadN X1.here hx rfl (hb hby d_getChar_32) rfl rfl ?_
    refine XS.iloadN X1.here hx rfl (hb hby d_getChar_33) rfl ?_
    refine XS.iinc X1.here hx rfl (hb hby d_getChar_34) rfl (l' := #[.val (.ref tb), .val (.int (5 : Int32))]) rfl ?_
    exact kk_)
  obtain ⟨cl4, Ar4, q4, S4, M4, Hs4, G4⟩ := id V_tb
  have hin4 := inb_of (j := (4 : Int32)) S4 ⟨by decide, by decide⟩
  have hat4 : cl4.slots[((4 : Int32)).toNatClampNeg]? = some (.int ga) := Has.at Hs4 hin4 (rfl)
  have P5 : ∀ t, GG p e below T1 (mkF m 38 #[.val (.ref tb), .val (.int (5 : Int32))] [(.int ga)]) t → Steps p.tables e below s0 t := fun t kk_ => P3 t (by
    refine X1.baloadBytes hx (j := (4 : Int32)) (v := (.int ga)) (by rw [e1]; exact Ar4.1) (State.isArrayOf_alike hZ.alike Ar4.2.1) Ar4.2.2 hin4 hat4 (g := (mkF m 37 #[.val (.ref tb), .val (.int (5 : Int32))] [(.int (4 : Int32)), (.ref tb)])) rfl rfl (hb hby d_getChar_37) _ ?_
    exact kk_)
  have P6 : ∀ t, GG p e below T1 (mkF m 42 #[.val (.ref tb), .val (.int (5 : Int32))] [(.int (ga &&& (255 : Int32)))]) t → Steps p.tables e below s0 t := fun t kk_ => P5 t (by
    refine XS.sipush X1.here hx rfl (hb hby d_getChar_38) ?_
    refine XS.iand X1.here hx rfl (hb hby d_getChar_41) rfl ?_
    exact kk_)
  obtain ⟨T7, X7, e7, st7⟩ := getS2 X1 hx hZ hown (host := "") (Or.inl (ww hw 42 rfl)) Via.refl e1 (S_HI_BYTE_SHIFT.ext OL.2) (g := (mkF m 42 #[.val (.ref tb), .val (.int (5 : Int32))] [(.int (ga &&& (255 : Int32)))])) rfl (hb hby d_getChar_42)
  have P8 : ∀ t, GG p e below T7 (mkF m 45 #[.val (.ref tb), .val (.int (5 : Int32))] [(.int (0 : Int32)), (.int (ga &&& (255 : Int32)))]) t → Steps p.tables e below s0 t := fun t kk_ => P6 t (st7 _ kk_)
  have P9 : ∀ t, GG p e below T7 (mkF m 48 #[.val (.ref tb), .val (.int (5 : Int32))] [(.int (5 : Int32)), (.ref tb), (.int ((ga &&& (255 : Int32)) <<< ((0 : Int32) &&& 31)))]) t → Steps p.tables e below s0 t := fun t kk_ => P8 t (by
    refine XS.ishl X7.here hx rfl (hb hby d_getChar_45) rfl ?_
    refine XS.aloadN X7.here hx rfl (hb hby d_getChar_46) rfl rfl ?_
    refine XS.iloadN X7.here hx rfl (hb hby d_getChar_47) rfl ?_
    exact kk_)
  obtain ⟨cl10, Ar10, q10, S10, M10, Hs10, G10⟩ := id V_tb
  have hin10 := inb_of (j := (5 : Int32)) S10 ⟨by decide, by decide⟩
  have hat10 : cl10.slots[((5 : Int32)).toNatClampNeg]? = some (.int gb) := Has.at Hs10 hin10 (rfl)
  have P11 : ∀ t, GG p e below T7 (mkF m 49 #[.val (.ref tb), .val (.int (5 : Int32))] [(.int gb), (.int ((ga &&& (255 : Int32)) <<< ((0 : Int32) &&& 31)))]) t → Steps p.tables e below s0 t := fun t kk_ => P9 t (by
    refine X7.baloadBytes hx (j := (5 : Int32)) (v := (.int gb)) (by rw [e7]; exact Ar10.1) (State.isArrayOf_alike hZ.alike Ar10.2.1) Ar10.2.2 hin10 hat10 (g := (mkF m 48 #[.val (.ref tb), .val (.int (5 : Int32))] [(.int (5 : Int32)), (.ref tb), (.int ((ga &&& (255 : Int32)) <<< ((0 : Int32) &&& 31)))])) rfl rfl (hb hby d_getChar_48) _ ?_
    exact kk_)
  have P12 : ∀ t, GG p e below T7 (mkF m 53 #[.val (.ref tb), .val (.int (5 : Int32))] [(.int (gb &&& (255 : Int32))), (.int ((ga &&& (255 : Int32)) <<< ((0 : Int32) &&& 31)))]) t → Steps p.tables e below s0 t := fun t kk_ => P11 t (by
    refine XS.sipush X7.here hx rfl (hb hby d_getChar_49) ?_
    refine XS.iand X7.here hx rfl (hb hby d_getChar_52) rfl ?_
    exact kk_)
  obtain ⟨T13, X13, e13, st13⟩ := getS2 X7 hx hZ hown (host := "") (Or.inl (ww hw 43 rfl)) Via.refl e7 (S_LO_BYTE_SHIFT.ext OL.2) (g := (mkF m 53 #[.val (.ref tb), .val (.int (5 : Int32))] [(.int (gb &&& (255 : Int32))), (.int ((ga &&& (255 : Int32)) <<< ((0 : Int32) &&& 31)))])) rfl (hb hby d_getChar_53)
  have P14 : ∀ t, GG p e below T13 (mkF m 56 #[.val (.ref tb), .val (.int (5 : Int32))] [(.int (8 : Int32)), (.int (gb &&& (255 : Int32))), (.int ((ga &&& (255 : Int32)) <<< ((0 : Int32) &&& 31)))]) t → Steps p.tables e below s0 t := fun t kk_ => P12 t (st13 _ kk_)
  have P15 : ∀ t, GG p e below T13 (mkF m 59 #[.val (.ref tb), .val (.int (5 : Int32))] [(.int ((((ga &&& (255 : Int32)) <<< ((0 : Int32) &&& 31)) ||| ((gb &&& (255 : Int32)) <<< ((8 : Int32) &&& 31))).toUInt32.toUInt16.toUInt32.toInt32))]) t → Steps p.tables e below s0 t := fun t kk_ => P14 t (by
    refine XS.ishl X13.here hx rfl (hb hby d_getChar_56) rfl ?_
    refine XS.ior X13.here hx rfl (hb hby d_getChar_57) rfl ?_
    refine XS.i2c X13.here hx rfl (hb hby d_getChar_58) rfl ?_
    exact kk_)
  subst hs0
  obtain ⟨fs, hr, hrun, hended, hW, hsame⟩ := X13.leave (v := some (.int (nar .char ((((ga &&& (255 : Int32)) <<< ((0 : Int32) &&& 31)) ||| ((gb &&& (255 : Int32)) <<< ((8 : Int32) &&& 31))).toUInt32.toUInt16.toUInt32.toInt32)))) (fun h => by rw [Bd.returns] at h; cases h)
  refine ⟨_, _, P15 _ ?_, hrun, hended, _, _, rfl, ?_, ⟨_, rfl⟩, hW, hsame.mono (by decide) (by decide)⟩
  · show GG p e below T13 (mkF m 59 #[.val (.ref tb), .val (.int (5 : Int32))] [(.int ((((ga &&& (255 : Int32)) <<< ((0 : Int32) &&& 31)) ||| ((gb &&& (255 : Int32)) <<< ((8 : Int32) &&& 31))).toUInt32.toUInt16.toUInt32.toInt32))]) _
    exact retN X13 hx (t := .char) Bd.returns (by simp) (hb hby d_getChar_59) hr
  · show Q_get2 Z tb kb ga gb v0 v1 v2 v3 v6 v7 h0 n0 _ T13.heap _
    rw [e13]
    exact ⟨rfl, N0, rfl⟩
theorem ef_put3 (m : MethodId) (x0 : Addr) (x2 : Int32) : entryFrame m #[(.ref x0), (.int (3 : Int32)), (.int x2)] 3 = mkF m 0 #[.val (.ref x0), .val (.int (3 : Int32)), .val (.int x2)] [] := by first | (simp [entryFrame, mkF, argsToLocals, Value.category]; done) | rfl
def Q_put3 (Z : State) (tb : Addr) (kb : ClassId) (cc : Int32) (v0 : Value) (v1 : Value) (v2 : Value) (v3 : Value) (v4 : Value) (v5 : Value) (v6 : Value) (v7 : Value) (h0 : Heap) (n0 : Nat) (v : Option Value) (h : Heap) (L : List Loc) : Prop := v = none ∧ Fr n0 L ∧ Keep h0 h [tb] ∧ (Arv Z h tb kb .byte (8 : Int32) [v0, v1, v2, v3, v4, v5, (.int (nar .byte ((cc >>> ((0 : Int32) &&& 31)).toInt8.toInt32))), (.int (nar .byte ((cc >>> ((8 : Int32) &&& 31)).toInt8.toInt32)))] (.int (0 : Int32)))
set_option maxRecDepth 65536 in
set_option maxHeartbeats 40000000 in
theorem rm_put3 (l : Launch) (Z : State) (a0 : Array Value) (hw : ∀ d ∈ tables_1, d.before a0 Z = true) (ws : List Jvm.Cond) (tb : Addr) (kb : ClassId) (cc : Int32) (v0 : Value) (v1 : Value) (v2 : Value) (v3 : Value) (v4 : Value) (v5 : Value) (v6 : Value) (v7 : Value) (h0 : Heap) (n0 : Nat) (Z0 : n0 ≤ h0.size) (V_tb : Arv Z h0 tb kb .byte (8 : Int32) [v0, v1, v2, v3, v4, v5, v6, v7] (.int (0 : Int32))) (g_tb : n0 ≤ tb) (S__assertionsDisabled : Sta Z Z.heap "java/lang/StringUTF16" "$assertionsDisabled" "Z" (.int (1 : Int32))) (S_HI_BYTE_SHIFT : Sta Z Z.heap "java/lang/StringUTF16" "HI_BYTE_SHIFT" "I" (.int (0 : Int32))) (S_LO_BYTE_SHIFT : Sta Z Z.heap "java/lang/StringUTF16" "LO_BYTE_SHIFT" "I" (.int (8 : Int32))) (OL : Old Z n0 h0) :
    MetFree l (⟨"java/lang/StringUTF16", "putChar", "([BII)V"⟩ : MethodName) (head1 (Jvm.Cond.code (⟨"java/lang/StringUTF16", "putChar", "([BII)V"⟩ : MethodName) jdk_52_method_4_code 3 none :: ws) ({ frames := 0, cells := 0, slots := 0, locals := 0 } : Room)) (fun a U => a = #[(.ref tb), (.int (3 : Int32)), (.int cc)] ∧ Z.Warmed39 U.vm ∧ U.heap = h0) (fun _ _ _ _ _ => True) (fun _ U o U' => ∃ v L, o = .returned v ∧ Q_put3 Z tb kb cc v0 v1 v2 v3 v4 v5 v6 v7 h0 n0 v U'.heap L ∧ FrameEnd U o U' L ({ frames := 0, cells := 0, slots := 0, locals := 0 } : Room).cells ({ frames := 0, cells := 0, slots := 0, locals := 0 } : Room).slots) := by
  refine MetFree.of_bodySF (plainFor_of_name pn_1) hisR ?_
  intro p e s m args below meth c s₁ Bd hml0 hP hK
  obtain ⟨rfl, hZ, hh⟩ := hP
  have hx := Bd.exec
  have hby := Bd.bytes
  have hml : c.maxLocals = 3 := hml0
  have hown : s.vm.findClass "java/lang/StringUTF16" = some m.cls := findClass_of_methodNamed Bd.named
  have hnm := (name_of_methodNamed Bd.named Bd.method).1
  have X0 : Stand p l e ({ frames := 0, cells := 0, slots := 0, locals := 0 } : Room) s m #[(.ref tb), (.int (3 : Int32)), (.int cc)] below meth c s₁ [] 0 0 := Stand.of_body Bd
  have e0 : s₁.heap = h0 := by rw [← hh, Bd.state]; rfl
  have N0 := Fr.nil n0
  obtain ⟨s0, hs0⟩ : ∃ z, z = (s₁.setTop (entryFrame m #[(.ref tb), (.int (3 : Int32)), (.int cc)] 3)) := ⟨_, rfl⟩
  have P0 : ∀ t, GG p e below s₁ (mkF m 0 #[.val (.ref tb), .val (.int (3 : Int32)), .val (.int cc)] []) t → Steps p.tables e below s0 t := fun t kk_ => by rw [hs0]; exact castTop (ef_put3 m tb cc) kk_
  obtain ⟨T1, X1, e1, st1⟩ := getS2 X0 hx hZ hown (host := "") (Or.inl (ww hw 41 rfl)) Via.refl e0 (S__assertionsDisabled.ext OL.2) (g := (mkF m 0 #[.val (.ref tb), .val (.int (3 : Int32)), .val (.int cc)] [])) rfl (hb hby d_putChar_0)
  have P2 : ∀ t, GG p e below T1 (mkF m 3 #[.val (.ref tb), .val (.int (3 : Int32)), .val (.int cc)] [(.int (1 : Int32))]) t → Steps p.tables e below s0 t := fun t kk_ => P0 t (st1 _ kk_)
  have P3 : ∀ t, GG p e below T1 (mkF m 38 #[.val (.ref tb), .val (.int (7 : Int32)), .val (.int cc)] [(.int cc), (.int (6 : Int32)), (.ref tb)]) t → Steps p.tables e below s0 t := fun t kk_ => P2 t (by
    refine XS.ifYes X1.here hx rfl (pc0 := 3) (pc' := 28) rfl (hb hby d_putChar_3) rfl ((if0 _ _).trans (feq ((by decide) : ¬ ((1 : Int32) = (0 : Int32)))).2) (by decide) (by decide) ?_
    refine XS.iloadN X1.here hx rfl (hb hby d_putChar_28) rfl ?_
    refine XS.iconst X1.here hx rfl (hb hby d_putChar_29) ?_
    refine XS.ishl X1.here hx rfl (hb hby d_putChar_30) rfl ?_
    refine XS.istoreN X1.here hx rfl (hb hby d_putChar_31) rfl (l' := #[.val (.ref tb), .val (.int (6 : Int32)), .val (.int cc)]) rfl ?_
    refine XS.aloadN X1.here hx rfl (hb hby d_putChar_32) rfl rfl ?_
    refine XS.iloadN X1.here hx rfl (hb hby d_putChar_33) rfl ?_
    refine XS.iinc X1.here hx rfl (hb hby d_putChar_34) rfl (l' := #[.val (.ref tb), .val (.int (7 : Int32)), .val (.int cc)]) rfl ?_
    refine XS.iloadN X1.here hx rfl (hb hby d_putChar_37) rfl ?_
    exact kk_)
  obtain ⟨T4, X4, e4, st4⟩ := getS2 X1 hx hZ hown (host := "") (Or.inl (ww hw 42 rfl)) Via.refl e1 (S_HI_BYTE_SHIFT.ext OL.2) (g := (mkF m 38 #[.val (.ref tb), .val (.int (7 : Int32)), .val (.int cc)] [(.int cc), (.int (6 : Int32)), (.ref tb)])) rfl (hb hby d_putChar_38)
  have P5 : ∀ t, GG p e below T4 (mkF m 41 #[.val (.ref tb), .val (.int (7 : Int32)), .val (.int cc)] [(.int (0 : Int32)), (.int cc), (.int (6 : Int32)), (.ref tb)]) t → Steps p.tables e below s0 t := fun t kk_ => P3 t (st4 _ kk_)
  have P6 : ∀ t, GG p e below T4 (mkF m 43 #[.val (.ref tb), .val (.int (7 : Int32)), .val (.int cc)] [(.int ((cc >>> ((0 : Int32) &&& 31)).toInt8.toInt32)), (.int (6 : Int32)), (.ref tb)]) t → Steps p.tables e below s0 t := fun t kk_ => P5 t (by
    refine XS.ishr X4.here hx rfl (hb hby d_putChar_41) rfl ?_
    refine XS.i2b X4.here hx rfl (hb hby d_putChar_42) rfl ?_
    exact kk_)
  obtain ⟨cl7, Ar7, q7, S7, M7, Hs7, G7⟩ := V_tb
  obtain ⟨T7, h7, X7, e7, W7, st7⟩ := stB X4 hx hZ e4 Ar7 (j := (6 : Int32)) (inb_of S7 ⟨by decide, by decide⟩) (g := (mkF m 43 #[.val (.ref tb), .val (.int (7 : Int32)), .val (.int cc)] [(.int ((cc >>> ((0 : Int32) &&& 31)).toInt8.toInt32)), (.int (6 : Int32)), (.ref tb)])) rfl rfl (hb hby d_putChar_43)
  have P8 : ∀ t, GG p e below T7 (mkF m 44 #[.val (.ref tb), .val (.int (7 : Int32)), .val (.int cc)] []) t → Steps p.tables e below s0 t := fun t kk_ => P6 t (st7 _ kk_)
  have N7 := Fr.snoc X7 N0 g_tb
  have K7 : Keep h0 h7 [tb] := (Keep.refl h0 [tb]).wr W7 (Or.inl (List.mem_of_getElem? (i := 0) rfl))
  replace OL : Old Z n0 h7 := OL.wr W7 g_tb
  have V_tb : Arv Z h7 tb kb .byte (8 : Int32) [v0, v1, v2, v3, v4, v5, (.int (nar .byte ((cc >>> ((0 : Int32) &&& 31)).toInt8.toInt32))), v7] (.int (0 : Int32)) := Arv.set Ar7 q7 S7 M7 Hs7 G7 (fits_nar_byte _) W7 6 rfl (Nat.le_of_ble_eq_true rfl)
  have P9 : ∀ t, GG p e below T7 (mkF m 47 #[.val (.ref tb), .val (.int (7 : Int32)), .val (.int cc)] [(.int cc), (.int (7 : Int32)), (.ref tb)]) t → Steps p.tables e below s0 t := fun t kk_ => P8 t (by
    refine XS.aloadN X7.here hx rfl (hb hby d_putChar_44) rfl rfl ?_
    refine XS.iloadN X7.here hx rfl (hb hby d_putChar_45) rfl ?_
    refine XS.iloadN X7.here hx rfl (hb hby d_putChar_46) rfl ?_
    exact kk_)
  obtain ⟨T10, X10, e10, st10⟩ := getS2 X7 hx hZ hown (host := "") (Or.inl (ww hw 43 rfl)) Via.refl e7 (S_LO_BYTE_SHIFT.ext OL.2) (g := (mkF m 47 #[.val (.ref tb), .val (.int (7 : Int32)), .val (.int cc)] [(.int cc), (.int (7 : Int32)), (.ref tb)])) rfl (hb hby d_putChar_47)
  have P11 : ∀ t, GG p e below T10 (mkF m 50 #[.val (.ref tb), .val (.int (7 : Int32)), .val (.int cc)] [(.int (8 : Int32)), (.int cc), (.int (7 : Int32)), (.ref tb)]) t → Steps p.tables e below s0 t := fun t kk_ => P9 t (st10 _ kk_)
  have P12 : ∀ t, GG p e below T10 (mkF m 52 #[.val (.ref tb), .val (.int (7 : Int32)), .val (.int cc)] [(.int ((cc >>> ((8 : Int32) &&& 31)).toInt8.toInt32)), (.int (7 : Int32)), (.ref tb)]) t → Steps p.tables e below s0 t := fun t kk_ => P11 t (by
    refine XS.ishr X10.here hx rfl (hb hby d_putChar_50) rfl ?_
    refine XS.i2b X10.here hx rfl (hb hby d_putChar_51) rfl ?_
    exact kk_)
  obtain ⟨cl13, Ar13, q13, S13, M13, Hs13, G13⟩ := V_tb
  obtain ⟨T13, h13, X13, e13, W13, st13⟩ := stB X10 hx hZ e10 Ar13 (j := (7 : Int32)) (inb_of S13 ⟨by decide, by decide⟩) (g := (mkF m 52 #[.val (.ref tb), .val (.int (7 : Int32)), .val (.int cc)] [(.int ((cc >>> ((8 : Int32) &&& 31)).toInt8.toInt32)), (.int (7 : Int32)), (.ref tb)])) rfl rfl (hb hby d_putChar_52)
  have P14 : ∀ t, GG p e below T13 (mkF m 53 #[.val (.ref tb), .val (.int (7 : Int32)), .val (.int cc)] []) t → Steps p.tables e below s0 t := fun t kk_ => P12 t (st13 _ kk_)
  have N13 := Fr.snoc X13 N7 g_tb
  have K13 : Keep h0 h13 [tb] := K7.wr W13 (Or.inl (List.mem_of_getElem? (i := 0) rfl))
  replace OL : Old Z n0 h13 := OL.wr W13 g_tb
  have V_tb : Arv Z h13 tb kb .byte (8 : Int32) [v0, v1, v2, v3, v4, v5, (.int (nar .byte ((cc >>> ((0 : Int32) &&& 31)).toInt8.toInt32))), (.int (nar .byte ((cc >>> ((8 : Int32) &&& 31)).toInt8.toInt32)))] (.int (0 : Int32)) := Arv.set Ar13 q13 S13 M13 Hs13 G13 (fits_nar_byte _) W13 7 rfl (Nat.le_of_ble_eq_true rfl)
  subst hs0
  obtain ⟨fs, hr, hrun, hended, hW, hsame⟩ := X13.leave (v := none) (fun _ => rfl)
  refine ⟨_, _, P14 _ ?_, hrun, hended, _, _, rfl, ?_, ⟨_, rfl⟩, hW, hsame.mono (by decide) (by decide)⟩
  · show GG p e below T13 (mkF m 53 #[.val (.ref tb), .val (.int (7 : Int32)), .val (.int cc)] []) _
    exact X13.returnOut hx Bd.returns (hb hby d_putChar_53) hr
  · show Q_put3 Z tb kb cc v0 v1 v2 v3 v4 v5 v6 v7 h0 n0 _ T13.heap _
    rw [e13]
    exact ⟨rfl, N13, K13, V_tb⟩
theorem ef_get3 (m : MethodId) (x0 : Addr) : entryFrame m #[(.ref x0), (.int (3 : Int32))] 2 = mkF m 0 #[.val (.ref x0), .val (.int (3 : Int32))] [] := by first | (simp [entryFrame, mkF, argsToLocals, Value.category]; done) | rfl
def Q_get3 (Z : State) (tb : Addr) (kb : ClassId) (ga : Int32) (gb : Int32) (v0 : Value) (v1 : Value) (v2 : Value) (v3 : Value) (v4 : Value) (v5 : Value) (h0 : Heap) (n0 : Nat) (v : Option Value) (h : Heap) (L : List Loc) : Prop := v = some (.int (nar .char ((((ga &&& (255 : Int32)) <<< ((0 : Int32) &&& 31)) ||| ((gb &&& (255 : Int32)) <<< ((8 : Int32) &&& 31))).toUInt32.toUInt16.toUInt32.toInt32))) ∧ Fr n0 L ∧ h = h0
set_option maxRecDepth 65536 in
set_option maxHeartbeats 40000000 in
theorem rm_get3 (l : Launch) (Z : State) (a0 : Array Value) (hw : ∀ d ∈ tables_1, d.before a0 Z = true) (ws : List Jvm.Cond) (tb : Addr) (kb : ClassId) (ga : Int32) (gb : Int32) (v0 : Value) (v1 : Value) (v2 : Value) (v3 : Value) (v4 : Value) (v5 : Value) (h0 : Heap) (n0 : Nat) (Z0 : n0 ≤ h0.size) (V_tb : Arv Z h0 tb kb .byte (8 : Int32) [v0, v1, v2, v3, v4, v5, (.int ga), (.int gb)] (.int (0 : Int32))) (S__assertionsDisabled : Sta Z Z.heap "java/lang/StringUTF16" "$assertionsDisabled" "Z" (.int (1 : Int32))) (S_HI_BYTE_SHIFT : Sta Z Z.heap "java/lang/StringUTF16" "HI_BYTE_SHIFT" "I" (.int (0 : Int32))) (S_LO_BYTE_SHIFT : Sta Z Z.heap "java/lang/StringUTF16" "LO_BYTE_SHIFT" "I" (.int (8 : Int32))) (OL : Old Z n0 h0) :
    MetFree l (⟨"java/lang/StringUTF16", "getChar", "([BI)C"⟩ : MethodName) (head1 (Jvm.Cond.code (⟨"java/lang/StringUTF16", "getChar", "([BI)C"⟩ : MethodName) jdk_52_method_5_code 2 (some .char) :: ws) ({ frames := 0, cells := 0, slots := 0, locals := 0 } : Room)) (fun a U => a = #[(.ref tb), (.int (3 : Int32))] ∧ Z.Warmed39 U.vm ∧ U.heap = h0) (fun _ _ _ _ _ => True) (fun _ U o U' => ∃ v L, o = .returned v ∧ Q_get3 Z tb kb ga gb v0 v1 v2 v3 v4 v5 h0 n0 v U'.heap L ∧ FrameEnd U o U' L ({ frames := 0, cells := 0, slots := 0, locals := 0 } : Room).cells ({ frames := 0, cells := 0, slots := 0, locals := 0 } : Room).slots) := by
  refine MetFree.of_bodySF (plainFor_of_name pn_1) hisR ?_
  intro p e s m args below meth c s₁ Bd hml0 hP hK
  obtain ⟨rfl, hZ, hh⟩ := hP
  have hx := Bd.exec
  have hby := Bd.bytes
  have hml : c.maxLocals = 2 := hml0
  have hown : s.vm.findClass "java/lang/StringUTF16" = some m.cls := findClass_of_methodNamed Bd.named
  have hnm := (name_of_methodNamed Bd.named Bd.method).1
  have X0 : Stand p l e ({ frames := 0, cells := 0, slots := 0, locals := 0 } : Room) s m #[(.ref tb), (.int (3 : Int32))] below meth c s₁ [] 0 0 := Stand.of_body Bd
  have e0 : s₁.heap = h0 := by rw [← hh, Bd.state]; rfl
  have N0 := Fr.nil n0
  obtain ⟨s0, hs0⟩ : ∃ z, z = (s₁.setTop (entryFrame m #[(.ref tb), (.int (3 : Int32))] 2)) := ⟨_, rfl⟩
  have P0 : ∀ t, GG p e below s₁ (mkF m 0 #[.val (.ref tb), .val (.int (3 : Int32))] []) t → Steps p.tables e below s0 t := fun t kk_ => by rw [hs0]; exact castTop (ef_get3 m tb) kk_
  obtain ⟨T1, X1, e1, st1⟩ := getS2 X0 hx hZ hown (host := "") (Or.inl (ww hw 41 rfl)) Via.refl e0 (S__assertionsDisabled.ext OL.2) (g := (mkF m 0 #[.val (.ref tb), .val (.int (3 : Int32))] [])) rfl (hb hby d_getChar_0)
  have P2 : ∀ t, GG p e below T1 (mkF m 3 #[.val (.ref tb), .val (.int (3 : Int32))] [(.int (1 : Int32))]) t → Steps p.tables e below s0 t := fun t kk_ => P0 t (st1 _ kk_)
  have P3 : ∀ t, GG p e below T1 (mkF m 37 #[.val (.ref tb), .val (.int (7 : Int32))] [(.int (6 : Int32)), (.ref tb)]) t → Steps p.tables e below s0 t := fun t kk_ => P2 t (by
    refine XS.ifYes X1.here hx rfl (pc0 := 3) (pc' := 28) rfl (hb hby d_getChar_3) rfl ((if0 _ _).trans (feq ((by decide) : ¬ ((1 : Int32) = (0 : Int32)))).2) (by decide) (by decide) ?_
    refine XS.iloadN X1.here hx rfl (hb hby d_getChar_28) rfl ?_
    refine XS.iconst X1.here hx rfl (hb hby d_getChar_29) ?_
    refine XS.ishl X1.here hx rfl (hb hby d_getChar_30) rfl ?_
    refine XS.istoreN X1.here hx rfl (hb hby d_getChar_31) rfl (l' := #[.val (.ref tb), .val (.int (6 : Int32))]) rfl ?_
    refine XS.aloadN X1.here hx rfl (hb hby d_getChar_32) rfl rfl ?_
    refine XS.iloadN X1.here hx rfl (hb hby d_getChar_33) rfl ?_
    refine XS.iinc X1.here hx rfl (hb hby d_getChar_34) rfl (l' := #[.val (.ref tb), .val (.int (7 : Int32))]) rfl ?_
    exact kk_)
  obtain ⟨cl4, Ar4, q4, S4, M4, Hs4, G4⟩ := id V_tb
  have hin4 := inb_of (j := (6 : Int32)) S4 ⟨by decide, by decide⟩
  have hat4 : cl4.slots[((6 : Int32)).toNatClampNeg]? = some (.int ga) := Has.at Hs4 hin4 (rfl)
  have P5 : ∀ t, GG p e below T1 (mkF m 38 #[.val (.ref tb), .val (.int (7 : Int32))] [(.int ga)]) t → Steps p.tables e below s0 t := fun t kk_ => P3 t (by
    refine X1.baloadBytes hx (j := (6 : Int32)) (v := (.int ga)) (by rw [e1]; exact Ar4.1) (State.isArrayOf_alike hZ.alike Ar4.2.1) Ar4.2.2 hin4 hat4 (g := (mkF m 37 #[.val (.ref tb), .val (.int (7 : Int32))] [(.int (6 : Int32)), (.ref tb)])) rfl rfl (hb hby d_getChar_37) _ ?_
    exact kk_)
  have P6 : ∀ t, GG p e below T1 (mkF m 42 #[.val (.ref tb), .val (.int (7 : Int32))] [(.int (ga &&& (255 : Int32)))]) t → Steps p.tables e below s0 t := fun t kk_ => P5 t (by
    refine XS.sipush X1.here hx rfl (hb hby d_getChar_38) ?_
    refine XS.iand X1.here hx rfl (hb hby d_getChar_41) rfl ?_
    exact kk_)
  obtain ⟨T7, X7, e7, st7⟩ := getS2 X1 hx hZ hown (host := "") (Or.inl (ww hw 42 rfl)) Via.refl e1 (S_HI_BYTE_SHIFT.ext OL.2) (g := (mkF m 42 #[.val (.ref tb), .val (.int (7 : Int32))] [(.int (ga &&& (255 : Int32)))])) rfl (hb hby d_getChar_42)
  have P8 : ∀ t, GG p e below T7 (mkF m 45 #[.val (.ref tb), .val (.int (7 : Int32))] [(.int (0 : Int32)), (.int (ga &&& (255 : Int32)))]) t → Steps p.tables e below s0 t := fun t kk_ => P6 t (st7 _ kk_)
  have P9 : ∀ t, GG p e below T7 (mkF m 48 #[.val (.ref tb), .val (.int (7 : Int32))] [(.int (7 : Int32)), (.ref tb), (.int ((ga &&& (255 : Int32)) <<< ((0 : Int32) &&& 31)))]) t → Steps p.tables e below s0 t := fun t kk_ => P8 t (by
    refine XS.ishl X7.here hx rfl (hb hby d_getChar_45) rfl ?_
    refine XS.aloadN X7.here hx rfl (hb hby d_getChar_46) rfl rfl ?_
    refine XS.iloadN X7.here hx rfl (hb hby d_getChar_47) rfl ?_
    exact kk_)
  obtain ⟨cl10, Ar10, q10, S10, M10, Hs10, G10⟩ := id V_tb
  have hin10 := inb_of (j := (7 : Int32)) S10 ⟨by decide, by decide⟩
  have hat10 : cl10.slots[((7 : Int32)).toNatClampNeg]? = some (.int gb) := Has.at Hs10 hin10 (rfl)
  have P11 : ∀ t, GG p e below T7 (mkF m 49 #[.val (.ref tb), .val (.int (7 : Int32))] [(.int gb), (.int ((ga &&& (255 : Int32)) <<< ((0 : Int32) &&& 31)))]) t → Steps p.tables e below s0 t := fun t kk_ => P9 t (by
    refine X7.baloadBytes hx (j := (7 : Int32)) (v := (.int gb)) (by rw [e7]; exact Ar10.1) (State.isArrayOf_alike hZ.alike Ar10.2.1) Ar10.2.2 hin10 hat10 (g := (mkF m 48 #[.val (.ref tb), .val (.int (7 : Int32))] [(.int (7 : Int32)), (.ref tb), (.int ((ga &&& (255 : Int32)) <<< ((0 : Int32) &&& 31)))])) rfl rfl (hb hby d_getChar_48) _ ?_
    exact kk_)
  have P12 : ∀ t, GG p e below T7 (mkF m 53 #[.val (.ref tb), .val (.int (7 : Int32))] [(.int (gb &&& (255 : Int32))), (.int ((ga &&& (255 : Int32)) <<< ((0 : Int32) &&& 31)))]) t → Steps p.tables e below s0 t := fun t kk_ => P11 t (by
    refine XS.sipush X7.here hx rfl (hb hby d_getChar_49) ?_
    refine XS.iand X7.here hx rfl (hb hby d_getChar_52) rfl ?_
    exact kk_)
  obtain ⟨T13, X13, e13, st13⟩ := getS2 X7 hx hZ hown (host := "") (Or.inl (ww hw 43 rfl)) Via.refl e7 (S_LO_BYTE_SHIFT.ext OL.2) (g := (mkF m 53 #[.val (.ref tb), .val (.int (7 : Int32))] [(.int (gb &&& (255 : Int32))), (.int ((ga &&& (255 : Int32)) <<< ((0 : Int32) &&& 31)))])) rfl (hb hby d_getChar_53)
  have P14 : ∀ t, GG p e below T13 (mkF m 56 #[.val (.ref tb), .val (.int (7 : Int32))] [(.int (8 : Int32)), (.int (gb &&& (255 : Int32))), (.int ((ga &&& (255 : Int32)) <<< ((0 : Int32) &&& 31)))]) t → Steps p.tables e below s0 t := fun t kk_ => P12 t (st13 _ kk_)
  have P15 : ∀ t, GG p e below T13 (mkF m 59 #[.val (.ref tb), .val (.int (7 : Int32))] [(.int ((((ga &&& (255 : Int32)) <<< ((0 : Int32) &&& 31)) ||| ((gb &&& (255 : Int32)) <<< ((8 : Int32) &&& 31))).toUInt32.toUInt16.toUInt32.toInt32))]) t → Steps p.tables e below s0 t := fun t kk_ => P14 t (by
    refine XS.ishl X13.here hx rfl (hb hby d_getChar_56) rfl ?_
    refine XS.ior X13.here hx rfl (hb hby d_getChar_57) rfl ?_
    refine XS.i2c X13.here hx rfl (hb hby d_getChar_58) rfl ?_
    exact kk_)
  subst hs0
  obtain ⟨fs, hr, hrun, hended, hW, hsame⟩ := X13.leave (v := some (.int (nar .char ((((ga &&& (255 : Int32)) <<< ((0 : Int32) &&& 31)) ||| ((gb &&& (255 : Int32)) <<< ((8 : Int32) &&& 31))).toUInt32.toUInt16.toUInt32.toInt32)))) (fun h => by rw [Bd.returns] at h; cases h)
  refine ⟨_, _, P15 _ ?_, hrun, hended, _, _, rfl, ?_, ⟨_, rfl⟩, hW, hsame.mono (by decide) (by decide)⟩
  · show GG p e below T13 (mkF m 59 #[.val (.ref tb), .val (.int (7 : Int32))] [(.int ((((ga &&& (255 : Int32)) <<< ((0 : Int32) &&& 31)) ||| ((gb &&& (255 : Int32)) <<< ((8 : Int32) &&& 31))).toUInt32.toUInt16.toUInt32.toInt32))]) _
    exact retN X13 hx (t := .char) Bd.returns (by simp) (hb hby d_getChar_59) hr
  · show Q_get3 Z tb kb ga gb v0 v1 v2 v3 v4 v5 h0 n0 _ T13.heap _
    rw [e13]
    exact ⟨rfl, N0, rfl⟩
theorem ef_toB (m : MethodId) (x0 : Addr) : entryFrame m #[(.ref x0), (.int (0 : Int32)), (.int (4 : Int32))] 5 = mkF m 0 #[.val (.ref x0), .val (.int (0 : Int32)), .val (.int (4 : Int32)), .unset, .unset] [] := by first | (simp [entryFrame, mkF, argsToLocals, Value.category]; done) | rfl
theorem d_toBytes_0 : decode jdk_52_method_14_code 0 = .ok (.iload_n 2, 1) := by decide +kernel
theorem pd_1 : parseMethodDescriptor "(I)[B" = some ⟨[.int], some (.array .byte)⟩ := by decide +kernel
theorem d_toBytes_1 : decode jdk_52_method_14_code 1 = .ok (.invokestatic 107, 3) := by decide +kernel
abbrev mn_1 : MethodName := ⟨"java/lang/StringUTF16", "newBytesFor", "(I)[B"⟩
theorem d_toBytes_4 : decode jdk_52_method_14_code 4 = .ok (.astore_n 3, 1) := by decide +kernel
theorem d_toBytes_5 : decode jdk_52_method_14_code 5 = .ok (.iconst 0, 1) := by decide +kernel
theorem d_toBytes_6 : decode jdk_52_method_14_code 6 = .ok (.istore 4, 2) := by decide +kernel
theorem d_toBytes_8 : decode jdk_52_method_14_code 8 = .ok (.iload 4, 2) := by decide +kernel
theorem d_toBytes_10 : decode jdk_52_method_14_code 10 = .ok (.iload_n 2, 1) := by decide +kernel
theorem d_toBytes_11 : decode jdk_52_method_14_code 11 = .ok (.if_icmp .ge 21, 3) := by decide +kernel
theorem d_toBytes_14 : decode jdk_52_method_14_code 14 = .ok (.aload_n 3, 1) := by decide +kernel
theorem d_toBytes_15 : decode jdk_52_method_14_code 15 = .ok (.iload 4, 2) := by decide +kernel
theorem d_toBytes_17 : decode jdk_52_method_14_code 17 = .ok (.aload_n 0, 1) := by decide +kernel
theorem d_toBytes_18 : decode jdk_52_method_14_code 18 = .ok (.iload_n 1, 1) := by decide +kernel
theorem d_toBytes_19 : decode jdk_52_method_14_code 19 = .ok (.caload, 1) := by decide +kernel
theorem pd_2 : parseMethodDescriptor "([BII)V" = some ⟨[(.array .byte), .int, .int], none⟩ := by decide +kernel
theorem d_toBytes_20 : decode jdk_52_method_14_code 20 = .ok (.invokestatic 111, 3) := by decide +kernel
abbrev mn_2 : MethodName := ⟨"java/lang/StringUTF16", "putChar", "([BII)V"⟩
theorem d_toBytes_23 : decode jdk_52_method_14_code 23 = .ok (.iinc 1 1, 3) := by decide +kernel
theorem d_toBytes_26 : decode jdk_52_method_14_code 26 = .ok (.iinc 4 1, 3) := by decide +kernel
theorem d_toBytes_29 : decode jdk_52_method_14_code 29 = .ok (.goto (-21), 3) := by decide +kernel
theorem d_toBytes_32 : decode jdk_52_method_14_code 32 = .ok (.aload_n 3, 1) := by decide +kernel
theorem d_toBytes_33 : decode jdk_52_method_14_code 33 = .ok (.areturn, 1) := by decide +kernel
def Q_toB (Z : State) (sa : Addr) (ks : ClassId) (c0 : Int32) (c1 : Int32) (c2 : Int32) (c3 : Int32) (h0 : Heap) (n0 : Nat) (v : Option Value) (h : Heap) (L : List Loc) : Prop := ∃ (t : Addr) (kb : ClassId), v = some (.ref t) ∧ Fr n0 L ∧ Keep h0 h [] ∧ (h0.size ≤ t) ∧ (Arv Z h t kb .byte (8 : Int32) [(.int (nar .byte ((c0 >>> ((0 : Int32) &&& 31)).toInt8.toInt32))), (.int (nar .byte ((c0 >>> ((8 : Int32) &&& 31)).toInt8.toInt32))), (.int (nar .byte ((c1 >>> ((0 : Int32) &&& 31)).toInt8.toInt32))), (.int (nar .byte ((c1 >>> ((8 : Int32) &&& 31)).toInt8.toInt32))), (.int (nar .byte ((c2 >>> ((0 : Int32) &&& 31)).toInt8.toInt32))), (.int (nar .byte ((c2 >>> ((8 : Int32) &&& 31)).toInt8.toInt32))), (.int (nar .byte ((c3 >>> ((0 : Int32) &&& 31)).toInt8.toInt32))), (.int (nar .byte ((c3 >>> ((8 : Int32) &&& 31)).toInt8.toInt32)))] (.int (0 : Int32)))
set_option maxRecDepth 65536 in
set_option maxHeartbeats 40000000 in
theorem rm_toB (l : Launch) (Z : State) (a0 : Array Value) (hw : ∀ d ∈ tables_1, d.before a0 Z = true) (ws : List Jvm.Cond) (sa : Addr) (ks : ClassId) (c0 : Int32) (c1 : Int32) (c2 : Int32) (c3 : Int32) (h0 : Heap) (n0 : Nat) (Z0 : n0 ≤ h0.size) (V_sa : Arv Z h0 sa ks .char (4 : Int32) [(.int c0), (.int c1), (.int c2), (.int c3)] (.int (0 : Int32))) (S__assertionsDisabled : Sta Z Z.heap "java/lang/StringUTF16" "$assertionsDisabled" "Z" (.int (1 : Int32))) (S_HI_BYTE_SHIFT : Sta Z Z.heap "java/lang/StringUTF16" "HI_BYTE_SHIFT" "I" (.int (0 : Int32))) (S_LO_BYTE_SHIFT : Sta Z Z.heap "java/lang/StringUTF16" "LO_BYTE_SHIFT" "I" (.int (8 : Int32))) (OL : Old Z n0 h0) :
    MetFree l (⟨"java/lang/StringUTF16", "toBytes", "([CII)[B"⟩ : MethodName) (head1 (Jvm.Cond.code (⟨"java/lang/StringUTF16", "toBytes", "([CII)[B"⟩ : MethodName) jdk_52_method_14_code 5 (some (.array .byte)) :: ws) ({ frames := 2, cells := 1, slots := 8, locals := 24 } : Room)) (fun a U => a = #[(.ref sa), (.int (0 : Int32)), (.int (4 : Int32))] ∧ Z.Warmed39 U.vm ∧ U.heap = h0) (fun _ _ _ _ _ => True) (fun _ U o U' => ∃ v L, o = .returned v ∧ Q_toB Z sa ks c0 c1 c2 c3 h0 n0 v U'.heap L ∧ FrameEnd U o U' L ({ frames := 2, cells := 1, slots := 8, locals := 24 } : Room).cells ({ frames := 2, cells := 1, slots := 8, locals := 24 } : Room).slots) := by
  refine MetFree.of_bodySF (plainFor_of_name pn_1) hisR ?_
  intro p e s m args below meth c s₁ Bd hml0 hP hK
  obtain ⟨rfl, hZ, hh⟩ := hP
  have hx := Bd.exec
  have hby := Bd.bytes
  have hml : c.maxLocals = 5 := hml0
  have hown : s.vm.findClass "java/lang/StringUTF16" = some m.cls := findClass_of_methodNamed Bd.named
  have hnm := (name_of_methodNamed Bd.named Bd.method).1
  have X0 : Stand p l e ({ frames := 2, cells := 1, slots := 8, locals := 24 } : Room) s m #[(.ref sa), (.int (0 : Int32)), (.int (4 : Int32))] below meth c s₁ [] 0 0 := Stand.of_body Bd
  have e0 : s₁.heap = h0 := by rw [← hh, Bd.state]; rfl
  have N0 := Fr.nil n0
  obtain ⟨s0, hs0⟩ : ∃ z, z = (s₁.setTop (entryFrame m #[(.ref sa), (.int (0 : Int32)), (.int (4 : Int32))] 5)) := ⟨_, rfl⟩
  have P0 : ∀ t, GG p e below s₁ (mkF m 0 #[.val (.ref sa), .val (.int (0 : Int32)), .val (.int (4 : Int32)), .unset, .unset] []) t → Steps p.tables e below s0 t := fun t kk_ => by rw [hs0]; exact castTop (ef_toB m sa) kk_
  have P1 : ∀ t, GG p e below s₁ (mkF m 1 #[.val (.ref sa), .val (.int (0 : Int32)), .val (.int (4 : Int32)), .unset, .unset] [(.int (4 : Int32))]) t → Steps p.tables e below s0 t := fun t kk_ => P0 t (by
    refine XS.iloadN X0.here hx rfl (hb hby d_toBytes_0) rfl ?_
    exact kk_)
  obtain ⟨_, _, ⟨T2, L2, k2, n2⟩, -, X2, ⟨Lc2, hQ2, l2, y2, z2⟩, st2⟩ := Jvm.LawKit.callS X0 hx (y := mn_1) hown (mw hZ hw 31 rfl) (mw hZ hw 32 rfl) (mw hZ hw 22 rfl) (mw hZ hw 33 rfl) (by decide) (backOf (W := 0) (rm_newBytesFor l Z a0 hw [] h0 n0 (Nat.le_trans Z0 (Nat.le_refl h0.size))) hZ (ww hw 33 rfl) (ww hw 22 rfl) (by decide) (by decide)) (g := (mkF m 1 #[.val (.ref sa), .val (.int (0 : Int32)), .val (.int (4 : Int32)), .unset, .unset] [(.int (4 : Int32))])) rfl (by rw [hml]; rfl) (argsL := [(.int (4 : Int32))]) (rest := []) (lenOf pd_1 rfl) rfl (by show 2 * 0 + _ ≤ _; exact Nat.le_of_eq rfl) (hb hby d_toBytes_1) (fun _ _ => ⟨rfl, e0, (by decide : 0 + 1 ≤ _), (by decide : 0 + 8 ≤ _)⟩)
  dsimp only [Pt.U, Pt.locs, Pt.cells, Pt.slots] at X2 l2 y2 z2 st2 hQ2
  subst l2 y2 z2
  obtain ⟨t_2, kb_2, rfl, N2q, Kc2, po2_0, po2_1⟩ := hQ2
  have N2 := Fr.app N0 N2q
  have P3 : ∀ t, GG p e below T2 (mkF m 4 #[.val (.ref sa), .val (.int (0 : Int32)), .val (.int (4 : Int32)), .unset, .unset] [(.ref t_2)]) t → Steps p.tables e below s0 t := fun t kk_ => P1 t (st2 _ kk_)
  have ne_sa_t_2 : sa ≠ t_2 := Nat.ne_of_lt (Nat.lt_of_lt_of_le V_sa.lt po2_0)
  have sz_t_2 : h0.size ≤ t_2 := Nat.le_trans (Nat.le_refl h0.size) po2_0
  replace V_sa : Arv Z T2.heap sa ks .char (4 : Int32) [(.int c0), (.int c1), (.int c2), (.int c3)] (.int (0 : Int32)) := V_sa.keep Kc2 nin0
  replace OL : Old Z n0 T2.heap := OL.keep Kc2 all0
  have K2 : Keep h0 T2.heap [] := (Keep.refl h0 []).trans Kc2 all0
  have V_t_2 : Arv Z T2.heap t_2 kb_2 .byte (8 : Int32) [(.int (0 : Int32)), (.int (0 : Int32)), (.int (0 : Int32)), (.int (0 : Int32)), (.int (0 : Int32)), (.int (0 : Int32)), (.int (0 : Int32)), (.int (0 : Int32))] (.int (0 : Int32)) := po2_1
  have P4 : ∀ t, GG p e below T2 (mkF m 19 #[.val (.ref sa), .val (.int (0 : Int32)), .val (.int (4 : Int32)), .val (.ref t_2), .val (.int (0 : Int32))] [(.int (0 : Int32)), (.ref sa), (.int (0 : Int32)), (.ref t_2)]) t → Steps p.tables e below s0 t := fun t kk_ => P3 t (by
    refine XS.astoreN X2.here hx rfl (hb hby d_toBytes_4) rfl rfl (l' := #[.val (.ref sa), .val (.int (0 : Int32)), .val (.int (4 : Int32)), .val (.ref t_2), .unset]) rfl ?_
    refine XS.iconst X2.here hx rfl (hb hby d_toBytes_5) ?_
    refine XS.istore X2.here hx rfl (hb hby d_toBytes_6) rfl (l' := #[.val (.ref sa), .val (.int (0 : Int32)), .val (.int (4 : Int32)), .val (.ref t_2), .val (.int (0 : Int32))]) rfl ?_
    refine XS.iload X2.here hx rfl (hb hby d_toBytes_8) rfl ?_
    refine XS.iloadN X2.here hx rfl (hb hby d_toBytes_10) rfl ?_
    refine XS.icmpNo X2.here hx rfl (hb hby d_toBytes_11) rfl (tlt ((by decide) : (0 : Int32) < (4 : Int32))).2.1 ?_
    refine XS.aloadN X2.here hx rfl (hb hby d_toBytes_14) rfl rfl ?_
    refine XS.iload X2.here hx rfl (hb hby d_toBytes_15) rfl ?_
    refine XS.aloadN X2.here hx rfl (hb hby d_toBytes_17) rfl rfl ?_
    refine XS.iloadN X2.here hx rfl (hb hby d_toBytes_18) rfl ?_
    exact kk_)
  obtain ⟨cl5, Ar5, q5, S5, M5, Hs5, G5⟩ := id V_sa
  have hin5 := inb_of (j := (0 : Int32)) S5 ⟨by decide, by decide⟩
  have hat5 : cl5.slots[((0 : Int32)).toNatClampNeg]? = some (.int c0) := Has.at Hs5 hin5 (rfl)
  have P6 : ∀ t, GG p e below T2 (mkF m 20 #[.val (.ref sa), .val (.int (0 : Int32)), .val (.int (4 : Int32)), .val (.ref t_2), .val (.int (0 : Int32))] [(.int c0), (.int (0 : Int32)), (.ref t_2)]) t → Steps p.tables e below s0 t := fun t kk_ => P4 t (by
    refine X2.caload hx (j := (0 : Int32)) (v := (.int c0)) (Ar5.1) (State.isArrayOf_alike hZ.alike Ar5.2.1) Ar5.2.2 hin5 hat5 (g := (mkF m 19 #[.val (.ref sa), .val (.int (0 : Int32)), .val (.int (4 : Int32)), .val (.ref t_2), .val (.int (0 : Int32))] [(.int (0 : Int32)), (.ref sa), (.int (0 : Int32)), (.ref t_2)])) rfl rfl (hb hby d_toBytes_19) _ ?_
    exact kk_)
  obtain ⟨_, _, ⟨T7, L7, k7, n7⟩, -, X7, ⟨Lc7, hQ7, l7, y7, z7⟩, st7⟩ := Jvm.LawKit.callS X2 hx (y := mn_2) hown (mw hZ hw 38 rfl) (mw hZ hw 39 rfl) (mw hZ hw 22 rfl) (mw hZ hw 40 rfl) (by decide) (backOf (W := 0) (rm_put0 l Z a0 hw [] t_2 kb_2 c0 (.int (0 : Int32)) (.int (0 : Int32)) (.int (0 : Int32)) (.int (0 : Int32)) (.int (0 : Int32)) (.int (0 : Int32)) (.int (0 : Int32)) (.int (0 : Int32)) T2.heap n0 (Nat.le_trans Z0 K2.1) V_t_2 (Nat.le_trans Z0 sz_t_2) S__assertionsDisabled S_HI_BYTE_SHIFT S_LO_BYTE_SHIFT OL) hZ (ww hw 40 rfl) (ww hw 22 rfl) (by decide) (by decide)) (g := (mkF m 20 #[.val (.ref sa), .val (.int (0 : Int32)), .val (.int (4 : Int32)), .val (.ref t_2), .val (.int (0 : Int32))] [(.int c0), (.int (0 : Int32)), (.ref t_2)])) rfl (by rw [hml]; rfl) (argsL := [(.ref t_2), (.int (0 : Int32)), (.int c0)]) (rest := []) (lenOf pd_2 rfl) rfl (by show 2 * 0 + _ ≤ _; exact Nat.le_of_eq rfl) (hb hby d_toBytes_20) (fun _ _ => ⟨rfl, rfl, (by decide : 1 + 0 ≤ _), (by decide : 8 + 0 ≤ _)⟩)
  dsimp only [Pt.U, Pt.locs, Pt.cells, Pt.slots] at X7 l7 y7 z7 st7 hQ7
  subst l7 y7 z7
  obtain ⟨rfl, N7q, Kc7, po7_0⟩ := hQ7
  have N7 := Fr.app N2 N7q
  have P8 : ∀ t, GG p e below T7 (mkF m 23 #[.val (.ref sa), .val (.int (0 : Int32)), .val (.int (4 : Int32)), .val (.ref t_2), .val (.int (0 : Int32))] []) t → Steps p.tables e below s0 t := fun t kk_ => P6 t (st7 _ kk_)
  replace V_sa : Arv Z T7.heap sa ks .char (4 : Int32) [(.int c0), (.int c1), (.int c2), (.int c3)] (.int (0 : Int32)) := V_sa.keep Kc7 (ninS ne_sa_t_2 nin0)
  replace OL : Old Z n0 T7.heap := OL.keep Kc7 (allS (Nat.le_trans Z0 sz_t_2) all0)
  have K7 : Keep h0 T7.heap [] := K2.trans Kc7 (allS (P := fun x => x ∈ [] ∨ h0.size ≤ x) (Or.inr sz_t_2) all0)
  have V_t_2 : Arv Z T7.heap t_2 kb_2 .byte (8 : Int32) [(.int (nar .byte ((c0 >>> ((0 : Int32) &&& 31)).toInt8.toInt32))), (.int (nar .byte ((c0 >>> ((8 : Int32) &&& 31)).toInt8.toInt32))), (.int (0 : Int32)), (.int (0 : Int32)), (.int (0 : Int32)), (.int (0 : Int32)), (.int (0 : Int32)), (.int (0 : Int32))] (.int (0 : Int32)) := po7_0
  have P9 : ∀ t, GG p e below T7 (mkF m 19 #[.val (.ref sa), .val (.int (1 : Int32)), .val (.int (4 : Int32)), .val (.ref t_2), .val (.int (1 : Int32))] [(.int (1 : Int32)), (.ref sa), (.int (1 : Int32)), (.ref t_2)]) t → Steps p.tables e below s0 t := fun t kk_ => P8 t (by
    refine XS.iinc X7.here hx rfl (hb hby d_toBytes_23) rfl (l' := #[.val (.ref sa), .val (.int (1 : Int32)), .val (.int (4 : Int32)), .val (.ref t_2), .val (.int (0 : Int32))]) rfl ?_
    refine XS.iinc X7.here hx rfl (hb hby d_toBytes_26) rfl (l' := #[.val (.ref sa), .val (.int (1 : Int32)), .val (.int (4 : Int32)), .val (.ref t_2), .val (.int (1 : Int32))]) rfl ?_
    refine XS.goto X7.here hx rfl (pc0 := 29) (pc' := 8) rfl (hb hby d_toBytes_29) (by decide) (by decide) ?_
    refine XS.iload X7.here hx rfl (hb hby d_toBytes_8) rfl ?_
    refine XS.iloadN X7.here hx rfl (hb hby d_toBytes_10) rfl ?_
    refine XS.icmpNo X7.here hx rfl (hb hby d_toBytes_11) rfl (tlt ((by decide) : (1 : Int32) < (4 : Int32))).2.1 ?_
    refine XS.aloadN X7.here hx rfl (hb hby d_toBytes_14) rfl rfl ?_
    refine XS.iload X7.here hx rfl (hb hby d_toBytes_15) rfl ?_
    refine XS.aloadN X7.here hx rfl (hb hby d_toBytes_17) rfl rfl ?_
    refine XS.iloadN X7.here hx rfl (hb hby d_toBytes_18) rfl ?_
    exact kk_)
  obtain ⟨cl10, Ar10, q10, S10, M10, Hs10, G10⟩ := id V_sa
  have hin10 := inb_of (j := (1 : Int32)) S10 ⟨by decide, by decide⟩
  have hat10 : cl10.slots[((1 : Int32)).toNatClampNeg]? = some (.int c1) := Has.at Hs10 hin10 (rfl)
  have P11 : ∀ t, GG p e below T7 (mkF m 20 #[.val (.ref sa), .val (.int (1 : Int32)), .val (.int (4 : Int32)), .val (.ref t_2), .val (.int (1 : Int32))] [(.int c1), (.int (1 : Int32)), (.ref t_2)]) t → Steps p.tables e below s0 t := fun t kk_ => P9 t (by
    refine X7.caload hx (j := (1 : Int32)) (v := (.int c1)) (Ar10.1) (State.isArrayOf_alike hZ.alike Ar10.2.1) Ar10.2.2 hin10 hat10 (g := (mkF m 19 #[.val (.ref sa), .val (.int (1 : Int32)), .val (.int (4 : Int32)), .val (.ref t_2), .val (.int (1 : Int32))] [(.int (1 : Int32)), (.ref sa), (.int (1 : Int32)), (.ref t_2)])) rfl rfl (hb hby d_toBytes_19) _ ?_
    exact kk_)
  obtain ⟨_, _, ⟨T12, L12, k12, n12⟩, -, X12, ⟨Lc12, hQ12, l12, y12, z12⟩, st12⟩ := Jvm.LawKit.callS X7 hx (y := mn_2) hown (mw hZ hw 38 rfl) (mw hZ hw 39 rfl) (mw hZ hw 22 rfl) (mw hZ hw 40 rfl) (by decide) (backOf (W := 0) (rm_put1 l Z a0 hw [] t_2 kb_2 c1 (.int (nar .byte ((c0 >>> ((0 : Int32) &&& 31)).toInt8.toInt32))) (.int (nar .byte ((c0 >>> ((8 : Int32) &&& 31)).toInt8.toInt32))) (.int (0 : Int32)) (.int (0 : Int32)) (.int (0 : Int32)) (.int (0 : Int32)) (.int (0 : Int32)) (.int (0 : Int32)) T7.heap n0 (Nat.le_trans Z0 K7.1) V_t_2 (Nat.le_trans Z0 sz_t_2) S__assertionsDisabled S_HI_BYTE_SHIFT S_LO_BYTE_SHIFT OL) hZ (ww hw 40 rfl) (ww hw 22 rfl) (by decide) (by decide)) (g := (mkF m 20 #[.val (.ref sa), .val (.int (1 : Int32)), .val (.int (4 : Int32)), .val (.ref t_2), .val (.int (1 : Int32))] [(.int c1), (.int (1 : Int32)), (.ref t_2)])) rfl (by rw [hml]; rfl) (argsL := [(.ref t_2), (.int (1 : Int32)), (.int c1)]) (rest := []) (lenOf pd_2 rfl) rfl (by show 2 * 0 + _ ≤ _; exact Nat.le_of_eq rfl) (hb hby d_toBytes_20) (fun _ _ => ⟨rfl, rfl, (by decide : 1 + 0 ≤ _), (by decide : 8 + 0 ≤ _)⟩)
  dsimp only [Pt.U, Pt.locs, Pt.cells, Pt.slots] at X12 l12 y12 z12 st12 hQ12
  subst l12 y12 z12
  obtain ⟨rfl, N12q, Kc12, po12_0⟩ := hQ12
  have N12 := Fr.app N7 N12q
  have P13 : ∀ t, GG p e below T12 (mkF m 23 #[.val (.ref sa), .val (.int (1 : Int32)), .val (.int (4 : Int32)), .val (.ref t_2), .val (.int (1 : Int32))] []) t → Steps p.tables e below s0 t := fun t kk_ => P11 t (st12 _ kk_)
  replace V_sa : Arv Z T12.heap sa ks .char (4 : Int32) [(.int c0), (.int c1), (.int c2), (.int c3)] (.int (0 : Int32)) := V_sa.keep Kc12 (ninS ne_sa_t_2 nin0)
  replace OL : Old Z n0 T12.heap := OL.keep Kc12 (allS (Nat.le_trans Z0 sz_t_2) all0)
  have K12 : Keep h0 T12.heap [] := K7.trans Kc12 (allS (P := fun x => x ∈ [] ∨ h0.size ≤ x) (Or.inr sz_t_2) all0)
  have V_t_2 : Arv Z T12.heap t_2 kb_2 .byte (8 : Int32) [(.int (nar .byte ((c0 >>> ((0 : Int32) &&& 31)).toInt8.toInt32))), (.int (nar .byte ((c0 >>> ((8 : Int32) &&& 31)).toInt8.toInt32))), (.int (nar .byte ((c1 >>> ((0 : Int32) &&& 31)).toInt8.toInt32))), (.int (nar .byte ((c1 >>> ((8 : Int32) &&& 31)).toInt8.toInt32))), (.int (0 : Int32)), (.int (0 : Int32)), (.int (0 : Int32)), (.int (0 : Int32))] (.int (0 : Int32)) := po12_0
  have P14 : ∀ t, GG p e below T12 (mkF m 19 #[.val (.ref sa), .val (.int (2 : Int32)), .val (.int (4 : Int32)), .val (.ref t_2), .val (.int (2 : Int32))] [(.int (2 : Int32)), (.ref sa), (.int (2 : Int32)), (.ref t_2)]) t → Steps p.tables e below s0 t := fun t kk_ => P13 t (by
    refine XS.iinc X12.here hx rfl (hb hby d_toBytes_23) rfl (l' := #[.val (.ref sa), .val (.int (2 : Int32)), .val (.int (4 : Int32)), .val (.ref t_2), .val (.int (1 : Int32))]) rfl ?_
    refine XS.iinc X12.here hx rfl (hb hby d_toBytes_26) rfl (l' := #[.val (.ref sa), .val (.int (2 : Int32)), .val (.int (4 : Int32)), .val (.ref t_2), .val (.int (2 : Int32))]) rfl ?_
    refine XS.goto X12.here hx rfl (pc0 := 29) (pc' := 8) rfl (hb hby d_toBytes_29) (by decide) (by decide) ?_
    refine XS.iload X12.here hx rfl (hb hby d_toBytes_8) rfl ?_
    refine XS.iloadN X12.here hx rfl (hb hby d_toBytes_10) rfl ?_
    refine XS.icmpNo X12.here hx rfl (hb hby d_toBytes_11) rfl (tlt ((by decide) : (2 : Int32) < (4 : Int32))).2.1 ?_
    refine XS.aloadN X12.here hx rfl (hb hby d_toBytes_14) rfl rfl ?_
    refine XS.iload X12.here hx rfl (hb hby d_toBytes_15) rfl ?_
    refine XS.aloadN X12.here hx rfl (hb hby d_toBytes_17) rfl rfl ?_
    refine XS.iloadN X12.here hx rfl (hb hby d_toBytes_18) rfl ?_
    exact kk_)
  obtain ⟨cl15, Ar15, q15, S15, M15, Hs15, G15⟩ := id V_sa
  have hin15 := inb_of (j := (2 : Int32)) S15 ⟨by decide, by decide⟩
  have hat15 : cl15.slots[((2 : Int32)).toNatClampNeg]? = some (.int c2) := Has.at Hs15 hin15 (rfl)
  have P16 : ∀ t, GG p e below T12 (mkF m 20 #[.val (.ref sa), .val (.int (2 : Int32)), .val (.int (4 : Int32)), .val (.ref t_2), .val (.int (2 : Int32))] [(.int c2), (.int (2 : Int32)), (.ref t_2)]) t → Steps p.tables e below s0 t := fun t kk_ => P14 t (by
    refine X12.caload hx (j := (2 : Int32)) (v := (.int c2)) (Ar15.1) (State.isArrayOf_alike hZ.alike Ar15.2.1) Ar15.2.2 hin15 hat15 (g := (mkF m 19 #[.val (.ref sa), .val (.int (2 : Int32)), .val (.int (4 : Int32)), .val (.ref t_2), .val (.int (2 : Int32))] [(.int (2 : Int32)), (.ref sa), (.int (2 : Int32)), (.ref t_2)])) rfl rfl (hb hby d_toBytes_19) _ ?_
    exact kk_)
  obtain ⟨_, _, ⟨T17, L17, k17, n17⟩, -, X17, ⟨Lc17, hQ17, l17, y17, z17⟩, st17⟩ := Jvm.LawKit.callS X12 hx (y := mn_2) hown (mw hZ hw 38 rfl) (mw hZ hw 39 rfl) (mw hZ hw 22 rfl) (mw hZ hw 40 rfl) (by decide) (backOf (W := 0) (rm_put2 l Z a0 hw [] t_2 kb_2 c2 (.int (nar .byte ((c0 >>> ((0 : Int32) &&& 31)).toInt8.toInt32))) (.int (nar .byte ((c0 >>> ((8 : Int32) &&& 31)).toInt8.toInt32))) (.int (nar .byte ((c1 >>> ((0 : Int32) &&& 31)).toInt8.toInt32))) (.int (nar .byte ((c1 >>> ((8 : Int32) &&& 31)).toInt8.toInt32))) (.int (0 : Int32)) (.int (0 : Int32)) (.int (0 : Int32)) (.int (0 : Int32)) T12.heap n0 (Nat.le_trans Z0 K12.1) V_t_2 (Nat.le_trans Z0 sz_t_2) S__assertionsDisabled S_HI_BYTE_SHIFT S_LO_BYTE_SHIFT OL) hZ (ww hw 40 rfl) (ww hw 22 rfl) (by decide) (by decide)) (g := (mkF m 20 #[.val (.ref sa), .val (.int (2 : Int32)), .val (.int (4 : Int32)), .val (.ref t_2), .val (.int (2 : Int32))] [(.int c2), (.int (2 : Int32)), (.ref t_2)])) rfl (by rw [hml]; rfl) (argsL := [(.ref t_2), (.int (2 : Int32)), (.int c2)]) (rest := []) (lenOf pd_2 rfl) rfl (by show 2 * 0 + _ ≤ _; exact Nat.le_of_eq rfl) (hb hby d_toBytes_20) (fun _ _ => ⟨rfl, rfl, (by decide : 1 + 0 ≤ _), (by decide : 8 + 0 ≤ _)⟩)
  dsimp only [Pt.U, Pt.locs, Pt.cells, Pt.slots] at X17 l17 y17 z17 st17 hQ17
  subst l17 y17 z17
  obtain ⟨rfl, N17q, Kc17, po17_0⟩ := hQ17
  have N17 := Fr.app N12 N17q
  have P18 : ∀ t, GG p e below T17 (mkF m 23 #[.val (.ref sa), .val (.int (2 : Int32)), .val (.int (4 : Int32)), .val (.ref t_2), .val (.int (2 : Int32))] []) t → Steps p.tables e below s0 t := fun t kk_ => P16 t (st17 _ kk_)
  replace V_sa : Arv Z T17.heap sa ks .char (4 : Int32) [(.int c0), (.int c1), (.int c2), (.int c3)] (.int (0 : Int32)) := V_sa.keep Kc17 (ninS ne_sa_t_2 nin0)
  replace OL : Old Z n0 T17.heap := OL.keep Kc17 (allS (Nat.le_trans Z0 sz_t_2) all0)
  have K17 : Keep h0 T17.heap [] := K12.trans Kc17 (allS (P := fun x => x ∈ [] ∨ h0.size ≤ x) (Or.inr sz_t_2) all0)
  have V_t_2 : Arv Z T17.heap t_2 kb_2 .byte (8 : Int32) [(.int (nar .byte ((c0 >>> ((0 : Int32) &&& 31)).toInt8.toInt32))), (.int (nar .byte ((c0 >>> ((8 : Int32) &&& 31)).toInt8.toInt32))), (.int (nar .byte ((c1 >>> ((0 : Int32) &&& 31)).toInt8.toInt32))), (.int (nar .byte ((c1 >>> ((8 : Int32) &&& 31)).toInt8.toInt32))), (.int (nar .byte ((c2 >>> ((0 : Int32) &&& 31)).toInt8.toInt32))), (.int (nar .byte ((c2 >>> ((8 : Int32) &&& 31)).toInt8.toInt32))), (.int (0 : Int32)), (.int (0 : Int32))] (.int (0 : Int32)) := po17_0
  have P19 : ∀ t, GG p e below T17 (mkF m 19 #[.val (.ref sa), .val (.int (3 : Int32)), .val (.int (4 : Int32)), .val (.ref t_2), .val (.int (3 : Int32))] [(.int (3 : Int32)), (.ref sa), (.int (3 : Int32)), (.ref t_2)]) t → Steps p.tables e below s0 t := fun t kk_ => P18 t (by
    refine XS.iinc X17.here hx rfl (hb hby d_toBytes_23) rfl (l' := #[.val (.ref sa), .val (.int (3 : Int32)), .val (.int (4 : Int32)), .val (.ref t_2), .val (.int (2 : Int32))]) rfl ?_
    refine XS.iinc X17.here hx rfl (hb hby d_toBytes_26) rfl (l' := #[.val (.ref sa), .val (.int (3 : Int32)), .val (.int (4 : Int32)), .val (.ref t_2), .val (.int (3 : Int32))]) rfl ?_
    refine XS.goto X17.here hx rfl (pc0 := 29) (pc' := 8) rfl (hb hby d_toBytes_29) (by decide) (by decide) ?_
    refine XS.iload X17.here hx rfl (hb hby d_toBytes_8) rfl ?_
    refine XS.iloadN X17.here hx rfl (hb hby d_toBytes_10) rfl ?_
    refine XS.icmpNo X17.here hx rfl (hb hby d_toBytes_11) rfl (tlt ((by decide) : (3 : Int32) < (4 : Int32))).2.1 ?_
    refine XS.aloadN X17.here hx rfl (hb hby d_toBytes_14) rfl rfl ?_
    refine XS.iload X17.here hx rfl (hb hby d_toBytes_15) rfl ?_
    refine XS.aloadN X17.here hx rfl (hb hby d_toBytes_17) rfl rfl ?_
    refine XS.iloadN X17.here hx rfl (hb hby d_toBytes_18) rfl ?_
    exact kk_)
  obtain ⟨cl20, Ar20, q20, S20, M20, Hs20, G20⟩ := id V_sa
  have hin20 := inb_of (j := (3 : Int32)) S20 ⟨by decide, by decide⟩
  have hat20 : cl20.slots[((3 : Int32)).toNatClampNeg]? = some (.int c3) := Has.at Hs20 hin20 (rfl)
  have P21 : ∀ t, GG p e below T17 (mkF m 20 #[.val (.ref sa), .val (.int (3 : Int32)), .val (.int (4 : Int32)), .val (.ref t_2), .val (.int (3 : Int32))] [(.int c3), (.int (3 : Int32)), (.ref t_2)]) t → Steps p.tables e below s0 t := fun t kk_ => P19 t (by
    refine X17.caload hx (j := (3 : Int32)) (v := (.int c3)) (Ar20.1) (State.isArrayOf_alike hZ.alike Ar20.2.1) Ar20.2.2 hin20 hat20 (g := (mkF m 19 #[.val (.ref sa), .val (.int (3 : Int32)), .val (.int (4 : Int32)), .val (.ref t_2), .val (.int (3 : Int32))] [(.int (3 : Int32)), (.ref sa), (.int (3 : Int32)), (.ref t_2)])) rfl rfl (hb hby d_toBytes_19) _ ?_
    exact kk_)
  obtain ⟨_, _, ⟨T22, L22, k22, n22⟩, -, X22, ⟨Lc22, hQ22, l22, y22, z22⟩, st22⟩ := Jvm.LawKit.callS X17 hx (y := mn_2) hown (mw hZ hw 38 rfl) (mw hZ hw 39 rfl) (mw hZ hw 22 rfl) (mw hZ hw 40 rfl) (by decide) (backOf (W := 0) (rm_put3 l Z a0 hw [] t_2 kb_2 c3 (.int (nar .byte ((c0 >>> ((0 : Int32) &&& 31)).toInt8.toInt32))) (.int (nar .byte ((c0 >>> ((8 : Int32) &&& 31)).toInt8.toInt32))) (.int (nar .byte ((c1 >>> ((0 : Int32) &&& 31)).toInt8.toInt32))) (.int (nar .byte ((c1 >>> ((8 : Int32) &&& 31)).toInt8.toInt32))) (.int (nar .byte ((c2 >>> ((0 : Int32) &&& 31)).toInt8.toInt32))) (.int (nar .byte ((c2 >>> ((8 : Int32) &&& 31)).toInt8.toInt32))) (.int (0 : Int32)) (.int (0 : Int32)) T17.heap n0 (Nat.le_trans Z0 K17.1) V_t_2 (Nat.le_trans Z0 sz_t_2) S__assertionsDisabled S_HI_BYTE_SHIFT S_LO_BYTE_SHIFT OL) hZ (ww hw 40 rfl) (ww hw 22 rfl) (by decide) (by decide)) (g := (mkF m 20 #[.val (.ref sa), .val (.int (3 : Int32)), .val (.int (4 : Int32)), .val (.ref t_2), .val (.int (3 : Int32))] [(.int c3), (.int (3 : Int32)), (.ref t_2)])) rfl (by rw [hml]; rfl) (argsL := [(.ref t_2), (.int (3 : Int32)), (.int c3)]) (rest := []) (lenOf pd_2 rfl) rfl (by show 2 * 0 + _ ≤ _; exact Nat.le_of_eq rfl) (hb hby d_toBytes_20) (fun _ _ => ⟨rfl, rfl, (by decide : 1 + 0 ≤ _), (by decide : 8 + 0 ≤ _)⟩)
  dsimp only [Pt.U, Pt.locs, Pt.cells, Pt.slots] at X22 l22 y22 z22 st22 hQ22
  subst l22 y22 z22
  obtain ⟨rfl, N22q, Kc22, po22_0⟩ := hQ22
  have N22 := Fr.app N17 N22q
  have P23 : ∀ t, GG p e below T22 (mkF m 23 #[.val (.ref sa), .val (.int (3 : Int32)), .val (.int (4 : Int32)), .val (.ref t_2), .val (.int (3 : Int32))] []) t → Steps p.tables e below s0 t := fun t kk_ => P21 t (st22 _ kk_)
  replace V_sa : Arv Z T22.heap sa ks .char (4 : Int32) [(.int c0), (.int c1), (.int c2), (.int c3)] (.int (0 : Int32)) := V_sa.keep Kc22 (ninS ne_sa_t_2 nin0)
  replace OL : Old Z n0 T22.heap := OL.keep Kc22 (allS (Nat.le_trans Z0 sz_t_2) all0)
  have K22 : Keep h0 T22.heap [] := K17.trans Kc22 (allS (P := fun x => x ∈ [] ∨ h0.size ≤ x) (Or.inr sz_t_2) all0)
  have V_t_2 : Arv Z T22.heap t_2 kb_2 .byte (8 : Int32) [(.int (nar .byte ((c0 >>> ((0 : Int32) &&& 31)).toInt8.toInt32))), (.int (nar .byte ((c0 >>> ((8 : Int32) &&& 31)).toInt8.toInt32))), (.int (nar .byte ((c1 >>> ((0 : Int32) &&& 31)).toInt8.toInt32))), (.int (nar .byte ((c1 >>> ((8 : Int32) &&& 31)).toInt8.toInt32))), (.int (nar .byte ((c2 >>> ((0 : Int32) &&& 31)).toInt8.toInt32))), (.int (nar .byte ((c2 >>> ((8 : Int32) &&& 31)).toInt8.toInt32))), (.int (nar .byte ((c3 >>> ((0 : Int32) &&& 31)).toInt8.toInt32))), (.int (nar .byte ((c3 >>> ((8 : Int32) &&& 31)).toInt8.toInt32)))] (.int (0 : Int32)) := po22_0
  have P24 : ∀ t, GG p e below T22 (mkF m 33 #[.val (.ref sa), .val (.int (4 : Int32)), .val (.int (4 : Int32)), .val (.ref t_2), .val (.int (4 : Int32))] [(.ref t_2)]) t → Steps p.tables e below s0 t := fun t kk_ => P23 t (by
    refine XS.iinc X22.here hx rfl (hb hby d_toBytes_23) rfl (l' := #[.val (.ref sa), .val (.int (4 : Int32)), .val (.int (4 : Int32)), .val (.ref t_2), .val (.int (3 : Int32))]) rfl ?_
    refine XS.iinc X22.here hx rfl (hb hby d_toBytes_26) rfl (l' := #[.val (.ref sa), .val (.int (4 : Int32)), .val (.int (4 : Int32)), .val (.ref t_2), .val (.int (4 : Int32))]) rfl ?_
    refine XS.goto X22.here hx rfl (pc0 := 29) (pc' := 8) rfl (hb hby d_toBytes_29) (by decide) (by decide) ?_
    refine XS.iload X22.here hx rfl (hb hby d_toBytes_8) rfl ?_
    refine XS.iloadN X22.here hx rfl (hb hby d_toBytes_10) rfl ?_
    refine XS.icmpYes X22.here hx rfl (pc0 := 11) (pc' := 32) rfl (hb hby d_toBytes_11) rfl (flt ((by decide) : ¬ ((4 : Int32) < (4 : Int32)))).2.1 (by decide) (by decide) ?_
    refine XS.aloadN X22.here hx rfl (hb hby d_toBytes_32) rfl rfl ?_
    exact kk_)
  subst hs0
  obtain ⟨fs, hr, hrun, hended, hW, hsame⟩ := X22.leave (v := some (.ref t_2)) (fun h => by rw [Bd.returns] at h; cases h)
  refine ⟨_, _, P24 _ ?_, hrun, hended, _, _, rfl, ?_, ⟨_, rfl⟩, hW, hsame.mono (by decide) (by decide)⟩
  · show GG p e below T22 (mkF m 33 #[.val (.ref sa), .val (.int (4 : Int32)), .val (.int (4 : Int32)), .val (.ref t_2), .val (.int (4 : Int32))] [(.ref t_2)]) _
    jvm_step X22.here [X22.here.top, hx, (hb hby d_toBytes_33), X22.method', Bd.returns, Value.isRef, FieldType.isReference]
    first | (intro acts; rw [hr _ acts rfl rfl rfl]) | rw [hr _ _ rfl rfl rfl]
    exact Steps.refl _
  · show Q_toB Z sa ks c0 c1 c2 c3 h0 n0 _ T22.heap _
    exact ⟨t_2, kb_2, rfl, N22, K22, sz_t_2, V_t_2⟩
theorem ef_compB (m : MethodId) (x0 : Addr) : entryFrame m #[(.ref x0), (.int (0 : Int32)), (.int (4 : Int32))] 6 = mkF m 0 #[.val (.ref x0), .val (.int (0 : Int32)), .val (.int (4 : Int32)), .unset, .unset, .unset] [] := by first | (simp [entryFrame, mkF, argsToLocals, Value.category]; done) | rfl
theorem d_compress2_0 : decode jdk_52_method_16_code 0 = .ok (.iload_n 2, 1) := by decide +kernel
theorem d_compress2_1 : decode jdk_52_method_16_code 1 = .ok (.newarray .byte, 2) := by decide +kernel
theorem d_compress2_3 : decode jdk_52_method_16_code 3 = .ok (.astore_n 3, 1) := by decide +kernel
theorem d_compress2_4 : decode jdk_52_method_16_code 4 = .ok (.aload_n 0, 1) := by decide +kernel
theorem d_compress2_5 : decode jdk_52_method_16_code 5 = .ok (.iload_n 1, 1) := by decide +kernel
theorem d_compress2_6 : decode jdk_52_method_16_code 6 = .ok (.aload_n 3, 1) := by decide +kernel
theorem d_compress2_7 : decode jdk_52_method_16_code 7 = .ok (.iconst 0, 1) := by decide +kernel
theorem d_compress2_8 : decode jdk_52_method_16_code 8 = .ok (.iload_n 2, 1) := by decide +kernel
theorem pd_3 : parseMethodDescriptor "([CI[BII)I" = some ⟨[(.array .char), .int, (.array .byte), .int, .int], some .int⟩ := by decide +kernel
theorem d_compress2_9 : decode jdk_52_method_16_code 9 = .ok (.invokestatic 115, 3) := by decide +kernel
abbrev mn_3 : MethodName := ⟨"java/lang/StringUTF16", "compress", "([CI[BII)I"⟩
theorem d_compress2_12 : decode jdk_52_method_16_code 12 = .ok (.istore 4, 2) := by decide +kernel
theorem d_compress2_14 : decode jdk_52_method_16_code 14 = .ok (.iload 4, 2) := by decide +kernel
theorem d_compress2_16 : decode jdk_52_method_16_code 16 = .ok (.iload_n 2, 1) := by decide +kernel
theorem d_compress2_17 : decode jdk_52_method_16_code 17 = .ok (.if_icmp .eq 40, 3) := by decide +kernel
theorem d_compress2_57 : decode jdk_52_method_16_code 57 = .ok (.aload_n 3, 1) := by decide +kernel
theorem d_compress2_58 : decode jdk_52_method_16_code 58 = .ok (.areturn, 1) := by decide +kernel
theorem d_compress2_20 : decode jdk_52_method_16_code 20 = .ok (.aload_n 0, 1) := by decide +kernel
theorem d_compress2_21 : decode jdk_52_method_16_code 21 = .ok (.iload_n 1, 1) := by decide +kernel
theorem d_compress2_22 : decode jdk_52_method_16_code 22 = .ok (.iload_n 2, 1) := by decide +kernel
theorem pd_4 : parseMethodDescriptor "([CII)[B" = some ⟨[(.array .char), .int, .int], some (.array .byte)⟩ := by decide +kernel
theorem d_compress2_23 : decode jdk_52_method_16_code 23 = .ok (.invokestatic 119, 3) := by decide +kernel
abbrev mn_4 : MethodName := ⟨"java/lang/StringUTF16", "toBytes", "([CII)[B"⟩
theorem d_compress2_26 : decode jdk_52_method_16_code 26 = .ok (.astore 5, 2) := by decide +kernel
theorem d_compress2_28 : decode jdk_52_method_16_code 28 = .ok (.aload 5, 2) := by decide +kernel
theorem d_compress2_30 : decode jdk_52_method_16_code 30 = .ok (.iload 4, 2) := by decide +kernel
theorem pd_5 : parseMethodDescriptor "([BI)C" = some ⟨[(.array .byte), .int], some .char⟩ := by decide +kernel
theorem d_compress2_32 : decode jdk_52_method_16_code 32 = .ok (.invokestatic 71, 3) := by decide +kernel
abbrev mn_5 : MethodName := ⟨"java/lang/StringUTF16", "getChar", "([BI)C"⟩
theorem d_compress2_35 : decode jdk_52_method_16_code 35 = .ok (.sipush 255, 3) := by decide +kernel
theorem d_compress2_38 : decode jdk_52_method_16_code 38 = .ok (.if_icmp .gt 16, 3) := by decide +kernel
theorem d_compress2_54 : decode jdk_52_method_16_code 54 = .ok (.aload 5, 2) := by decide +kernel
theorem d_compress2_56 : decode jdk_52_method_16_code 56 = .ok (.areturn, 1) := by decide +kernel
def Q_compB (Z : State) (sa : Addr) (ks : ClassId) (c0 : Int32) (c1 : Int32) (c2 : Int32) (c3 : Int32) (h0 : Heap) (n0 : Nat) (v : Option Value) (h : Heap) (L : List Loc) : Prop := ∃ (t : Addr) (kb : ClassId) (nB : Int32) (vs : List Value), v = some (.ref t) ∧ Fr n0 L ∧ Keep h0 h [] ∧ (h0.size ≤ t) ∧ (Arv Z h t kb .byte nB vs (.int (0 : Int32))) ∧ ((nB = 4 ∧ vs = [(.int (nar .byte (c0.toInt8.toInt32))), (.int (nar .byte (c1.toInt8.toInt32))), (.int (nar .byte (c2.toInt8.toInt32))), (.int (nar .byte (c3.toInt8.toInt32)))] ∧ (¬ (255 : Int32) < c0 ∧ ¬ (255 : Int32) < c1 ∧ ¬ (255 : Int32) < c2 ∧ ¬ (255 : Int32) < c3)) ∨ (nB = 8 ∧ vs = [(.int (nar .byte ((c0 >>> ((0 : Int32) &&& 31)).toInt8.toInt32))), (.int (nar .byte ((c0 >>> ((8 : Int32) &&& 31)).toInt8.toInt32))), (.int (nar .byte ((c1 >>> ((0 : Int32) &&& 31)).toInt8.toInt32))), (.int (nar .byte ((c1 >>> ((8 : Int32) &&& 31)).toInt8.toInt32))), (.int (nar .byte ((c2 >>> ((0 : Int32) &&& 31)).toInt8.toInt32))), (.int (nar .byte ((c2 >>> ((8 : Int32) &&& 31)).toInt8.toInt32))), (.int (nar .byte ((c3 >>> ((0 : Int32) &&& 31)).toInt8.toInt32))), (.int (nar .byte ((c3 >>> ((8 : Int32) &&& 31)).toInt8.toInt32)))]))
set_option maxRecDepth 65536 in
set_option maxHeartbeats 40000000 in
theorem rm_compB (l : Launch) (Z : State) (a0 : Array Value) (hw : ∀ d ∈ tables_1, d.before a0 Z = true) (ws : List Jvm.Cond) (sa : Addr) (ks : ClassId) (c0 : Int32) (c1 : Int32) (c2 : Int32) (c3 : Int32) (h0 : Heap) (n0 : Nat) (Z0 : n0 ≤ h0.size) (V_sa : Arv Z h0 sa ks .char (4 : Int32) [(.int c0), (.int c1), (.int c2), (.int c3)] (.int (0 : Int32))) (S__assertionsDisabled : Sta Z Z.heap "java/lang/StringUTF16" "$assertionsDisabled" "Z" (.int (1 : Int32))) (S_HI_BYTE_SHIFT : Sta Z Z.heap "java/lang/StringUTF16" "HI_BYTE_SHIFT" "I" (.int (0 : Int32))) (S_LO_BYTE_SHIFT : Sta Z Z.heap "java/lang/StringUTF16" "LO_BYTE_SHIFT" "I" (.int (8 : Int32))) (OL : Old Z n0 h0) (ic0 : isC c0) (ic1 : isC c1) (ic2 : isC c2) (ic3 : isC c3) :
    MetFree l (⟨"java/lang/StringUTF16", "compress", "([CII)[B"⟩ : MethodName) (head1 (Jvm.Cond.code (⟨"java/lang/StringUTF16", "compress", "([CII)[B"⟩ : MethodName) jdk_52_method_16_code 6 (some (.array .byte)) :: ws) ({ frames := 3, cells := 2, slots := 12, locals := 40 } : Room)) (fun a U => a = #[(.ref sa), (.int (0 : Int32)), (.int (4 : Int32))] ∧ Z.Warmed39 U.vm ∧ U.heap = h0) (fun _ _ _ _ _ => True) (fun _ U o U' => ∃ v L, o = .returned v ∧ Q_compB Z sa ks c0 c1 c2 c3 h0 n0 v U'.heap L ∧ FrameEnd U o U' L ({ frames := 3, cells := 2, slots := 12, locals := 40 } : Room).cells ({ frames := 3, cells := 2, slots := 12, locals := 40 } : Room).slots) := by
  refine MetFree.of_bodySF (plainFor_of_name pn_1) hisR ?_
  intro p e s m args below meth c s₁ Bd hml0 hP hK
  obtain ⟨rfl, hZ, hh⟩ := hP
  have hx := Bd.exec
  have hby := Bd.bytes
  have hml : c.maxLocals = 6 := hml0
  have hown : s.vm.findClass "java/lang/StringUTF16" = some m.cls := findClass_of_methodNamed Bd.named
  have hnm := (name_of_methodNamed Bd.named Bd.method).1
  have X0 : Stand p l e ({ frames := 3, cells := 2, slots := 12, locals := 40 } : Room) s m #[(.ref sa), (.int (0 : Int32)), (.int (4 : Int32))] below meth c s₁ [] 0 0 := Stand.of_body Bd
  have e0 : s₁.heap = h0 := by rw [← hh, Bd.state]; rfl
  have N0 := Fr.nil n0
  obtain ⟨s0, hs0⟩ : ∃ z, z = (s₁.setTop (entryFrame m #[(.ref sa), (.int (0 : Int32)), (.int (4 : Int32))] 6)) := ⟨_, rfl⟩
  have P0 : ∀ t, GG p e below s₁ (mkF m 0 #[.val (.ref sa), .val (.int (0 : Int32)), .val (.int (4 : Int32)), .unset, .unset, .unset] []) t → Steps p.tables e below s0 t := fun t kk_ => by rw [hs0]; exact castTop (ef_compB m sa) kk_
  have P1 : ∀ t, GG p e below s₁ (mkF m 1 #[.val (.ref sa), .val (.int (0 : Int32)), .val (.int (4 : Int32)), .unset, .unset, .unset] [(.int (4 : Int32))]) t → Steps p.tables e below s0 t := fun t kk_ => P0 t (by
    refine XS.iloadN X0.here hx rfl (hb hby d_compress2_0) rfl ?_
    exact kk_)
  obtain ⟨T2, h2, k2, X2, e2, E2, A2, st2⟩ := newP X0 hx hZ (ww hw 24 rfl) e0 (g := (mkF m 1 #[.val (.ref sa), .val (.int (0 : Int32)), .val (.int (4 : Int32)), .unset, .unset, .unset] [(.int (4 : Int32))])) rfl (hb hby d_compress2_1) rfl (by decide) (cap := 4) (by decide) (by decide) (by decide) (by decide)
  obtain ⟨b2, g2⟩ : ∃ z, z = h0.size := ⟨_, rfl⟩
  rw [← g2] at A2 st2
  have P3 : ∀ t, GG p e below T2 (mkF m 3 #[.val (.ref sa), .val (.int (0 : Int32)), .val (.int (4 : Int32)), .unset, .unset, .unset] [(.ref b2)]) t → Steps p.tables e below s0 t := fun t kk_ => P1 t (st2 _ kk_)
  have ne_sa_b2 : sa ≠ b2 := Nat.ne_of_lt (Nat.lt_of_lt_of_le V_sa.lt (Nat.le_of_eq g2.symm))
  have sz_b2 : h0.size ≤ b2 := Nat.le_trans (Nat.le_refl h0.size) (Nat.le_of_eq g2.symm)
  replace V_sa : Arv Z h2 sa ks .char (4 : Int32) [(.int c0), (.int c1), (.int c2), (.int c3)] (.int (0 : Int32)) := V_sa.ext E2
  replace OL : Old Z n0 h2 := OL.ext E2
  have K2 : Keep h0 h2 [] := (Keep.refl h0 []).ext E2
  have V_b2 : Arv Z h2 b2 k2 .byte (4 : Int32) [(.int (0 : Int32)), (.int (0 : Int32)), (.int (0 : Int32)), (.int (0 : Int32))] (.int (0 : Int32)) := (Arv.new A2 (by decide)).pad (pad_rep [] (.int (0 : Int32)) 4)
  have P4 : ∀ t, GG p e below T2 (mkF m 9 #[.val (.ref sa), .val (.int (0 : Int32)), .val (.int (4 : Int32)), .val (.ref b2), .unset, .unset] [(.int (4 : Int32)), (.int (0 : Int32)), (.ref b2), (.int (0 : Int32)), (.ref sa)]) t → Steps p.tables e below s0 t := fun t kk_ => P3 t (by
    refine XS.astoreN X2.here hx rfl (hb hby d_compress2_3) rfl rfl (l' := #[.val (.ref sa), .val (.int (0 : Int32)), .val (.int (4 : Int32)), .val (.ref b2), .unset, .unset]) rfl ?_
    refine XS.aloadN X2.here hx rfl (hb hby d_compress2_4) rfl rfl ?_
    refine XS.iloadN X2.here hx rfl (hb hby d_compress2_5) rfl ?_
    refine XS.aloadN X2.here hx rfl (hb hby d_compress2_6) rfl rfl ?_
    refine XS.iconst X2.here hx rfl (hb hby d_compress2_7) ?_
    refine XS.iloadN X2.here hx rfl (hb hby d_compress2_8) rfl ?_
    exact kk_)
  obtain ⟨_, _, ⟨T5, L5, k5, n5⟩, -, X5, ⟨Lc5, hQ5, l5, y5, z5⟩, st5⟩ := Jvm.LawKit.callS X2 hx (y := mn_3) hown (mw hZ hw 25 rfl) (mw hZ hw 26 rfl) (mw hZ hw 22 rfl) (mw hZ hw 27 rfl) (by decide) (backOf (W := 0) (rm_compN l Z a0 hw [] sa ks b2 k2 c0 c1 c2 c3 h2 n0 (Nat.le_trans Z0 K2.1) V_sa V_b2 (Nat.le_trans Z0 sz_b2) ne_sa_b2) hZ (ww hw 27 rfl) (ww hw 22 rfl) (by decide) (by decide)) (g := (mkF m 9 #[.val (.ref sa), .val (.int (0 : Int32)), .val (.int (4 : Int32)), .val (.ref b2), .unset, .unset] [(.int (4 : Int32)), (.int (0 : Int32)), (.ref b2), (.int (0 : Int32)), (.ref sa)])) rfl (by rw [hml]; rfl) (argsL := [(.ref sa), (.int (0 : Int32)), (.ref b2), (.int (0 : Int32)), (.int (4 : Int32))]) (rest := []) (lenOf pd_3 rfl) rfl (by show 2 * 0 + _ ≤ _; exact Nat.le_of_eq rfl) (hb hby d_compress2_9) (fun _ _ => ⟨rfl, e2, (by decide : 1 + 0 ≤ _), (by decide : 4 + 0 ≤ _)⟩)
  dsimp only [Pt.U, Pt.locs, Pt.cells, Pt.slots] at X5 l5 y5 z5 st5 hQ5
  subst l5 y5 z5
  obtain ⟨r_5, vs_5, rfl, N5q, Kc5, po5_0, po5_1⟩ := hQ5
  have N5 := Fr.app N0 N5q
  have P6 : ∀ t, GG p e below T5 (mkF m 12 #[.val (.ref sa), .val (.int (0 : Int32)), .val (.int (4 : Int32)), .val (.ref b2), .unset, .unset] [(.int r_5)]) t → Steps p.tables e below s0 t := fun t kk_ => P4 t (st5 _ kk_)
  replace V_sa : Arv Z T5.heap sa ks .char (4 : Int32) [(.int c0), (.int c1), (.int c2), (.int c3)] (.int (0 : Int32)) := V_sa.keep Kc5 (ninS ne_sa_b2 nin0)
  replace OL : Old Z n0 T5.heap := OL.keep Kc5 (allS (Nat.le_trans Z0 sz_b2) all0)
  have K5 : Keep h0 T5.heap [] := K2.trans Kc5 (allS (P := fun x => x ∈ [] ∨ h0.size ≤ x) (Or.inr sz_b2) all0)
  have V_b2 : Arv Z T5.heap b2 k2 .byte (4 : Int32) vs_5 (.int (0 : Int32)) := po5_0
  have res_5 := po5_1
  rcases res_5 with hcase | hcase | hcase | hcase | hcase
  ·
    obtain ⟨rfl, rfl, hla⟩ := hcase
    have P7 : ∀ t, GG p e below T5 (mkF m 58 #[.val (.ref sa), .val (.int (0 : Int32)), .val (.int (4 : Int32)), .val (.ref b2), .val (.int (4 : Int32)), .unset] [(.ref b2)]) t → Steps p.tables e below s0 t := fun t kk_ => P6 t (by
      refine XS.istore X5.here hx rfl (hb hby d_compress2_12) rfl (l' := #[.val (.ref sa), .val (.int (0 : Int32)), .val (.int (4 : Int32)), .val (.ref b2), .val (.int (4 : Int32)), .unset]) rfl ?_
      refine XS.iload X5.here hx rfl (hb hby d_compress2_14) rfl ?_
      refine XS.iloadN X5.here hx rfl (hb hby d_compress2_16) rfl ?_
      refine XS.icmpYes X5.here hx rfl (pc0 := 17) (pc' := 57) rfl (hb hby d_compress2_17) rfl (teq ((by decide) : (4 : Int32) = (4 : Int32))).1 (by decide) (by decide) ?_
      refine XS.aloadN X5.here hx rfl (hb hby d_compress2_57) rfl rfl ?_
      exact kk_)
    subst hs0
    obtain ⟨fs, hr, hrun, hended, hW, hsame⟩ := X5.leave (v := some (.ref b2)) (fun h => by rw [Bd.returns] at h; cases h)
    refine ⟨_, _, P7 _ ?_, hrun, hended, _, _, rfl, ?_, ⟨_, rfl⟩, hW, hsame.mono (by decide) (by decide)⟩
    · show GG p e below T5 (mkF m 58 #[.val (.ref sa), .val (.int (0 : Int32)), .val (.int (4 : Int32)), .val (.ref b2), .val (.int (4 : Int32)), .unset] [(.ref b2)]) _
      jvm_step X5.here [X5.here.top, hx, (hb hby d_compress2_58), X5.method', Bd.returns, Value.isRef, FieldType.isReference]
      first | (intro acts; rw [hr _ acts rfl rfl rfl]) | rw [hr _ _ rfl rfl rfl]
      exact Steps.refl _
    · show Q_compB Z sa ks c0 c1 c2 c3 h0 n0 _ T5.heap _
      exact ⟨b2, k2, (4 : Int32), [(.int (nar .byte (c0.toInt8.toInt32))), (.int (nar .byte (c1.toInt8.toInt32))), (.int (nar .byte (c2.toInt8.toInt32))), (.int (nar .byte (c3.toInt8.toInt32)))], rfl, N5, K5, sz_b2, V_b2, Or.inl ⟨rfl, rfl, hla⟩⟩
  ·
    obtain ⟨rfl, hgt⟩ := hcase
    have P8 : ∀ t, GG p e below T5 (mkF m 23 #[.val (.ref sa), .val (.int (0 : Int32)), .val (.int (4 : Int32)), .val (.ref b2), .val (.int (0 : Int32)), .unset] [(.int (4 : Int32)), (.int (0 : Int32)), (.ref sa)]) t → Steps p.tables e below s0 t := fun t kk_ => P6 t (by
      refine XS.istore X5.here hx rfl (hb hby d_compress2_12) rfl (l' := #[.val (.ref sa), .val (.int (0 : Int32)), .val (.int (4 : Int32)), .val (.ref b2), .val (.int (0 : Int32)), .unset]) rfl ?_
      refine XS.iload X5.here hx rfl (hb hby d_compress2_14) rfl ?_
      refine XS.iloadN X5.here hx rfl (hb hby d_compress2_16) rfl ?_
      refine XS.icmpNo X5.here hx rfl (hb hby d_compress2_17) rfl (feq ((by decide) : ¬ ((0 : Int32) = (4 : Int32)))).1 ?_
      refine XS.aloadN X5.here hx rfl (hb hby d_compress2_20) rfl rfl ?_
      refine XS.iloadN X5.here hx rfl (hb hby d_compress2_21) rfl ?_
      refine XS.iloadN X5.here hx rfl (hb hby d_compress2_22) rfl ?_
      exact kk_)
    obtain ⟨_, _, ⟨T9, L9, k9, n9⟩, -, X9, ⟨Lc9, hQ9, l9, y9, z9⟩, st9⟩ := Jvm.LawKit.callS X5 hx (y := mn_4) hown (mw hZ hw 28 rfl) (mw hZ hw 29 rfl) (mw hZ hw 22 rfl) (mw hZ hw 30 rfl) (by decide) (backOf (W := 0) (rm_toB l Z a0 hw [] sa ks c0 c1 c2 c3 T5.heap n0 (Nat.le_trans Z0 K5.1) V_sa S__assertionsDisabled S_HI_BYTE_SHIFT S_LO_BYTE_SHIFT OL) hZ (ww hw 30 rfl) (ww hw 22 rfl) (by decide) (by decide)) (g := (mkF m 23 #[.val (.ref sa), .val (.int (0 : Int32)), .val (.int (4 : Int32)), .val (.ref b2), .val (.int (0 : Int32)), .unset] [(.int (4 : Int32)), (.int (0 : Int32)), (.ref sa)])) rfl (by rw [hml]; rfl) (argsL := [(.ref sa), (.int (0 : Int32)), (.int (4 : Int32))]) (rest := []) (lenOf pd_4 rfl) rfl (by show 2 * 0 + _ ≤ _; exact Nat.le_of_eq rfl) (hb hby d_compress2_23) (fun _ _ => ⟨rfl, rfl, (by decide : 1 + 1 ≤ _), (by decide : 4 + 8 ≤ _)⟩)
    dsimp only [Pt.U, Pt.locs, Pt.cells, Pt.slots] at X9 l9 y9 z9 st9 hQ9
    subst l9 y9 z9
    obtain ⟨t_9, kb_9, rfl, N9q, Kc9, po9_0, po9_1⟩ := hQ9
    have N9 := Fr.app N5 N9q
    have P10 : ∀ t, GG p e below T9 (mkF m 26 #[.val (.ref sa), .val (.int (0 : Int32)), .val (.int (4 : Int32)), .val (.ref b2), .val (.int (0 : Int32)), .unset] [(.ref t_9)]) t → Steps p.tables e below s0 t := fun t kk_ => P8 t (st9 _ kk_)
    have ne_sa_t_9 : sa ≠ t_9 := Nat.ne_of_lt (Nat.lt_of_lt_of_le V_sa.lt po9_0)
    have ne_b2_t_9 : b2 ≠ t_9 := Nat.ne_of_lt (Nat.lt_of_lt_of_le V_b2.lt po9_0)
    have sz_t_9 : h0.size ≤ t_9 := Nat.le_trans K5.1 po9_0
    replace V_sa : Arv Z T9.heap sa ks .char (4 : Int32) [(.int c0), (.int c1), (.int c2), (.int c3)] (.int (0 : Int32)) := V_sa.keep Kc9 nin0
    replace OL : Old Z n0 T9.heap := OL.keep Kc9 all0
    replace V_b2 : Arv Z T9.heap b2 k2 .byte (4 : Int32) vs_5 (.int (0 : Int32)) := V_b2.keep Kc9 nin0
    have K9 : Keep h0 T9.heap [] := K5.trans Kc9 all0
    have V_t_9 : Arv Z T9.heap t_9 kb_9 .byte (8 : Int32) [(.int (nar .byte ((c0 >>> ((0 : Int32) &&& 31)).toInt8.toInt32))), (.int (nar .byte ((c0 >>> ((8 : Int32) &&& 31)).toInt8.toInt32))), (.int (nar .byte ((c1 >>> ((0 : Int32) &&& 31)).toInt8.toInt32))), (.int (nar .byte ((c1 >>> ((8 : Int32) &&& 31)).toInt8.toInt32))), (.int (nar .byte ((c2 >>> ((0 : Int32) &&& 31)).toInt8.toInt32))), (.int (nar .byte ((c2 >>> ((8 : Int32) &&& 31)).toInt8.toInt32))), (.int (nar .byte ((c3 >>> ((0 : Int32) &&& 31)).toInt8.toInt32))), (.int (nar .byte ((c3 >>> ((8 : Int32) &&& 31)).toInt8.toInt32)))] (.int (0 : Int32)) := po9_1
    have P11 : ∀ t, GG p e below T9 (mkF m 32 #[.val (.ref sa), .val (.int (0 : Int32)), .val (.int (4 : Int32)), .val (.ref b2), .val (.int (0 : Int32)), .val (.ref t_9)] [(.int (0 : Int32)), (.ref t_9)]) t → Steps p.tables e below s0 t := fun t kk_ => P10 t (by
      refine XS.astore X9.here hx rfl (hb hby d_compress2_26) rfl rfl (l' := #[.val (.ref sa), .val (.int (0 : Int32)), .val (.int (4 : Int32)), .val (.ref b2), .val (.int (0 : Int32)), .val (.ref t_9)]) rfl ?_
      refine XS.aload X9.here hx rfl (hb hby d_compress2_28) rfl rfl ?_
      refine XS.iload X9.here hx rfl (hb hby d_compress2_30) rfl ?_
      exact kk_)
    obtain ⟨_, _, ⟨T12, L12, k12, n12⟩, -, X12, ⟨Lc12, hQ12, l12, y12, z12⟩, st12⟩ := Jvm.LawKit.callS X9 hx (y := mn_5) hown (mw hZ hw 44 rfl) (mw hZ hw 45 rfl) (mw hZ hw 22 rfl) (mw hZ hw 46 rfl) (by decide) (backOf (W := 0) (rm_get0 l Z a0 hw [] t_9 kb_9 (nar .byte ((c0 >>> ((0 : Int32) &&& 31)).toInt8.toInt32)) (nar .byte ((c0 >>> ((8 : Int32) &&& 31)).toInt8.toInt32)) (.int (nar .byte ((c1 >>> ((0 : Int32) &&& 31)).toInt8.toInt32))) (.int (nar .byte ((c1 >>> ((8 : Int32) &&& 31)).toInt8.toInt32))) (.int (nar .byte ((c2 >>> ((0 : Int32) &&& 31)).toInt8.toInt32))) (.int (nar .byte ((c2 >>> ((8 : Int32) &&& 31)).toInt8.toInt32))) (.int (nar .byte ((c3 >>> ((0 : Int32) &&& 31)).toInt8.toInt32))) (.int (nar .byte ((c3 >>> ((8 : Int32) &&& 31)).toInt8.toInt32))) T9.heap n0 (Nat.le_trans Z0 K9.1) V_t_9 S__assertionsDisabled S_HI_BYTE_SHIFT S_LO_BYTE_SHIFT OL) hZ (ww hw 46 rfl) (ww hw 22 rfl) (by decide) (by decide)) (g := (mkF m 32 #[.val (.ref sa), .val (.int (0 : Int32)), .val (.int (4 : Int32)), .val (.ref b2), .val (.int (0 : Int32)), .val (.ref t_9)] [(.int (0 : Int32)), (.ref t_9)])) rfl (by rw [hml]; rfl) (argsL := [(.ref t_9), (.int (0 : Int32))]) (rest := []) (lenOf pd_5 rfl) rfl (by show 2 * 0 + _ ≤ _; exact Nat.le_of_eq rfl) (hb hby d_compress2_32) (fun _ _ => ⟨rfl, rfl, (by decide : 2 + 0 ≤ _), (by decide : 12 + 0 ≤ _)⟩)
    dsimp only [Pt.U, Pt.locs, Pt.cells, Pt.slots] at X12 l12 y12 z12 st12 hQ12
    subst l12 y12 z12
    obtain ⟨rfl, N12q, e12⟩ := hQ12
    have N12 := Fr.app N9 N12q
    have P13 : ∀ t, GG p e below T12 (mkF m 35 #[.val (.ref sa), .val (.int (0 : Int32)), .val (.int (4 : Int32)), .val (.ref b2), .val (.int (0 : Int32)), .val (.ref t_9)] [(.int (nar .char (((((nar .byte ((c0 >>> ((0 : Int32) &&& 31)).toInt8.toInt32)) &&& (255 : Int32)) <<< ((0 : Int32) &&& 31)) ||| (((nar .byte ((c0 >>> ((8 : Int32) &&& 31)).toInt8.toInt32)) &&& (255 : Int32)) <<< ((8 : Int32) &&& 31))).toUInt32.toUInt16.toUInt32.toInt32)))]) t → Steps p.tables e below s0 t := fun t kk_ => P11 t (st12 _ kk_)
    have P14 : ∀ t, GG p e below T12 (mkF m 35 #[.val (.ref sa), .val (.int (0 : Int32)), .val (.int (4 : Int32)), .val (.ref b2), .val (.int (0 : Int32)), .val (.ref t_9)] [(.int c0)]) t → Steps p.tables e below s0 t := fun t kk_ => P13 t (by rw [(own_w1 ic0)]; exact kk_)
    have P15 : ∀ t, GG p e below T12 (mkF m 56 #[.val (.ref sa), .val (.int (0 : Int32)), .val (.int (4 : Int32)), .val (.ref b2), .val (.int (0 : Int32)), .val (.ref t_9)] [(.ref t_9)]) t → Steps p.tables e below s0 t := fun t kk_ => P14 t (by
      refine XS.sipush X12.here hx rfl (hb hby d_compress2_35) ?_
      refine XS.icmpYes X12.here hx rfl (pc0 := 38) (pc' := 54) rfl (hb hby d_compress2_38) rfl (tlt (hgt : (255 : Int32) < c0)).2.2.1 (by decide) (by decide) ?_
      refine XS.aload X12.here hx rfl (hb hby d_compress2_54) rfl rfl ?_
      exact kk_)
    subst hs0
    obtain ⟨fs, hr, hrun, hended, hW, hsame⟩ := X12.leave (v := some (.ref t_9)) (fun h => by rw [Bd.returns] at h; cases h)
    refine ⟨_, _, P15 _ ?_, hrun, hended, _, _, rfl, ?_, ⟨_, rfl⟩, hW, hsame.mono (by decide) (by decide)⟩
    · show GG p e below T12 (mkF m 56 #[.val (.ref sa), .val (.int (0 : Int32)), .val (.int (4 : Int32)), .val (.ref b2), .val (.int (0 : Int32)), .val (.ref t_9)] [(.ref t_9)]) _
      jvm_step X12.here [X12.here.top, hx, (hb hby d_compress2_56), X12.method', Bd.returns, Value.isRef, FieldType.isReference]
      first | (intro acts; rw [hr _ acts rfl rfl rfl]) | rw [hr _ _ rfl rfl rfl]
      exact Steps.refl _
    · show Q_compB Z sa ks c0 c1 c2 c3 h0 n0 _ T12.heap _
      rw [e12]
      exact ⟨t_9, kb_9, (8 : Int32), [(.int (nar .byte ((c0 >>> ((0 : Int32) &&& 31)).toInt8.toInt32))), (.int (nar .byte ((c0 >>> ((8 : Int32) &&& 31)).toInt8.toInt32))), (.int (nar .byte ((c1 >>> ((0 : Int32) &&& 31)).toInt8.toInt32))), (.int (nar .byte ((c1 >>> ((8 : Int32) &&& 31)).toInt8.toInt32))), (.int (nar .byte ((c2 >>> ((0 : Int32) &&& 31)).toInt8.toInt32))), (.int (nar .byte ((c2 >>> ((8 : Int32) &&& 31)).toInt8.toInt32))), (.int (nar .byte ((c3 >>> ((0 : Int32) &&& 31)).toInt8.toInt32))), (.int (nar .byte ((c3 >>> ((8 : Int32) &&& 31)).toInt8.toInt32)))], rfl, N12, K9, sz_t_9, V_t_9, Or.inr ⟨rfl, rfl⟩⟩
  ·
    obtain ⟨rfl, hgt⟩ := hcase
    have P16 : ∀ t, GG p e below T5 (mkF m 23 #[.val (.ref sa), .val (.int (0 : Int32)), .val (.int (4 : Int32)), .val (.ref b2), .val (.int (1 : Int32)), .unset] [(.int (4 : Int32)), (.int (0 : Int32)), (.ref sa)]) t → Steps p.tables e below s0 t := fun t kk_ => P6 t (by
      refine XS.istore X5.here hx rfl (hb hby d_compress2_12) rfl (l' := #[.val (.ref sa), .val (.int (0 : Int32)), .val (.int (4 : Int32)), .val (.ref b2), .val (.int (1 : Int32)), .unset]) rfl ?_
      refine XS.iload X5.here hx rfl (hb hby d_compress2_14) rfl ?_
      refine XS.iloadN X5.here hx rfl (hb hby d_compress2_16) rfl ?_
      refine XS.icmpNo X5.here hx rfl (hb hby d_compress2_17) rfl (feq ((by decide) : ¬ ((1 : Int32) = (4 : Int32)))).1 ?_
      refine XS.aloadN X5.here hx rfl (hb hby d_compress2_20) rfl rfl ?_
      refine XS.iloadN X5.here hx rfl (hb hby d_compress2_21) rfl ?_
      refine XS.iloadN X5.here hx rfl (hb hby d_compress2_22) rfl ?_
      exact kk_)
    obtain ⟨_, _, ⟨T17, L17, k17, n17⟩, -, X17, ⟨Lc17, hQ17, l17, y17, z17⟩, st17⟩ := Jvm.LawKit.callS X5 hx (y := mn_4) hown (mw hZ hw 28 rfl) (mw hZ hw 29 rfl) (mw hZ hw 22 rfl) (mw hZ hw 30 rfl) (by decide) (backOf (W := 0) (rm_toB l Z a0 hw [] sa ks c0 c1 c2 c3 T5.heap n0 (Nat.le_trans Z0 K5.1) V_sa S__assertionsDisabled S_HI_BYTE_SHIFT S_LO_BYTE_SHIFT OL) hZ (ww hw 30 rfl) (ww hw 22 rfl) (by decide) (by decide)) (g := (mkF m 23 #[.val (.ref sa), .val (.int (0 : Int32)), .val (.int (4 : Int32)), .val (.ref b2), .val (.int (1 : Int32)), .unset] [(.int (4 : Int32)), (.int (0 : Int32)), (.ref sa)])) rfl (by rw [hml]; rfl) (argsL := [(.ref sa), (.int (0 : Int32)), (.int (4 : Int32))]) (rest := []) (lenOf pd_4 rfl) rfl (by show 2 * 0 + _ ≤ _; exact Nat.le_of_eq rfl) (hb hby d_compress2_23) (fun _ _ => ⟨rfl, rfl, (by decide : 1 + 1 ≤ _), (by decide : 4 + 8 ≤ _)⟩)
    dsimp only [Pt.U, Pt.locs, Pt.cells, Pt.slots] at X17 l17 y17 z17 st17 hQ17
    subst l17 y17 z17
    obtain ⟨t_17, kb_17, rfl, N17q, Kc17, po17_0, po17_1⟩ := hQ17
    have N17 := Fr.app N5 N17q
    have P18 : ∀ t, GG p e below T17 (mkF m 26 #[.val (.ref sa), .val (.int (0 : Int32)), .val (.int (4 : Int32)), .val (.ref b2), .val (.int (1 : Int32)), .unset] [(.ref t_17)]) t → Steps p.tables e below s0 t := fun t kk_ => P16 t (st17 _ kk_)
    have ne_sa_t_17 : sa ≠ t_17 := Nat.ne_of_lt (Nat.lt_of_lt_of_le V_sa.lt po17_0)
    have ne_b2_t_17 : b2 ≠ t_17 := Nat.ne_of_lt (Nat.lt_of_lt_of_le V_b2.lt po17_0)
    have sz_t_17 : h0.size ≤ t_17 := Nat.le_trans K5.1 po17_0
    replace V_sa : Arv Z T17.heap sa ks .char (4 : Int32) [(.int c0), (.int c1), (.int c2), (.int c3)] (.int (0 : Int32)) := V_sa.keep Kc17 nin0
    replace OL : Old Z n0 T17.heap := OL.keep Kc17 all0
    replace V_b2 : Arv Z T17.heap b2 k2 .byte (4 : Int32) vs_5 (.int (0 : Int32)) := V_b2.keep Kc17 nin0
    have K17 : Keep h0 T17.heap [] := K5.trans Kc17 all0
    have V_t_17 : Arv Z T17.heap t_17 kb_17 .byte (8 : Int32) [(.int (nar .byte ((c0 >>> ((0 : Int32) &&& 31)).toInt8.toInt32))), (.int (nar .byte ((c0 >>> ((8 : Int32) &&& 31)).toInt8.toInt32))), (.int (nar .byte ((c1 >>> ((0 : Int32) &&& 31)).toInt8.toInt32))), (.int (nar .byte ((c1 >>> ((8 : Int32) &&& 31)).toInt8.toInt32))), (.int (nar .byte ((c2 >>> ((0 : Int32) &&& 31)).toInt8.toInt32))), (.int (nar .byte ((c2 >>> ((8 : Int32) &&& 31)).toInt8.toInt32))), (.int (nar .byte ((c3 >>> ((0 : Int32) &&& 31)).toInt8.toInt32))), (.int (nar .byte ((c3 >>> ((8 : Int32) &&& 31)).toInt8.toInt32)))] (.int (0 : Int32)) := po17_1
    have P19 : ∀ t, GG p e below T17 (mkF m 32 #[.val (.ref sa), .val (.int (0 : Int32)), .val (.int (4 : Int32)), .val (.ref b2), .val (.int (1 : Int32)), .val (.ref t_17)] [(.int (1 : Int32)), (.ref t_17)]) t → Steps p.tables e below s0 t := fun t kk_ => P18 t (by
      refine XS.astore X17.here hx rfl (hb hby d_compress2_26) rfl rfl (l' := #[.val (.ref sa), .val (.int (0 : Int32)), .val (.int (4 : Int32)), .val (.ref b2), .val (.int (1 : Int32)), .val (.ref t_17)]) rfl ?_
      refine XS.aload X17.here hx rfl (hb hby d_compress2_28) rfl rfl ?_
      refine XS.iload X17.here hx rfl (hb hby d_compress2_30) rfl ?_
      exact kk_)
    obtain ⟨_, _, ⟨T20, L20, k20, n20⟩, -, X20, ⟨Lc20, hQ20, l20, y20, z20⟩, st20⟩ := Jvm.LawKit.callS X17 hx (y := mn_5) hown (mw hZ hw 44 rfl) (mw hZ hw 45 rfl) (mw hZ hw 22 rfl) (mw hZ hw 46 rfl) (by decide) (backOf (W := 0) (rm_get1 l Z a0 hw [] t_17 kb_17 (nar .byte ((c1 >>> ((0 : Int32) &&& 31)).toInt8.toInt32)) (nar .byte ((c1 >>> ((8 : Int32) &&& 31)).toInt8.toInt32)) (.int (nar .byte ((c0 >>> ((0 : Int32) &&& 31)).toInt8.toInt32))) (.int (nar .byte ((c0 >>> ((8 : Int32) &&& 31)).toInt8.toInt32))) (.int (nar .byte ((c2 >>> ((0 : Int32) &&& 31)).toInt8.toInt32))) (.int (nar .byte ((c2 >>> ((8 : Int32) &&& 31)).toInt8.toInt32))) (.int (nar .byte ((c3 >>> ((0 : Int32) &&& 31)).toInt8.toInt32))) (.int (nar .byte ((c3 >>> ((8 : Int32) &&& 31)).toInt8.toInt32))) T17.heap n0 (Nat.le_trans Z0 K17.1) V_t_17 S__assertionsDisabled S_HI_BYTE_SHIFT S_LO_BYTE_SHIFT OL) hZ (ww hw 46 rfl) (ww hw 22 rfl) (by decide) (by decide)) (g := (mkF m 32 #[.val (.ref sa), .val (.int (0 : Int32)), .val (.int (4 : Int32)), .val (.ref b2), .val (.int (1 : Int32)), .val (.ref t_17)] [(.int (1 : Int32)), (.ref t_17)])) rfl (by rw [hml]; rfl) (argsL := [(.ref t_17), (.int (1 : Int32))]) (rest := []) (lenOf pd_5 rfl) rfl (by show 2 * 0 + _ ≤ _; exact Nat.le_of_eq rfl) (hb hby d_compress2_32) (fun _ _ => ⟨rfl, rfl, (by decide : 2 + 0 ≤ _), (by decide : 12 + 0 ≤ _)⟩)
    dsimp only [Pt.U, Pt.locs, Pt.cells, Pt.slots] at X20 l20 y20 z20 st20 hQ20
    subst l20 y20 z20
    obtain ⟨rfl, N20q, e20⟩ := hQ20
    have N20 := Fr.app N17 N20q
    have P21 : ∀ t, GG p e below T20 (mkF m 35 #[.val (.ref sa), .val (.int (0 : Int32)), .val (.int (4 : Int32)), .val (.ref b2), .val (.int (1 : Int32)), .val (.ref t_17)] [(.int (nar .char (((((nar .byte ((c1 >>> ((0 : Int32) &&& 31)).toInt8.toInt32)) &&& (255 : Int32)) <<< ((0 : Int32) &&& 31)) ||| (((nar .byte ((c1 >>> ((8 : Int32) &&& 31)).toInt8.toInt32)) &&& (255 : Int32)) <<< ((8 : Int32) &&& 31))).toUInt32.toUInt16.toUInt32.toInt32)))]) t → Steps p.tables e below s0 t := fun t kk_ => P19 t (st20 _ kk_)
    have P22 : ∀ t, GG p e below T20 (mkF m 35 #[.val (.ref sa), .val (.int (0 : Int32)), .val (.int (4 : Int32)), .val (.ref b2), .val (.int (1 : Int32)), .val (.ref t_17)] [(.int c1)]) t → Steps p.tables e below s0 t := fun t kk_ => P21 t (by rw [(own_w1 ic1)]; exact kk_)
    have P23 : ∀ t, GG p e below T20 (mkF m 56 #[.val (.ref sa), .val (.int (0 : Int32)), .val (.int (4 : Int32)), .val (.ref b2), .val (.int (1 : Int32)), .val (.ref t_17)] [(.ref t_17)]) t → Steps p.tables e below s0 t := fun t kk_ => P22 t (by
      refine XS.sipush X20.here hx rfl (hb hby d_compress2_35) ?_
      refine XS.icmpYes X20.here hx rfl (pc0 := 38) (pc' := 54) rfl (hb hby d_compress2_38) rfl (tlt (hgt : (255 : Int32) < c1)).2.2.1 (by decide) (by decide) ?_
      refine XS.aload X20.here hx rfl (hb hby d_compress2_54) rfl rfl ?_
      exact kk_)
    subst hs0
    obtain ⟨fs, hr, hrun, hended, hW, hsame⟩ := X20.leave (v := some (.ref t_17)) (fun h => by rw [Bd.returns] at h; cases h)
    refine ⟨_, _, P23 _ ?_, hrun, hended, _, _, rfl, ?_, ⟨_, rfl⟩, hW, hsame.mono (by decide) (by decide)⟩
    · show GG p e below T20 (mkF m 56 #[.val (.ref sa), .val (.int (0 : Int32)), .val (.int (4 : Int32)), .val (.ref b2), .val (.int (1 : Int32)), .val (.ref t_17)] [(.ref t_17)]) _
      jvm_step X20.here [X20.here.top, hx, (hb hby d_compress2_56), X20.method', Bd.returns, Value.isRef, FieldType.isReference]
      first | (intro acts; rw [hr _ acts rfl rfl rfl]) | rw [hr _ _ rfl rfl rfl]
      exact Steps.refl _
    · show Q_compB Z sa ks c0 c1 c2 c3 h0 n0 _ T20.heap _
      rw [e20]
      exact ⟨t_17, kb_17, (8 : Int32), [(.int (nar .byte ((c0 >>> ((0 : Int32) &&& 31)).toInt8.toInt32))), (.int (nar .byte ((c0 >>> ((8 : Int32) &&& 31)).toInt8.toInt32))), (.int (nar .byte ((c1 >>> ((0 : Int32) &&& 31)).toInt8.toInt32))), (.int (nar .byte ((c1 >>> ((8 : Int32) &&& 31)).toInt8.toInt32))), (.int (nar .byte ((c2 >>> ((0 : Int32) &&& 31)).toInt8.toInt32))), (.int (nar .byte ((c2 >>> ((8 : Int32) &&& 31)).toInt8.toInt32))), (.int (nar .byte ((c3 >>> ((0 : Int32) &&& 31)).toInt8.toInt32))), (.int (nar .byte ((c3 >>> ((8 : Int32) &&& 31)).toInt8.toInt32)))], rfl, N20, K17, sz_t_17, V_t_17, Or.inr ⟨rfl, rfl⟩⟩
  ·
    obtain ⟨rfl, hgt⟩ := hcase
    have P24 : ∀ t, GG p e below T5 (mkF m 23 #[.val (.ref sa), .val (.int (0 : Int32)), .val (.int (4 : Int32)), .val (.ref b2), .val (.int (2 : Int32)), .unset] [(.int (4 : Int32)), (.int (0 : Int32)), (.ref sa)]) t → Steps p.tables e below s0 t := fun t kk_ => P6 t (by
      refine XS.istore X5.here hx rfl (hb hby d_compress2_12) rfl (l' := #[.val (.ref sa), .val (.int (0 : Int32)), .val (.int (4 : Int32)), .val (.ref b2), .val (.int (2 : Int32)), .unset]) rfl ?_
      refine XS.iload X5.here hx rfl (hb hby d_compress2_14) rfl ?_
      refine XS.iloadN X5.here hx rfl (hb hby d_compress2_16) rfl ?_
      refine XS.icmpNo X5.here hx rfl (hb hby d_compress2_17) rfl (feq ((by decide) : ¬ ((2 : Int32) = (4 : Int32)))).1 ?_
      refine XS.aloadN X5.here hx rfl (hb hby d_compress2_20) rfl rfl ?_
      refine XS.iloadN X5.here hx rfl (hb hby d_compress2_21) rfl ?_
      refine XS.iloadN X5.here hx rfl (hb hby d_compress2_22) rfl ?_
      exact kk_)
    obtain ⟨_, _, ⟨T25, L25, k25, n25⟩, -, X25, ⟨Lc25, hQ25, l25, y25, z25⟩, st25⟩ := Jvm.LawKit.callS X5 hx (y := mn_4) hown (mw hZ hw 28 rfl) (mw hZ hw 29 rfl) (mw hZ hw 22 rfl) (mw hZ hw 30 rfl) (by decide) (backOf (W := 0) (rm_toB l Z a0 hw [] sa ks c0 c1 c2 c3 T5.heap n0 (Nat.le_trans Z0 K5.1) V_sa S__assertionsDisabled S_HI_BYTE_SHIFT S_LO_BYTE_SHIFT OL) hZ (ww hw 30 rfl) (ww hw 22 rfl) (by decide) (by decide)) (g := (mkF m 23 #[.val (.ref sa), .val (.int (0 : Int32)), .val (.int (4 : Int32)), .val (.ref b2), .val (.int (2 : Int32)), .unset] [(.int (4 : Int32)), (.int (0 : Int32)), (.ref sa)])) rfl (by rw [hml]; rfl) (argsL := [(.ref sa), (.int (0 : Int32)), (.int (4 : Int32))]) (rest := []) (lenOf pd_4 rfl) rfl (by show 2 * 0 + _ ≤ _; exact Nat.le_of_eq rfl) (hb hby d_compress2_23) (fun _ _ => ⟨rfl, rfl, (by decide : 1 + 1 ≤ _), (by decide : 4 + 8 ≤ _)⟩)
    dsimp only [Pt.U, Pt.locs, Pt.cells, Pt.slots] at X25 l25 y25 z25 st25 hQ25
    subst l25 y25 z25
    obtain ⟨t_25, kb_25, rfl, N25q, Kc25, po25_0, po25_1⟩ := hQ25
    have N25 := Fr.app N5 N25q
    have P26 : ∀ t, GG p e below T25 (mkF m 26 #[.val (.ref sa), .val (.int (0 : Int32)), .val (.int (4 : Int32)), .val (.ref b2), .val (.int (2 : Int32)), .unset] [(.ref t_25)]) t → Steps p.tables e below s0 t := fun t kk_ => P24 t (st25 _ kk_)
    have ne_sa_t_25 : sa ≠ t_25 := Nat.ne_of_lt (Nat.lt_of_lt_of_le V_sa.lt po25_0)
    have ne_b2_t_25 : b2 ≠ t_25 := Nat.ne_of_lt (Nat.lt_of_lt_of_le V_b2.lt po25_0)
    have sz_t_25 : h0.size ≤ t_25 := Nat.le_trans K5.1 po25_0
    replace V_sa : Arv Z T25.heap sa ks .char (4 : Int32) [(.int c0), (.int c1), (.int c2), (.int c3)] (.int (0 : Int32)) := V_sa.keep Kc25 nin0
    replace OL : Old Z n0 T25.heap := OL.keep Kc25 all0
    replace V_b2 : Arv Z T25.heap b2 k2 .byte (4 : Int32) vs_5 (.int (0 : Int32)) := V_b2.keep Kc25 nin0
    have K25 : Keep h0 T25.heap [] := K5.trans Kc25 all0
    have V_t_25 : Arv Z T25.heap t_25 kb_25 .byte (8 : Int32) [(.int (nar .byte ((c0 >>> ((0 : Int32) &&& 31)).toInt8.toInt32))), (.int (nar .byte ((c0 >>> ((8 : Int32) &&& 31)).toInt8.toInt32))), (.int (nar .byte ((c1 >>> ((0 : Int32) &&& 31)).toInt8.toInt32))), (.int (nar .byte ((c1 >>> ((8 : Int32) &&& 31)).toInt8.toInt32))), (.int (nar .byte ((c2 >>> ((0 : Int32) &&& 31)).toInt8.toInt32))), (.int (nar .byte ((c2 >>> ((8 : Int32) &&& 31)).toInt8.toInt32))), (.int (nar .byte ((c3 >>> ((0 : Int32) &&& 31)).toInt8.toInt32))), (.int (nar .byte ((c3 >>> ((8 : Int32) &&& 31)).toInt8.toInt32)))] (.int (0 : Int32)) := po25_1
    have P27 : ∀ t, GG p e below T25 (mkF m 32 #[.val (.ref sa), .val (.int (0 : Int32)), .val (.int (4 : Int32)), .val (.ref b2), .val (.int (2 : Int32)), .val (.ref t_25)] [(.int (2 : Int32)), (.ref t_25)]) t → Steps p.tables e below s0 t := fun t kk_ => P26 t (by
      refine XS.astore X25.here hx rfl (hb hby d_compress2_26) rfl rfl (l' := #[.val (.ref sa), .val (.int (0 : Int32)), .val (.int (4 : Int32)), .val (.ref b2), .val (.int (2 : Int32)), .val (.ref t_25)]) rfl ?_
      refine XS.aload X25.here hx rfl (hb hby d_compress2_28) rfl rfl ?_
      refine XS.iload X25.here hx rfl (hb hby d_compress2_30) rfl ?_
      exact kk_)
    obtain ⟨_, _, ⟨T28, L28, k28, n28⟩, -, X28, ⟨Lc28, hQ28, l28, y28, z28⟩, st28⟩ := Jvm.LawKit.callS X25 hx (y := mn_5) hown (mw hZ hw 44 rfl) (mw hZ hw 45 rfl) (mw hZ hw 22 rfl) (mw hZ hw 46 rfl) (by decide) (backOf (W := 0) (rm_get2 l Z a0 hw [] t_25 kb_25 (nar .byte ((c2 >>> ((0 : Int32) &&& 31)).toInt8.toInt32)) (nar .byte ((c2 >>> ((8 : Int32) &&& 31)).toInt8.toInt32)) (.int (nar .byte ((c0 >>> ((0 : Int32) &&& 31)).toInt8.toInt32))) (.int (nar .byte ((c0 >>> ((8 : Int32) &&& 31)).toInt8.toInt32))) (.int (nar .byte ((c1 >>> ((0 : Int32) &&& 31)).toInt8.toInt32))) (.int (nar .byte ((c1 >>> ((8 : Int32) &&& 31)).toInt8.toInt32))) (.int (nar .byte ((c3 >>> ((0 : Int32) &&& 31)).toInt8.toInt32))) (.int (nar .byte ((c3 >>> ((8 : Int32) &&& 31)).toInt8.toInt32))) T25.heap n0 (Nat.le_trans Z0 K25.1) V_t_25 S__assertionsDisabled S_HI_BYTE_SHIFT S_LO_BYTE_SHIFT OL) hZ (ww hw 46 rfl) (ww hw 22 rfl) (by decide) (by decide)) (g := (mkF m 32 #[.val (.ref sa), .val (.int (0 : Int32)), .val (.int (4 : Int32)), .val (.ref b2), .val (.int (2 : Int32)), .val (.ref t_25)] [(.int (2 : Int32)), (.ref t_25)])) rfl (by rw [hml]; rfl) (argsL := [(.ref t_25), (.int (2 : Int32))]) (rest := []) (lenOf pd_5 rfl) rfl (by show 2 * 0 + _ ≤ _; exact Nat.le_of_eq rfl) (hb hby d_compress2_32) (fun _ _ => ⟨rfl, rfl, (by decide : 2 + 0 ≤ _), (by decide : 12 + 0 ≤ _)⟩)
    dsimp only [Pt.U, Pt.locs, Pt.cells, Pt.slots] at X28 l28 y28 z28 st28 hQ28
    subst l28 y28 z28
    obtain ⟨rfl, N28q, e28⟩ := hQ28
    have N28 := Fr.app N25 N28q
    have P29 : ∀ t, GG p e below T28 (mkF m 35 #[.val (.ref sa), .val (.int (0 : Int32)), .val (.int (4 : Int32)), .val (.ref b2), .val (.int (2 : Int32)), .val (.ref t_25)] [(.int (nar .char (((((nar .byte ((c2 >>> ((0 : Int32) &&& 31)).toInt8.toInt32)) &&& (255 : Int32)) <<< ((0 : Int32) &&& 31)) ||| (((nar .byte ((c2 >>> ((8 : Int32) &&& 31)).toInt8.toInt32)) &&& (255 : Int32)) <<< ((8 : Int32) &&& 31))).toUInt32.toUInt16.toUInt32.toInt32)))]) t → Steps p.tables e below s0 t := fun t kk_ => P27 t (st28 _ kk_)
    have P30 : ∀ t, GG p e below T28 (mkF m 35 #[.val (.ref sa), .val (.int (0 : Int32)), .val (.int (4 : Int32)), .val (.ref b2), .val (.int (2 : Int32)), .val (.ref t_25)] [(.int c2)]) t → Steps p.tables e below s0 t := fun t kk_ => P29 t (by rw [(own_w1 ic2)]; exact kk_)
    have P31 : ∀ t, GG p e below T28 (mkF m 56 #[.val (.ref sa), .val (.int (0 : Int32)), .val (.int (4 : Int32)), .val (.ref b2), .val (.int (2 : Int32)), .val (.ref t_25)] [(.ref t_25)]) t → Steps p.tables e below s0 t := fun t kk_ => P30 t (by
      refine XS.sipush X28.here hx rfl (hb hby d_compress2_35) ?_
      refine XS.icmpYes X28.here hx rfl (pc0 := 38) (pc' := 54) rfl (hb hby d_compress2_38) rfl (tlt (hgt : (255 : Int32) < c2)).2.2.1 (by decide) (by decide) ?_
      refine XS.aload X28.here hx rfl (hb hby d_compress2_54) rfl rfl ?_
      exact kk_)
    subst hs0
    obtain ⟨fs, hr, hrun, hended, hW, hsame⟩ := X28.leave (v := some (.ref t_25)) (fun h => by rw [Bd.returns] at h; cases h)
    refine ⟨_, _, P31 _ ?_, hrun, hended, _, _, rfl, ?_, ⟨_, rfl⟩, hW, hsame.mono (by decide) (by decide)⟩
    · show GG p e below T28 (mkF m 56 #[.val (.ref sa), .val (.int (0 : Int32)), .val (.int (4 : Int32)), .val (.ref b2), .val (.int (2 : Int32)), .val (.ref t_25)] [(.ref t_25)]) _
      jvm_step X28.here [X28.here.top, hx, (hb hby d_compress2_56), X28.method', Bd.returns, Value.isRef, FieldType.isReference]
      first | (intro acts; rw [hr _ acts rfl rfl rfl]) | rw [hr _ _ rfl rfl rfl]
      exact Steps.refl _
    · show Q_compB Z sa ks c0 c1 c2 c3 h0 n0 _ T28.heap _
      rw [e28]
      exact ⟨t_25, kb_25, (8 : Int32), [(.int (nar .byte ((c0 >>> ((0 : Int32) &&& 31)).toInt8.toInt32))), (.int (nar .byte ((c0 >>> ((8 : Int32) &&& 31)).toInt8.toInt32))), (.int (nar .byte ((c1 >>> ((0 : Int32) &&& 31)).toInt8.toInt32))), (.int (nar .byte ((c1 >>> ((8 : Int32) &&& 31)).toInt8.toInt32))), (.int (nar .byte ((c2 >>> ((0 : Int32) &&& 31)).toInt8.toInt32))), (.int (nar .byte ((c2 >>> ((8 : Int32) &&& 31)).toInt8.toInt32))), (.int (nar .byte ((c3 >>> ((0 : Int32) &&& 31)).toInt8.toInt32))), (.int (nar .byte ((c3 >>> ((8 : Int32) &&& 31)).toInt8.toInt32)))], rfl, N28, K25, sz_t_25, V_t_25, Or.inr ⟨rfl, rfl⟩⟩
  ·
    obtain ⟨rfl, hgt⟩ := hcase
    have P32 : ∀ t, GG p e below T5 (mkF m 23 #[.val (.ref sa), .val (.int (0 : Int32)), .val (.int (4 : Int32)), .val (.ref b2), .val (.int (3 : Int32)), .unset] [(.int (4 : Int32)), (.int (0 : Int32)), (.ref sa)]) t → Steps p.tables e below s0 t := fun t kk_ => P6 t (by
      refine XS.istore X5.here hx rfl (hb hby d_compress2_12) rfl (l' := #[.val (.ref sa), .val (.int (0 : Int32)), .val (.int (4 : Int32)), .val (.ref b2), .val (.int (3 : Int32)), .unset]) rfl ?_
      refine XS.iload X5.here hx rfl (hb hby d_compress2_14) rfl ?_
      refine XS.iloadN X5.here hx rfl (hb hby d_compress2_16) rfl ?_
      refine XS.icmpNo X5.here hx rfl (hb hby d_compress2_17) rfl (feq ((by decide) : ¬ ((3 : Int32) = (4 : Int32)))).1 ?_
      refine XS.aloadN X5.here hx rfl (hb hby d_compress2_20) rfl rfl ?_
      refine XS.iloadN X5.here hx rfl (hb hby d_compress2_21) rfl ?_
      refine XS.iloadN X5.here hx rfl (hb hby d_compress2_22) rfl ?_
      exact kk_)
    obtain ⟨_, _, ⟨T33, L33, k33, n33⟩, -, X33, ⟨Lc33, hQ33, l33, y33, z33⟩, st33⟩ := Jvm.LawKit.callS X5 hx (y := mn_4) hown (mw hZ hw 28 rfl) (mw hZ hw 29 rfl) (mw hZ hw 22 rfl) (mw hZ hw 30 rfl) (by decide) (backOf (W := 0) (rm_toB l Z a0 hw [] sa ks c0 c1 c2 c3 T5.heap n0 (Nat.le_trans Z0 K5.1) V_sa S__assertionsDisabled S_HI_BYTE_SHIFT S_LO_BYTE_SHIFT OL) hZ (ww hw 30 rfl) (ww hw 22 rfl) (by decide) (by decide)) (g := (mkF m 23 #[.val (.ref sa), .val (.int (0 : Int32)), .val (.int (4 : Int32)), .val (.ref b2), .val (.int (3 : Int32)), .unset] [(.int (4 : Int32)), (.int (0 : Int32)), (.ref sa)])) rfl (by rw [hml]; rfl) (argsL := [(.ref sa), (.int (0 : Int32)), (.int (4 : Int32))]) (rest := []) (lenOf pd_4 rfl) rfl (by show 2 * 0 + _ ≤ _; exact Nat.le_of_eq rfl) (hb hby d_compress2_23) (fun _ _ => ⟨rfl, rfl, (by decide : 1 + 1 ≤ _), (by decide : 4 + 8 ≤ _)⟩)
    dsimp only [Pt.U, Pt.locs, Pt.cells, Pt.slots] at X33 l33 y33 z33 st33 hQ33
    subst l33 y33 z33
    obtain ⟨t_33, kb_33, rfl, N33q, Kc33, po33_0, po33_1⟩ := hQ33
    have N33 := Fr.app N5 N33q
    have P34 : ∀ t, GG p e below T33 (mkF m 26 #[.val (.ref sa), .val (.int (0 : Int32)), .val (.int (4 : Int32)), .val (.ref b2), .val (.int (3 : Int32)), .unset] [(.ref t_33)]) t → Steps p.tables e below s0 t := fun t kk_ => P32 t (st33 _ kk_)
    have ne_sa_t_33 : sa ≠ t_33 := Nat.ne_of_lt (Nat.lt_of_lt_of_le V_sa.lt po33_0)
    have ne_b2_t_33 : b2 ≠ t_33 := Nat.ne_of_lt (Nat.lt_of_lt_of_le V_b2.lt po33_0)
    have sz_t_33 : h0.size ≤ t_33 := Nat.le_trans K5.1 po33_0
    replace V_sa : Arv Z T33.heap sa ks .char (4 : Int32) [(.int c0), (.int c1), (.int c2), (.int c3)] (.int (0 : Int32)) := V_sa.keep Kc33 nin0
    replace OL : Old Z n0 T33.heap := OL.keep Kc33 all0
    replace V_b2 : Arv Z T33.heap b2 k2 .byte (4 : Int32) vs_5 (.int (0 : Int32)) := V_b2.keep Kc33 nin0
    have K33 : Keep h0 T33.heap [] := K5.trans Kc33 all0
    have V_t_33 : Arv Z T33.heap t_33 kb_33 .byte (8 : Int32) [(.int (nar .byte ((c0 >>> ((0 : Int32) &&& 31)).toInt8.toInt32))), (.int (nar .byte ((c0 >>> ((8 : Int32) &&& 31)).toInt8.toInt32))), (.int (nar .byte ((c1 >>> ((0 : Int32) &&& 31)).toInt8.toInt32))), (.int (nar .byte ((c1 >>> ((8 : Int32) &&& 31)).toInt8.toInt32))), (.int (nar .byte ((c2 >>> ((0 : Int32) &&& 31)).toInt8.toInt32))), (.int (nar .byte ((c2 >>> ((8 : Int32) &&& 31)).toInt8.toInt32))), (.int (nar .byte ((c3 >>> ((0 : Int32) &&& 31)).toInt8.toInt32))), (.int (nar .byte ((c3 >>> ((8 : Int32) &&& 31)).toInt8.toInt32)))] (.int (0 : Int32)) := po33_1
    have P35 : ∀ t, GG p e below T33 (mkF m 32 #[.val (.ref sa), .val (.int (0 : Int32)), .val (.int (4 : Int32)), .val (.ref b2), .val (.int (3 : Int32)), .val (.ref t_33)] [(.int (3 : Int32)), (.ref t_33)]) t → Steps p.tables e below s0 t := fun t kk_ => P34 t (by
      refine XS.astore X33.here hx rfl (hb hby d_compress2_26) rfl rfl (l' := #[.val (.ref sa), .val (.int (0 : Int32)), .val (.int (4 : Int32)), .val (.ref b2), .val (.int (3 : Int32)), .val (.ref t_33)]) rfl ?_
      refine XS.aload X33.here hx rfl (hb hby d_compress2_28) rfl rfl ?_
      refine XS.iload X33.here hx rfl (hb hby d_compress2_30) rfl ?_
      exact kk_)
    obtain ⟨_, _, ⟨T36, L36, k36, n36⟩, -, X36, ⟨Lc36, hQ36, l36, y36, z36⟩, st36⟩ := Jvm.LawKit.callS X33 hx (y := mn_5) hown (mw hZ hw 44 rfl) (mw hZ hw 45 rfl) (mw hZ hw 22 rfl) (mw hZ hw 46 rfl) (by decide) (backOf (W := 0) (rm_get3 l Z a0 hw [] t_33 kb_33 (nar .byte ((c3 >>> ((0 : Int32) &&& 31)).toInt8.toInt32)) (nar .byte ((c3 >>> ((8 : Int32) &&& 31)).toInt8.toInt32)) (.int (nar .byte ((c0 >>> ((0 : Int32) &&& 31)).toInt8.toInt32))) (.int (nar .byte ((c0 >>> ((8 : Int32) &&& 31)).toInt8.toInt32))) (.int (nar .byte ((c1 >>> ((0 : Int32) &&& 31)).toInt8.toInt32))) (.int (nar .byte ((c1 >>> ((8 : Int32) &&& 31)).toInt8.toInt32))) (.int (nar .byte ((c2 >>> ((0 : Int32) &&& 31)).toInt8.toInt32))) (.int (nar .byte ((c2 >>> ((8 : Int32) &&& 31)).toInt8.toInt32))) T33.heap n0 (Nat.le_trans Z0 K33.1) V_t_33 S__assertionsDisabled S_HI_BYTE_SHIFT S_LO_BYTE_SHIFT OL) hZ (ww hw 46 rfl) (ww hw 22 rfl) (by decide) (by decide)) (g := (mkF m 32 #[.val (.ref sa), .val (.int (0 : Int32)), .val (.int (4 : Int32)), .val (.ref b2), .val (.int (3 : Int32)), .val (.ref t_33)] [(.int (3 : Int32)), (.ref t_33)])) rfl (by rw [hml]; rfl) (argsL := [(.ref t_33), (.int (3 : Int32))]) (rest := []) (lenOf pd_5 rfl) rfl (by show 2 * 0 + _ ≤ _; exact Nat.le_of_eq rfl) (hb hby d_compress2_32) (fun _ _ => ⟨rfl, rfl, (by decide : 2 + 0 ≤ _), (by decide : 12 + 0 ≤ _)⟩)
    dsimp only [Pt.U, Pt.locs, Pt.cells, Pt.slots] at X36 l36 y36 z36 st36 hQ36
    subst l36 y36 z36
    obtain ⟨rfl, N36q, e36⟩ := hQ36
    have N36 := Fr.app N33 N36q
    have P37 : ∀ t, GG p e below T36 (mkF m 35 #[.val (.ref sa), .val (.int (0 : Int32)), .val (.int (4 : Int32)), .val (.ref b2), .val (.int (3 : Int32)), .val (.ref t_33)] [(.int (nar .char (((((nar .byte ((c3 >>> ((0 : Int32) &&& 31)).toInt8.toInt32)) &&& (255 : Int32)) <<< ((0 : Int32) &&& 31)) ||| (((nar .byte ((c3 >>> ((8 : Int32) &&& 31)).toInt8.toInt32)) &&& (255 : Int32)) <<< ((8 : Int32) &&& 31))).toUInt32.toUInt16.toUInt32.toInt32)))]) t → Steps p.tables e below s0 t := fun t kk_ => P35 t (st36 _ kk_)
    have P38 : ∀ t, GG p e below T36 (mkF m 35 #[.val (.ref sa), .val (.int (0 : Int32)), .val (.int (4 : Int32)), .val (.ref b2), .val (.int (3 : Int32)), .val (.ref t_33)] [(.int c3)]) t → Steps p.tables e below s0 t := fun t kk_ => P37 t (by rw [(own_w1 ic3)]; exact kk_)
    have P39 : ∀ t, GG p e below T36 (mkF m 56 #[.val (.ref sa), .val (.int (0 : Int32)), .val (.int (4 : Int32)), .val (.ref b2), .val (.int (3 : Int32)), .val (.ref t_33)] [(.ref t_33)]) t → Steps p.tables e below s0 t := fun t kk_ => P38 t (by
      refine XS.sipush X36.here hx rfl (hb hby d_compress2_35) ?_
      refine XS.icmpYes X36.here hx rfl (pc0 := 38) (pc' := 54) rfl (hb hby d_compress2_38) rfl (tlt (hgt : (255 : Int32) < c3)).2.2.1 (by decide) (by decide) ?_
      refine XS.aload X36.here hx rfl (hb hby d_compress2_54) rfl rfl ?_
      exact kk_)
    subst hs0
    obtain ⟨fs, hr, hrun, hended, hW, hsame⟩ := X36.leave (v := some (.ref t_33)) (fun h => by rw [Bd.returns] at h; cases h)
    refine ⟨_, _, P39 _ ?_, hrun, hended, _, _, rfl, ?_, ⟨_, rfl⟩, hW, hsame.mono (by decide) (by decide)⟩
    · show GG p e below T36 (mkF m 56 #[.val (.ref sa), .val (.int (0 : Int32)), .val (.int (4 : Int32)), .val (.ref b2), .val (.int (3 : Int32)), .val (.ref t_33)] [(.ref t_33)]) _
      jvm_step X36.here [X36.here.top, hx, (hb hby d_compress2_56), X36.method', Bd.returns, Value.isRef, FieldType.isReference]
      first | (intro acts; rw [hr _ acts rfl rfl rfl]) | rw [hr _ _ rfl rfl rfl]
      exact Steps.refl _
    · show Q_compB Z sa ks c0 c1 c2 c3 h0 n0 _ T36.heap _
      rw [e36]
      exact ⟨t_33, kb_33, (8 : Int32), [(.int (nar .byte ((c0 >>> ((0 : Int32) &&& 31)).toInt8.toInt32))), (.int (nar .byte ((c0 >>> ((8 : Int32) &&& 31)).toInt8.toInt32))), (.int (nar .byte ((c1 >>> ((0 : Int32) &&& 31)).toInt8.toInt32))), (.int (nar .byte ((c1 >>> ((8 : Int32) &&& 31)).toInt8.toInt32))), (.int (nar .byte ((c2 >>> ((0 : Int32) &&& 31)).toInt8.toInt32))), (.int (nar .byte ((c2 >>> ((8 : Int32) &&& 31)).toInt8.toInt32))), (.int (nar .byte ((c3 >>> ((0 : Int32) &&& 31)).toInt8.toInt32))), (.int (nar .byte ((c3 >>> ((8 : Int32) &&& 31)).toInt8.toInt32)))], rfl, N36, K33, sz_t_33, V_t_33, Or.inr ⟨rfl, rfl⟩⟩
theorem ef_cfl4 (m : MethodId) (x0 : Addr) : entryFrame m #[(.ref x0), (.int (4 : Int32))] 2 = mkF m 0 #[.val (.ref x0), .val (.int (4 : Int32))] [] := by first | (simp [entryFrame, mkF, argsToLocals, Value.category]; done) | rfl
theorem d_coderFromArrayLen_0 : decode jdk_52_method_15_code 0 = .ok (.iload_n 1, 1) := by decide +kernel
theorem d_coderFromArrayLen_1 : decode jdk_52_method_15_code 1 = .ok (.aload_n 0, 1) := by decide +kernel
theorem d_coderFromArrayLen_2 : decode jdk_52_method_15_code 2 = .ok (.arraylength, 1) := by decide +kernel
theorem d_coderFromArrayLen_3 : decode jdk_52_method_15_code 3 = .ok (.isub, 1) := by decide +kernel
theorem d_coderFromArrayLen_4 : decode jdk_52_method_15_code 4 = .ok (.bipush 31, 2) := by decide +kernel
theorem d_coderFromArrayLen_6 : decode jdk_52_method_15_code 6 = .ok (.iushr, 1) := by decide +kernel
theorem d_coderFromArrayLen_7 : decode jdk_52_method_15_code 7 = .ok (.i2b, 1) := by decide +kernel
theorem d_coderFromArrayLen_8 : decode jdk_52_method_15_code 8 = .ok (.ireturn, 1) := by decide +kernel
def Q_cfl4 (Z : State) (tb : Addr) (kb : ClassId) (vs : List Value) (h0 : Heap) (n0 : Nat) (v : Option Value) (h : Heap) (L : List Loc) : Prop := v = some (.int (0 : Int32)) ∧ Fr n0 L ∧ h = h0
set_option maxRecDepth 65536 in
set_option maxHeartbeats 40000000 in
theorem rm_cfl4 (l : Launch) (Z : State) (a0 : Array Value) (hw : ∀ d ∈ tables_1, d.before a0 Z = true) (ws : List Jvm.Cond) (tb : Addr) (kb : ClassId) (vs : List Value) (h0 : Heap) (n0 : Nat) (Z0 : n0 ≤ h0.size) (V_tb : Arv Z h0 tb kb .byte (4 : Int32) vs (.int (0 : Int32))) :
    MetFree l (⟨"java/lang/StringUTF16", "coderFromArrayLen", "([BI)B"⟩ : MethodName) (head1 (Jvm.Cond.code (⟨"java/lang/StringUTF16", "coderFromArrayLen", "([BI)B"⟩ : MethodName) jdk_52_method_15_code 2 (some .byte) :: ws) ({ frames := 0, cells := 0, slots := 0, locals := 0 } : Room)) (fun a U => a = #[(.ref tb), (.int (4 : Int32))] ∧ Z.Warmed39 U.vm ∧ U.heap = h0) (fun _ _ _ _ _ => True) (fun _ U o U' => ∃ v L, o = .returned v ∧ Q_cfl4 Z tb kb vs h0 n0 v U'.heap L ∧ FrameEnd U o U' L ({ frames := 0, cells := 0, slots := 0, locals := 0 } : Room).cells ({ frames := 0, cells := 0, slots := 0, locals := 0 } : Room).slots) := by
  refine MetFree.of_bodySF (plainFor_of_name pn_1) hisR ?_
  intro p e s m args below meth c s₁ Bd hml0 hP hK
  obtain ⟨rfl, hZ, hh⟩ := hP
  have hx := Bd.exec
  have hby := Bd.bytes
  have hml : c.maxLocals = 2 := hml0
  have hown : s.vm.findClass "java/lang/StringUTF16" = some m.cls := findClass_of_methodNamed Bd.named
  have hnm := (name_of_methodNamed Bd.named Bd.method).1
  have X0 : Stand p l e ({ frames := 0, cells := 0, slots := 0, locals := 0 } : Room) s m #[(.ref tb), (.int (4 : Int32))] below meth c s₁ [] 0 0 := Stand.of_body Bd
  have e0 : s₁.heap = h0 := by rw [← hh, Bd.state]; rfl
  have N0 := Fr.nil n0
  obtain ⟨s0, hs0⟩ : ∃ z, z = (s₁.setTop (entryFrame m #[(.ref tb), (.int (4 : Int32))] 2)) := ⟨_, rfl⟩
  have P0 : ∀ t, GG p e below s₁ (mkF m 0 #[.val (.ref tb), .val (.int (4 : Int32))] []) t → Steps p.tables e below s0 t := fun t kk_ => by rw [hs0]; exact castTop (ef_cfl4 m tb) kk_
  have P1 : ∀ t, GG p e below s₁ (mkF m 2 #[.val (.ref tb), .val (.int (4 : Int32))] [(.ref tb), (.int (4 : Int32))]) t → Steps p.tables e below s0 t := fun t kk_ => P0 t (by
    refine XS.iloadN X0.here hx rfl (hb hby d_coderFromArrayLen_0) rfl ?_
    refine XS.aloadN X0.here hx rfl (hb hby d_coderFromArrayLen_1) rfl rfl ?_
    exact kk_)
  obtain ⟨cl2, Ar2, -, S2, M2, -, -⟩ := id V_tb
  have P3 : ∀ t, GG p e below s₁ (mkF m 3 #[.val (.ref tb), .val (.int (4 : Int32))] [(.int (4 : Int32)), (.int (4 : Int32))]) t → Steps p.tables e below s0 t := fun t kk_ => P1 t (by
    refine X0.arraylength hx (by rw [e0]; exact Ar2.1) (State.isArrayOf_alike hZ.alike Ar2.2.1) (g := (mkF m 2 #[.val (.ref tb), .val (.int (4 : Int32))] [(.ref tb), (.int (4 : Int32))])) rfl rfl (hb hby d_coderFromArrayLen_2) _ ?_
    rw [len_of S2 M2]
    exact kk_)
  have P4 : ∀ t, GG p e below s₁ (mkF m 8 #[.val (.ref tb), .val (.int (4 : Int32))] [(.int (0 : Int32))]) t → Steps p.tables e below s0 t := fun t kk_ => P3 t (by
    refine XS.isub X0.here hx rfl (hb hby d_coderFromArrayLen_3) rfl ?_
    refine XS.bipush X0.here hx rfl (hb hby d_coderFromArrayLen_4) ?_
    refine XS.iushr X0.here hx rfl (hb hby d_coderFromArrayLen_6) rfl ?_
    refine XS.i2b X0.here hx rfl (hb hby d_coderFromArrayLen_7) rfl ?_
    exact kk_)
  subst hs0
  obtain ⟨fs, hr, hrun, hended, hW, hsame⟩ := X0.leave (v := some (.int (nar .byte (0 : Int32)))) (fun h => by rw [Bd.returns] at h; cases h)
  refine ⟨_, _, P4 _ ?_, hrun, hended, _, _, rfl, ?_, ⟨_, rfl⟩, hW, hsame.mono (by decide) (by decide)⟩
  · show GG p e below s₁ (mkF m 8 #[.val (.ref tb), .val (.int (4 : Int32))] [(.int (0 : Int32))]) _
    exact retN X0 hx (t := .byte) Bd.returns (by simp) (hb hby d_coderFromArrayLen_8) hr
  · show Q_cfl4 Z tb kb vs h0 n0 _ s₁.heap _
    rw [e0]
    exact ⟨rfl, N0, rfl⟩
theorem ef_cfl8 (m : MethodId) (x0 : Addr) : entryFrame m #[(.ref x0), (.int (4 : Int32))] 2 = mkF m 0 #[.val (.ref x0), .val (.int (4 : Int32))] [] := by first | (simp [entryFrame, mkF, argsToLocals, Value.category]; done) | rfl
def Q_cfl8 (Z : State) (tb : Addr) (kb : ClassId) (vs : List Value) (h0 : Heap) (n0 : Nat) (v : Option Value) (h : Heap) (L : List Loc) : Prop := v = some (.int (1 : Int32)) ∧ Fr n0 L ∧ h = h0
set_option maxRecDepth 65536 in
set_option maxHeartbeats 40000000 in
theorem rm_cfl8 (l : Launch) (Z : State) (a0 : Array Value) (hw : ∀ d ∈ tables_1, d.before a0 Z = true) (ws : List Jvm.Cond) (tb : Addr) (kb : ClassId) (vs : List Value) (h0 : Heap) (n0 : Nat) (Z0 : n0 ≤ h0.size) (V_tb : Arv Z h0 tb kb .byte (8 : Int32) vs (.int (0 : Int32))) :
    MetFree l (⟨"java/lang/StringUTF16", "coderFromArrayLen", "([BI)B"⟩ : MethodName) (head1 (Jvm.Cond.code (⟨"java/lang/StringUTF16", "coderFromArrayLen", "([BI)B"⟩ : MethodName) jdk_52_method_15_code 2 (some .byte) :: ws) ({ frames := 0, cells := 0, slots := 0, locals := 0 } : Room)) (fun a U => a = #[(.ref tb), (.int (4 : Int32))] ∧ Z.Warmed39 U.vm ∧ U.heap = h0) (fun _ _ _ _ _ => True) (fun _ U o U' => ∃ v L, o = .returned v ∧ Q_cfl8 Z tb kb vs h0 n0 v U'.heap L ∧ FrameEnd U o U' L ({ frames := 0, cells := 0, slots := 0, locals := 0 } : Room).cells ({ frames := 0, cells := 0, slots := 0, locals := 0 } : Room).slots) := by
  refine MetFree.of_bodySF (plainFor_of_name pn_1) hisR ?_
  intro p e s m args below meth c s₁ Bd hml0 hP hK
  obtain ⟨rfl, hZ, hh⟩ := hP
  have hx := Bd.exec
  have hby := Bd.bytes
  have hml : c.maxLocals = 2 := hml0
  have hown : s.vm.findClass "java/lang/StringUTF16" = some m.cls := findClass_of_methodNamed Bd.named
  have hnm := (name_of_methodNamed Bd.named Bd.method).1
  have X0 : Stand p l e ({ frames := 0, cells := 0, slots := 0, locals := 0 } : Room) s m #[(.ref tb), (.int (4 : Int32))] below meth c s₁ [] 0 0 := Stand.of_body Bd
  have e0 : s₁.heap = h0 := by rw [← hh, Bd.state]; rfl
  have N0 := Fr.nil n0
  obtain ⟨s0, hs0⟩ : ∃ z, z = (s₁.setTop (entryFrame m #[(.ref tb), (.int (4 : Int32))] 2)) := ⟨_, rfl⟩
  have P0 : ∀ t, GG p e below s₁ (mkF m 0 #[.val (.ref tb), .val (.int (4 : Int32))] []) t → Steps p.tables e below s0 t := fun t kk_ => by rw [hs0]; exact castTop (ef_cfl8 m tb) kk_
  have P1 : ∀ t, GG p e below s₁ (mkF m 2 #[.val (.ref tb), .val (.int (4 : Int32))] [(.ref tb), (.int (4 : Int32))]) t → Steps p.tables e below s0 t := fun t kk_ => P0 t (by
    refine XS.iloadN X0.here hx rfl (hb hby d_coderFromArrayLen_0) rfl ?_
    refine XS.aloadN X0.here hx rfl (hb hby d_coderFromArrayLen_1) rfl rfl ?_
    exact kk_)
  obtain ⟨cl2, Ar2, -, S2, M2, -, -⟩ := id V_tb
  have P3 : ∀ t, GG p e below s₁ (mkF m 3 #[.val (.ref tb), .val (.int (4 : Int32))] [(.int (8 : Int32)), (.int (4 : Int32))]) t → Steps p.tables e below s0 t := fun t kk_ => P1 t (by
    refine X0.arraylength hx (by rw [e0]; exact Ar2.1) (State.isArrayOf_alike hZ.alike Ar2.2.1) (g := (mkF m 2 #[.val (.ref tb), .val (.int (4 : Int32))] [(.ref tb), (.int (4 : Int32))])) rfl rfl (hb hby d_coderFromArrayLen_2) _ ?_
    rw [len_of S2 M2]
    exact kk_)
  have P4 : ∀ t, GG p e below s₁ (mkF m 8 #[.val (.ref tb), .val (.int (4 : Int32))] [(.int (1 : Int32))]) t → Steps p.tables e below s0 t := fun t kk_ => P3 t (by
    refine XS.isub X0.here hx rfl (hb hby d_coderFromArrayLen_3) rfl ?_
    refine XS.bipush X0.here hx rfl (hb hby d_coderFromArrayLen_4) ?_
    refine XS.iushr X0.here hx rfl (hb hby d_coderFromArrayLen_6) rfl ?_
    refine XS.i2b X0.here hx rfl (hb hby d_coderFromArrayLen_7) rfl ?_
    exact kk_)
  subst hs0
  obtain ⟨fs, hr, hrun, hended, hW, hsame⟩ := X0.leave (v := some (.int (nar .byte (1 : Int32)))) (fun h => by rw [Bd.returns] at h; cases h)
  refine ⟨_, _, P4 _ ?_, hrun, hended, _, _, rfl, ?_, ⟨_, rfl⟩, hW, hsame.mono (by decide) (by decide)⟩
  · show GG p e below s₁ (mkF m 8 #[.val (.ref tb), .val (.int (4 : Int32))] [(.int (1 : Int32))]) _
    exact retN X0 hx (t := .byte) Bd.returns (by simp) (hb hby d_coderFromArrayLen_8) hr
  · show Q_cfl8 Z tb kb vs h0 n0 _ s₁.heap _
    rw [e0]
    exact ⟨rfl, N0, rfl⟩
theorem ef_init4 (m : MethodId) (x0 : Addr) (x1 : Addr) : entryFrame m #[(.ref x0), (.ref x1), (.int (0 : Int32)), (.int (4 : Int32)), .null] 6 = mkF m 0 #[.val (.ref x0), .val (.ref x1), .val (.int (0 : Int32)), .val (.int (4 : Int32)), .val .null, .unset] [] := by first | (simp [entryFrame, mkF, argsToLocals, Value.category]; done) | rfl
theorem pn_2 : plainName "java/lang/String" = true := by first | (simp [plainName, overriddenIn]; done) | decide +kernel
theorem d_init_0 : decode jdk_42_method_149_code 0 = .ok (.aload_n 0, 1) := by decide +kernel
theorem d_init_1 : decode jdk_42_method_149_code 1 = .ok (.invokespecial 1, 3) := by decide +kernel
theorem d_init_4 : decode jdk_42_method_149_code 4 = .ok (.iload_n 3, 1) := by decide +kernel
theorem d_init_5 : decode jdk_42_method_149_code 5 = .ok (.ifCond .ne 22, 3) := by decide +kernel
theorem d_init_27 : decode jdk_42_method_149_code 27 = .ok (.getstatic 38, 3) := by decide +kernel
theorem d_init_30 : decode jdk_42_method_149_code 30 = .ok (.ifCond .eq 28, 3) := by decide +kernel
theorem d_init_33 : decode jdk_42_method_149_code 33 = .ok (.aload_n 1, 1) := by decide +kernel
theorem d_init_34 : decode jdk_42_method_149_code 34 = .ok (.iload_n 2, 1) := by decide +kernel
theorem d_init_35 : decode jdk_42_method_149_code 35 = .ok (.iload_n 3, 1) := by decide +kernel
theorem d_init_36 : decode jdk_42_method_149_code 36 = .ok (.invokestatic 177, 3) := by decide +kernel
abbrev mn_6 : MethodName := ⟨"java/lang/StringUTF16", "compress", "([CII)[B"⟩
theorem d_init_39 : decode jdk_42_method_149_code 39 = .ok (.astore 5, 2) := by decide +kernel
theorem d_init_41 : decode jdk_42_method_149_code 41 = .ok (.aload_n 0, 1) := by decide +kernel
theorem d_init_42 : decode jdk_42_method_149_code 42 = .ok (.aload 5, 2) := by decide +kernel
theorem d_init_44 : decode jdk_42_method_149_code 44 = .ok (.iload_n 3, 1) := by decide +kernel
theorem pd_6 : parseMethodDescriptor "([BI)B" = some ⟨[(.array .byte), .int], some .byte⟩ := by decide +kernel
theorem d_init_45 : decode jdk_42_method_149_code 45 = .ok (.invokestatic 47, 3) := by decide +kernel
abbrev mn_7 : MethodName := ⟨"java/lang/StringUTF16", "coderFromArrayLen", "([BI)B"⟩
theorem d_init_48 : decode jdk_42_method_149_code 48 = .ok (.putfield 15, 3) := by decide +kernel
theorem d_init_51 : decode jdk_42_method_149_code 51 = .ok (.aload_n 0, 1) := by decide +kernel
theorem d_init_52 : decode jdk_42_method_149_code 52 = .ok (.aload 5, 2) := by decide +kernel
theorem d_init_54 : decode jdk_42_method_149_code 54 = .ok (.putfield 9, 3) := by decide +kernel
theorem d_init_57 : decode jdk_42_method_149_code 57 = .ok (.return_, 1) := by decide +kernel
def Q_init4 (Z : State) (xs : Addr) (sa : Addr) (ks : ClassId) (u1 : Value) (u2 : Value) (G1 : Int32) (c0 : Int32) (c1 : Int32) (c2 : Int32) (c3 : Int32) (h0 : Heap) (n0 : Nat) (v : Option Value) (h : Heap) (L : List Loc) : Prop := ∃ (t : Addr) (kb : ClassId) (cd : Int32) (nB : Int32) (vs : List Value), v = none ∧ Fr n0 L ∧ Keep h0 h [xs] ∧ (h0.size ≤ t) ∧ (Exa Z h xs "java/lang/String") ∧ (Fld Z h xs "java/lang/String" "value" "[B" (.ref t)) ∧ (Fld Z h xs "java/lang/String" "coder" "B" (.int cd)) ∧ (Arv Z h t kb .byte nB vs (.int (0 : Int32))) ∧ (Str4 c0 c1 c2 c3 cd nB vs)
set_option maxRecDepth 65536 in
set_option maxHeartbeats 40000000 in
theorem rm_init4 (l : Launch) (Z : State) (a0 : Array Value) (hw : ∀ d ∈ tables_1, d.before a0 Z = true) (ws : List Jvm.Cond) (xs : Addr) (sa : Addr) (ks : ClassId) (u1 : Value) (u2 : Value) (G1 : Int32) (c0 : Int32) (c1 : Int32) (c2 : Int32) (c3 : Int32) (h0 : Heap) (n0 : Nat) (Z0 : n0 ≤ h0.size) (E_xs : Exa Z h0 xs "java/lang/String") (F_value_xs : Fld Z h0 xs "java/lang/String" "value" "[B" u1) (F_coder_xs : Fld Z h0 xs "java/lang/String" "coder" "B" u2) (g_xs : n0 ≤ xs) (V_sa : Arv Z h0 sa ks .char (4 : Int32) [(.int c0), (.int c1), (.int c2), (.int c3)] (.int (0 : Int32))) (ne_xs_sa : xs ≠ sa) (S_COMPACT_STRINGS : Sta Z Z.heap "java/lang/String" "COMPACT_STRINGS" "Z" (.int G1)) (S__assertionsDisabled : Sta Z Z.heap "java/lang/StringUTF16" "$assertionsDisabled" "Z" (.int (1 : Int32))) (S_HI_BYTE_SHIFT : Sta Z Z.heap "java/lang/StringUTF16" "HI_BYTE_SHIFT" "I" (.int (0 : Int32))) (S_LO_BYTE_SHIFT : Sta Z Z.heap "java/lang/StringUTF16" "LO_BYTE_SHIFT" "I" (.int (8 : Int32))) (OL : Old Z n0 h0) (hz : ¬ G1 = 0) (ic0 : isC c0) (ic1 : isC c1) (ic2 : isC c2) (ic3 : isC c3) :
    MetFree l (⟨"java/lang/String", "<init>", "([CIILjava/lang/Void;)V"⟩ : MethodName) (head1 (Jvm.Cond.code (⟨"java/lang/String", "<init>", "([CIILjava/lang/Void;)V"⟩ : MethodName) jdk_42_method_149_code 6 none :: ws) ({ frames := 4, cells := 2, slots := 12, locals := 57 } : Room)) (fun a U => a = #[(.ref xs), (.ref sa), (.int (0 : Int32)), (.int (4 : Int32)), .null] ∧ Z.Warmed39 U.vm ∧ U.heap = h0) (fun _ _ _ _ _ => True) (fun _ U o U' => ∃ v L, o = .returned v ∧ Q_init4 Z xs sa ks u1 u2 G1 c0 c1 c2 c3 h0 n0 v U'.heap L ∧ FrameEnd U o U' L ({ frames := 4, cells := 2, slots := 12, locals := 57 } : Room).cells ({ frames := 4, cells := 2, slots := 12, locals := 57 } : Room).slots) := by
  refine MetFree.of_bodySF (plainFor_of_name pn_2) hisR ?_
  intro p e s m args below meth c s₁ Bd hml0 hP hK
  obtain ⟨rfl, hZ, hh⟩ := hP
  have hx := Bd.exec
  have hby := Bd.bytes
  have hml : c.maxLocals = 6 := hml0
  have hown : s.vm.findClass "java/lang/String" = some m.cls := findClass_of_methodNamed Bd.named
  have hnm := (name_of_methodNamed Bd.named Bd.method).1
  have X0 : Stand p l e ({ frames := 4, cells := 2, slots := 12, locals := 57 } : Room) s m #[(.ref xs), (.ref sa), (.int (0 : Int32)), (.int (4 : Int32)), .null] below meth c s₁ [] 0 0 := Stand.of_body Bd
  have e0 : s₁.heap = h0 := by rw [← hh, Bd.state]; rfl
  have N0 := Fr.nil n0
  obtain ⟨s0, hs0⟩ : ∃ z, z = (s₁.setTop (entryFrame m #[(.ref xs), (.ref sa), (.int (0 : Int32)), (.int (4 : Int32)), .null] 6)) := ⟨_, rfl⟩
  have P0 : ∀ t, GG p e below s₁ (mkF m 0 #[.val (.ref xs), .val (.ref sa), .val (.int (0 : Int32)), .val (.int (4 : Int32)), .val .null, .unset] []) t → Steps p.tables e below s0 t := fun t kk_ => by rw [hs0]; exact castTop (ef_init4 m xs sa) kk_
  have P1 : ∀ t, GG p e below s₁ (mkF m 1 #[.val (.ref xs), .val (.ref sa), .val (.int (0 : Int32)), .val (.int (4 : Int32)), .val .null, .unset] [(.ref xs)]) t → Steps p.tables e below s0 t := fun t kk_ => P0 t (by
    refine XS.aloadN X0.here hx rfl (hb hby d_init_0) rfl rfl ?_
    exact kk_)
  obtain ⟨T2, X2, e2, st2⟩ := initO X0 hx hZ hown (ww hw 16 rfl) (ww hw 17 rfl) (ww hw 18 rfl) e0 (g := (mkF m 1 #[.val (.ref xs), .val (.ref sa), .val (.int (0 : Int32)), .val (.int (4 : Int32)), .val .null, .unset] [(.ref xs)])) rfl (by rw [hml]; rfl) rfl (hb hby d_init_1) (by decide) (W := 0) (by show 2 * 0 + _ ≤ _; exact Nat.le_of_eq rfl) (by decide)
  have P3 : ∀ t, GG p e below T2 (mkF m 4 #[.val (.ref xs), .val (.ref sa), .val (.int (0 : Int32)), .val (.int (4 : Int32)), .val .null, .unset] []) t → Steps p.tables e below s0 t := fun t kk_ => P1 t (st2 _ kk_)
  have P4 : ∀ t, GG p e below T2 (mkF m 27 #[.val (.ref xs), .val (.ref sa), .val (.int (0 : Int32)), .val (.int (4 : Int32)), .val .null, .unset] []) t → Steps p.tables e below s0 t := fun t kk_ => P3 t (by
    refine XS.iloadN X2.here hx rfl (hb hby d_init_4) rfl ?_
    refine XS.ifYes X2.here hx rfl (pc0 := 5) (pc' := 27) rfl (hb hby d_init_5) rfl ((if0 _ _).trans (feq ((by decide) : ¬ ((4 : Int32) = (0 : Int32)))).2) (by decide) (by decide) ?_
    exact kk_)
  obtain ⟨T5, X5, e5, st5⟩ := getS2 X2 hx hZ hown (host := "") (Or.inl (ww hw 19 rfl)) Via.refl e2 (S_COMPACT_STRINGS.ext OL.2) (g := (mkF m 27 #[.val (.ref xs), .val (.ref sa), .val (.int (0 : Int32)), .val (.int (4 : Int32)), .val .null, .unset] [])) rfl (hb hby d_init_27)
  have P6 : ∀ t, GG p e below T5 (mkF m 30 #[.val (.ref xs), .val (.ref sa), .val (.int (0 : Int32)), .val (.int (4 : Int32)), .val .null, .unset] [(.int G1)]) t → Steps p.tables e below s0 t := fun t kk_ => P4 t (st5 _ kk_)
  have P7 : ∀ t, GG p e below T5 (mkF m 36 #[.val (.ref xs), .val (.ref sa), .val (.int (0 : Int32)), .val (.int (4 : Int32)), .val .null, .unset] [(.int (4 : Int32)), (.int (0 : Int32)), (.ref sa)]) t → Steps p.tables e below s0 t := fun t kk_ => P6 t (by
    refine XS.ifNo X5.here hx rfl (hb hby d_init_30) rfl ((if0 _ _).trans (feq (hz : ¬ (G1 = (0 : Int32)))).1) ?_
    refine XS.aloadN X5.here hx rfl (hb hby d_init_33) rfl rfl ?_
    refine XS.iloadN X5.here hx rfl (hb hby d_init_34) rfl ?_
    refine XS.iloadN X5.here hx rfl (hb hby d_init_35) rfl ?_
    exact kk_)
  obtain ⟨_, _, ⟨T8, L8, k8, n8⟩, -, X8, ⟨Lc8, hQ8, l8, y8, z8⟩, st8⟩ := Jvm.LawKit.callS X5 hx (y := mn_6) hown (mw hZ hw 20 rfl) (mw hZ hw 21 rfl) (mw hZ hw 22 rfl) (mw hZ hw 23 rfl) (by decide) (backOf (W := 0) (rm_compB l Z a0 hw [] sa ks c0 c1 c2 c3 h0 n0 (Nat.le_trans Z0 (Nat.le_refl h0.size)) V_sa S__assertionsDisabled S_HI_BYTE_SHIFT S_LO_BYTE_SHIFT OL ic0 ic1 ic2 ic3) hZ (ww hw 23 rfl) (ww hw 22 rfl) (by decide) (by decide)) (g := (mkF m 36 #[.val (.ref xs), .val (.ref sa), .val (.int (0 : Int32)), .val (.int (4 : Int32)), .val .null, .unset] [(.int (4 : Int32)), (.int (0 : Int32)), (.ref sa)])) rfl (by rw [hml]; rfl) (argsL := [(.ref sa), (.int (0 : Int32)), (.int (4 : Int32))]) (rest := []) (lenOf pd_4 rfl) rfl (by show 2 * 0 + _ ≤ _; exact Nat.le_of_eq rfl) (hb hby d_init_36) (fun _ _ => ⟨rfl, e5, (by decide : 0 + 2 ≤ _), (by decide : 0 + 12 ≤ _)⟩)
  dsimp only [Pt.U, Pt.locs, Pt.cells, Pt.slots] at X8 l8 y8 z8 st8 hQ8
  subst l8 y8 z8
  obtain ⟨t_8, kb_8, nB_8, vs_8, rfl, N8q, Kc8, po8_0, po8_1, po8_2⟩ := hQ8
  have N8 := Fr.app N0 N8q
  have P9 : ∀ t, GG p e below T8 (mkF m 39 #[.val (.ref xs), .val (.ref sa), .val (.int (0 : Int32)), .val (.int (4 : Int32)), .val .null, .unset] [(.ref t_8)]) t → Steps p.tables e below s0 t := fun t kk_ => P7 t (st8 _ kk_)
  have ne_xs_t_8 : xs ≠ t_8 := Nat.ne_of_lt (Nat.lt_of_lt_of_le E_xs.lt po8_0)
  have ne_sa_t_8 : sa ≠ t_8 := Nat.ne_of_lt (Nat.lt_of_lt_of_le V_sa.lt po8_0)
  have sz_t_8 : h0.size ≤ t_8 := Nat.le_trans (Nat.le_refl h0.size) po8_0
  replace E_xs : Exa Z T8.heap xs "java/lang/String" := E_xs.keep Kc8
  replace F_value_xs : Fld Z T8.heap xs "java/lang/String" "value" "[B" u1 := F_value_xs.keep Kc8 nin0
  replace F_coder_xs : Fld Z T8.heap xs "java/lang/String" "coder" "B" u2 := F_coder_xs.keep Kc8 nin0
  replace V_sa : Arv Z T8.heap sa ks .char (4 : Int32) [(.int c0), (.int c1), (.int c2), (.int c3)] (.int (0 : Int32)) := V_sa.keep Kc8 nin0
  replace OL : Old Z n0 T8.heap := OL.keep Kc8 all0
  have K8 : Keep h0 T8.heap [xs] := (Keep.refl h0 [xs]).trans Kc8 all0
  have V_t_8 : Arv Z T8.heap t_8 kb_8 .byte nB_8 vs_8 (.int (0 : Int32)) := po8_1
  have res_8 := po8_2
  rcases res_8 with hcase | hcase
  ·
    obtain ⟨rfl, rfl, hla⟩ := hcase
    have P10 : ∀ t, GG p e below T8 (mkF m 45 #[.val (.ref xs), .val (.ref sa), .val (.int (0 : Int32)), .val (.int (4 : Int32)), .val .null, .val (.ref t_8)] [(.int (4 : Int32)), (.ref t_8), (.ref xs)]) t → Steps p.tables e below s0 t := fun t kk_ => P9 t (by
      refine XS.astore X8.here hx rfl (hb hby d_init_39) rfl rfl (l' := #[.val (.ref xs), .val (.ref sa), .val (.int (0 : Int32)), .val (.int (4 : Int32)), .val .null, .val (.ref t_8)]) rfl ?_
      refine XS.aloadN X8.here hx rfl (hb hby d_init_41) rfl rfl ?_
      refine XS.aload X8.here hx rfl (hb hby d_init_42) rfl rfl ?_
      refine XS.iloadN X8.here hx rfl (hb hby d_init_44) rfl ?_
      exact kk_)
    obtain ⟨_, _, ⟨T11, L11, k11, n11⟩, -, X11, ⟨Lc11, hQ11, l11, y11, z11⟩, st11⟩ := Jvm.LawKit.callS X8 hx (y := mn_7) hown (mw hZ hw 47 rfl) (mw hZ hw 48 rfl) (mw hZ hw 22 rfl) (mw hZ hw 49 rfl) (by decide) (backOf (W := 1) (rm_cfl4 l Z a0 hw [] t_8 kb_8 [(.int (nar .byte (c0.toInt8.toInt32))), (.int (nar .byte (c1.toInt8.toInt32))), (.int (nar .byte (c2.toInt8.toInt32))), (.int (nar .byte (c3.toInt8.toInt32)))] T8.heap n0 (Nat.le_trans Z0 K8.1) V_t_8) hZ (ww hw 49 rfl) (ww hw 22 rfl) (by decide) (by decide)) (g := (mkF m 45 #[.val (.ref xs), .val (.ref sa), .val (.int (0 : Int32)), .val (.int (4 : Int32)), .val .null, .val (.ref t_8)] [(.int (4 : Int32)), (.ref t_8), (.ref xs)])) rfl (by rw [hml]; rfl) (argsL := [(.ref t_8), (.int (4 : Int32))]) (rest := [(.ref xs)]) (lenOf pd_6 rfl) rfl (by show 2 * 0 + _ ≤ _; exact Nat.le_of_eq rfl) (hb hby d_init_45) (fun _ _ => ⟨rfl, rfl, (by decide : 2 + 0 ≤ _), (by decide : 12 + 0 ≤ _)⟩)
    dsimp only [Pt.U, Pt.locs, Pt.cells, Pt.slots] at X11 l11 y11 z11 st11 hQ11
    subst l11 y11 z11
    obtain ⟨rfl, N11q, e11⟩ := hQ11
    have N11 := Fr.app N8 N11q
    have P12 : ∀ t, GG p e below T11 (mkF m 48 #[.val (.ref xs), .val (.ref sa), .val (.int (0 : Int32)), .val (.int (4 : Int32)), .val .null, .val (.ref t_8)] [(.int (0 : Int32)), (.ref xs)]) t → Steps p.tables e below s0 t := fun t kk_ => P10 t (st11 _ kk_)
    obtain ⟨T13, h13, X13, e13, W13, st13⟩ := putFN X11 hx hZ hown (ww hw 50 rfl) Via.refl e11 F_coder_xs E_xs (Or.inr ⟨(ww hw 51 rfl), rfl, hnm⟩) (ww hw 7 rfl) (ty := .byte) (v' := (.int (0 : Int32))) (by decide) rfl (rfl) (g := (mkF m 48 #[.val (.ref xs), .val (.ref sa), .val (.int (0 : Int32)), .val (.int (4 : Int32)), .val .null, .val (.ref t_8)] [(.int (0 : Int32)), (.ref xs)])) rfl rfl (hb hby d_init_48)
    have P14 : ∀ t, GG p e below T13 (mkF m 51 #[.val (.ref xs), .val (.ref sa), .val (.int (0 : Int32)), .val (.int (4 : Int32)), .val .null, .val (.ref t_8)] []) t → Steps p.tables e below s0 t := fun t kk_ => P12 t (st13 _ kk_)
    have N13 := Fr.snoc X13 N11 g_xs
    have K13 : Keep h0 h13 [xs] := K8.wr W13 (Or.inl (List.mem_of_getElem? (i := 0) rfl))
    replace E_xs : Exa Z h13 xs "java/lang/String" := E_xs.wr W13
    replace F_value_xs : Fld Z h13 xs "java/lang/String" "value" "[B" u1 := F_value_xs.other W13 (Or.inr (slot_ne (Or.inr (ww hw 53 rfl)) (Or.inr (ww hw 51 rfl)) (by decide) (t := (.array .byte)) (t' := .byte) (by decide) (by decide)))
    replace F_coder_xs : Fld Z h13 xs "java/lang/String" "coder" "B" (.int (0 : Int32)) := F_coder_xs.same W13
    replace V_sa : Arv Z h13 sa ks .char (4 : Int32) [(.int c0), (.int c1), (.int c2), (.int c3)] (.int (0 : Int32)) := V_sa.other W13 (Ne.symm ne_xs_sa)
    replace OL : Old Z n0 h13 := OL.wr W13 g_xs
    replace V_t_8 : Arv Z h13 t_8 kb_8 .byte (4 : Int32) [(.int (nar .byte (c0.toInt8.toInt32))), (.int (nar .byte (c1.toInt8.toInt32))), (.int (nar .byte (c2.toInt8.toInt32))), (.int (nar .byte (c3.toInt8.toInt32)))] (.int (0 : Int32)) := V_t_8.other W13 (Ne.symm ne_xs_t_8)
    have P15 : ∀ t, GG p e below T13 (mkF m 54 #[.val (.ref xs), .val (.ref sa), .val (.int (0 : Int32)), .val (.int (4 : Int32)), .val .null, .val (.ref t_8)] [(.ref t_8), (.ref xs)]) t → Steps p.tables e below s0 t := fun t kk_ => P14 t (by
      refine XS.aloadN X13.here hx rfl (hb hby d_init_51) rfl rfl ?_
      refine XS.aload X13.here hx rfl (hb hby d_init_52) rfl rfl ?_
      exact kk_)
    obtain ⟨T16, h16, X16, e16, W16, st16⟩ := putF X13 hx hZ hown (host := "") (Or.inl (ww hw 52 rfl)) Via.refl e13 F_value_xs E_xs (Or.inr ⟨(ww hw 53 rfl), rfl, hnm⟩) (ww hw 7 rfl) (ty := (.array .byte)) (by decide) rfl rfl (g := (mkF m 54 #[.val (.ref xs), .val (.ref sa), .val (.int (0 : Int32)), .val (.int (4 : Int32)), .val .null, .val (.ref t_8)] [(.ref t_8), (.ref xs)])) rfl rfl (hb hby d_init_54)
    have P17 : ∀ t, GG p e below T16 (mkF m 57 #[.val (.ref xs), .val (.ref sa), .val (.int (0 : Int32)), .val (.int (4 : Int32)), .val .null, .val (.ref t_8)] []) t → Steps p.tables e below s0 t := fun t kk_ => P15 t (st16 _ kk_)
    have N16 := Fr.snoc X16 N13 g_xs
    have K16 : Keep h0 h16 [xs] := K13.wr W16 (Or.inl (List.mem_of_getElem? (i := 0) rfl))
    replace E_xs : Exa Z h16 xs "java/lang/String" := E_xs.wr W16
    replace F_value_xs : Fld Z h16 xs "java/lang/String" "value" "[B" (.ref t_8) := F_value_xs.same W16
    replace F_coder_xs : Fld Z h16 xs "java/lang/String" "coder" "B" (.int (0 : Int32)) := F_coder_xs.other W16 (Or.inr (slot_ne (Or.inr (ww hw 51 rfl)) (Or.inr (ww hw 53 rfl)) (by decide) (t := .byte) (t' := (.array .byte)) (by decide) (by decide)))
    replace V_sa : Arv Z h16 sa ks .char (4 : Int32) [(.int c0), (.int c1), (.int c2), (.int c3)] (.int (0 : Int32)) := V_sa.other W16 (Ne.symm ne_xs_sa)
    replace OL : Old Z n0 h16 := OL.wr W16 g_xs
    replace V_t_8 : Arv Z h16 t_8 kb_8 .byte (4 : Int32) [(.int (nar .byte (c0.toInt8.toInt32))), (.int (nar .byte (c1.toInt8.toInt32))), (.int (nar .byte (c2.toInt8.toInt32))), (.int (nar .byte (c3.toInt8.toInt32)))] (.int (0 : Int32)) := V_t_8.other W16 (Ne.symm ne_xs_t_8)
    subst hs0
    obtain ⟨fs, hr, hrun, hended, hW, hsame⟩ := X16.leave (v := none) (fun _ => rfl)
    refine ⟨_, _, P17 _ ?_, hrun, hended, _, _, rfl, ?_, ⟨_, rfl⟩, hW, hsame.mono (by decide) (by decide)⟩
    · show GG p e below T16 (mkF m 57 #[.val (.ref xs), .val (.ref sa), .val (.int (0 : Int32)), .val (.int (4 : Int32)), .val .null, .val (.ref t_8)] []) _
      exact X16.returnOut hx Bd.returns (hb hby d_init_57) hr
    · show Q_init4 Z xs sa ks u1 u2 G1 c0 c1 c2 c3 h0 n0 _ T16.heap _
      rw [e16]
      exact ⟨t_8, kb_8, (0 : Int32), (4 : Int32), [(.int (nar .byte (c0.toInt8.toInt32))), (.int (nar .byte (c1.toInt8.toInt32))), (.int (nar .byte (c2.toInt8.toInt32))), (.int (nar .byte (c3.toInt8.toInt32)))], rfl, N16, K16, sz_t_8, E_xs, F_value_xs, F_coder_xs, V_t_8, Or.inl ⟨rfl, rfl, rfl, hla⟩⟩
  ·
    obtain ⟨rfl, rfl⟩ := hcase
    have P18 : ∀ t, GG p e below T8 (mkF m 45 #[.val (.ref xs), .val (.ref sa), .val (.int (0 : Int32)), .val (.int (4 : Int32)), .val .null, .val (.ref t_8)] [(.int (4 : Int32)), (.ref t_8), (.ref xs)]) t → Steps p.tables e below s0 t := fun t kk_ => P9 t (by
      refine XS.astore X8.here hx rfl (hb hby d_init_39) rfl rfl (l' := #[.val (.ref xs), .val (.ref sa), .val (.int (0 : Int32)), .val (.int (4 : Int32)), .val .null, .val (.ref t_8)]) rfl ?_
      refine XS.aloadN X8.here hx rfl (hb hby d_init_41) rfl rfl ?_
      refine XS.aload X8.here hx rfl (hb hby d_init_42) rfl rfl ?_
      refine XS.iloadN X8.here hx rfl (hb hby d_init_44) rfl ?_
      exact kk_)
    obtain ⟨_, _, ⟨T19, L19, k19, n19⟩, -, X19, ⟨Lc19, hQ19, l19, y19, z19⟩, st19⟩ := Jvm.LawKit.callS X8 hx (y := mn_7) hown (mw hZ hw 47 rfl) (mw hZ hw 48 rfl) (mw hZ hw 22 rfl) (mw hZ hw 49 rfl) (by decide) (backOf (W := 1) (rm_cfl8 l Z a0 hw [] t_8 kb_8 [(.int (nar .byte ((c0 >>> ((0 : Int32) &&& 31)).toInt8.toInt32))), (.int (nar .byte ((c0 >>> ((8 : Int32) &&& 31)).toInt8.toInt32))), (.int (nar .byte ((c1 >>> ((0 : Int32) &&& 31)).toInt8.toInt32))), (.int (nar .byte ((c1 >>> ((8 : Int32) &&& 31)).toInt8.toInt32))), (.int (nar .byte ((c2 >>> ((0 : Int32) &&& 31)).toInt8.toInt32))), (.int (nar .byte ((c2 >>> ((8 : Int32) &&& 31)).toInt8.toInt32))), (.int (nar .byte ((c3 >>> ((0 : Int32) &&& 31)).toInt8.toInt32))), (.int (nar .byte ((c3 >>> ((8 : Int32) &&& 31)).toInt8.toInt32)))] T8.heap n0 (Nat.le_trans Z0 K8.1) V_t_8) hZ (ww hw 49 rfl) (ww hw 22 rfl) (by decide) (by decide)) (g := (mkF m 45 #[.val (.ref xs), .val (.ref sa), .val (.int (0 : Int32)), .val (.int (4 : Int32)), .val .null, .val (.ref t_8)] [(.int (4 : Int32)), (.ref t_8), (.ref xs)])) rfl (by rw [hml]; rfl) (argsL := [(.ref t_8), (.int (4 : Int32))]) (rest := [(.ref xs)]) (lenOf pd_6 rfl) rfl (by show 2 * 0 + _ ≤ _; exact Nat.le_of_eq rfl) (hb hby d_init_45) (fun _ _ => ⟨rfl, rfl, (by decide : 2 + 0 ≤ _), (by decide : 12 + 0 ≤ _)⟩)
    dsimp only [Pt.U, Pt.locs, Pt.cells, Pt.slots] at X19 l19 y19 z19 st19 hQ19
    subst l19 y19 z19
    obtain ⟨rfl, N19q, e19⟩ := hQ19
    have N19 := Fr.app N8 N19q
    have P20 : ∀ t, GG p e below T19 (mkF m 48 #[.val (.ref xs), .val (.ref sa), .val (.int (0 : Int32)), .val (.int (4 : Int32)), .val .null, .val (.ref t_8)] [(.int (1 : Int32)), (.ref xs)]) t → Steps p.tables e below s0 t := fun t kk_ => P18 t (st19 _ kk_)
    obtain ⟨T21, h21, X21, e21, W21, st21⟩ := putFN X19 hx hZ hown (ww hw 50 rfl) Via.refl e19 F_coder_xs E_xs (Or.inr ⟨(ww hw 51 rfl), rfl, hnm⟩) (ww hw 7 rfl) (ty := .byte) (v' := (.int (1 : Int32))) (by decide) rfl (rfl) (g := (mkF m 48 #[.val (.ref xs), .val (.ref sa), .val (.int (0 : Int32)), .val (.int (4 : Int32)), .val .null, .val (.ref t_8)] [(.int (1 : Int32)), (.ref xs)])) rfl rfl (hb hby d_init_48)
    have P22 : ∀ t, GG p e below T21 (mkF m 51 #[.val (.ref xs), .val (.ref sa), .val (.int (0 : Int32)), .val (.int (4 : Int32)), .val .null, .val (.ref t_8)] []) t → Steps p.tables e below s0 t := fun t kk_ => P20 t (st21 _ kk_)
    have N21 := Fr.snoc X21 N19 g_xs
    have K21 : Keep h0 h21 [xs] := K8.wr W21 (Or.inl (List.mem_of_getElem? (i := 0) rfl))
    replace E_xs : Exa Z h21 xs "java/lang/String" := E_xs.wr W21
    replace F_value_xs : Fld Z h21 xs "java/lang/String" "value" "[B" u1 := F_value_xs.other W21 (Or.inr (slot_ne (Or.inr (ww hw 53 rfl)) (Or.inr (ww hw 51 rfl)) (by decide) (t := (.array .byte)) (t' := .byte) (by decide) (by decide)))
    replace F_coder_xs : Fld Z h21 xs "java/lang/String" "coder" "B" (.int (1 : Int32)) := F_coder_xs.same W21
    replace V_sa : Arv Z h21 sa ks .char (4 : Int32) [(.int c0), (.int c1), (.int c2), (.int c3)] (.int (0 : Int32)) := V_sa.other W21 (Ne.symm ne_xs_sa)
    replace OL : Old Z n0 h21 := OL.wr W21 g_xs
    replace V_t_8 : Arv Z h21 t_8 kb_8 .byte (8 : Int32) [(.int (nar .byte ((c0 >>> ((0 : Int32) &&& 31)).toInt8.toInt32))), (.int (nar .byte ((c0 >>> ((8 : Int32) &&& 31)).toInt8.toInt32))), (.int (nar .byte ((c1 >>> ((0 : Int32) &&& 31)).toInt8.toInt32))), (.int (nar .byte ((c1 >>> ((8 : Int32) &&& 31)).toInt8.toInt32))), (.int (nar .byte ((c2 >>> ((0 : Int32) &&& 31)).toInt8.toInt32))), (.int (nar .byte ((c2 >>> ((8 : Int32) &&& 31)).toInt8.toInt32))), (.int (nar .byte ((c3 >>> ((0 : Int32) &&& 31)).toInt8.toInt32))), (.int (nar .byte ((c3 >>> ((8 : Int32) &&& 31)).toInt8.toInt32)))] (.int (0 : Int32)) := V_t_8.other W21 (Ne.symm ne_xs_t_8)
    have P23 : ∀ t, GG p e below T21 (mkF m 54 #[.val (.ref xs), .val (.ref sa), .val (.int (0 : Int32)), .val (.int (4 : Int32)), .val .null, .val (.ref t_8)] [(.ref t_8), (.ref xs)]) t → Steps p.tables e below s0 t := fun t kk_ => P22 t (by
      refine XS.aloadN X21.here hx rfl (hb hby d_init_51) rfl rfl ?_
      refine XS.aload X21.here hx rfl (hb hby d_init_52) rfl rfl ?_
      exact kk_)
    obtain ⟨T24, h24, X24, e24, W24, st24⟩ := putF X21 hx hZ hown (host := "") (Or.inl (ww hw 52 rfl)) Via.refl e21 F_value_xs E_xs (Or.inr ⟨(ww hw 53 rfl), rfl, hnm⟩) (ww hw 7 rfl) (ty := (.array .byte)) (by decide) rfl rfl (g := (mkF m 54 #[.val (.ref xs), .val (.ref sa), .val (.int (0 : Int32)), .val (.int (4 : Int32)), .val .null, .val (.ref t_8)] [(.ref t_8), (.ref xs)])) rfl rfl (hb hby d_init_54)
    have P25 : ∀ t, GG p e below T24 (mkF m 57 #[.val (.ref xs), .val (.ref sa), .val (.int (0 : Int32)), .val (.int (4 : Int32)), .val .null, .val (.ref t_8)] []) t → Steps p.tables e below s0 t := fun t kk_ => P23 t (st24 _ kk_)
    have N24 := Fr.snoc X24 N21 g_xs
    have K24 : Keep h0 h24 [xs] := K21.wr W24 (Or.inl (List.mem_of_getElem? (i := 0) rfl))
    replace E_xs : Exa Z h24 xs "java/lang/String" := E_xs.wr W24
    replace F_value_xs : Fld Z h24 xs "java/lang/String" "value" "[B" (.ref t_8) := F_value_xs.same W24
    replace F_coder_xs : Fld Z h24 xs "java/lang/String" "coder" "B" (.int (1 : Int32)) := F_coder_xs.other W24 (Or.inr (slot_ne (Or.inr (ww hw 51 rfl)) (Or.inr (ww hw 53 rfl)) (by decide) (t := .byte) (t' := (.array .byte)) (by decide) (by decide)))
    replace V_sa : Arv Z h24 sa ks .char (4 : Int32) [(.int c0), (.int c1), (.int c2), (.int c3)] (.int (0 : Int32)) := V_sa.other W24 (Ne.symm ne_xs_sa)
    replace OL : Old Z n0 h24 := OL.wr W24 g_xs
    replace V_t_8 : Arv Z h24 t_8 kb_8 .byte (8 : Int32) [(.int (nar .byte ((c0 >>> ((0 : Int32) &&& 31)).toInt8.toInt32))), (.int (nar .byte ((c0 >>> ((8 : Int32) &&& 31)).toInt8.toInt32))), (.int (nar .byte ((c1 >>> ((0 : Int32) &&& 31)).toInt8.toInt32))), (.int (nar .byte ((c1 >>> ((8 : Int32) &&& 31)).toInt8.toInt32))), (.int (nar .byte ((c2 >>> ((0 : Int32) &&& 31)).toInt8.toInt32))), (.int (nar .byte ((c2 >>> ((8 : Int32) &&& 31)).toInt8.toInt32))), (.int (nar .byte ((c3 >>> ((0 : Int32) &&& 31)).toInt8.toInt32))), (.int (nar .byte ((c3 >>> ((8 : Int32) &&& 31)).toInt8.toInt32)))] (.int (0 : Int32)) := V_t_8.other W24 (Ne.symm ne_xs_t_8)
    subst hs0
    obtain ⟨fs, hr, hrun, hended, hW, hsame⟩ := X24.leave (v := none) (fun _ => rfl)
    refine ⟨_, _, P25 _ ?_, hrun, hended, _, _, rfl, ?_, ⟨_, rfl⟩, hW, hsame.mono (by decide) (by decide)⟩
    · show GG p e below T24 (mkF m 57 #[.val (.ref xs), .val (.ref sa), .val (.int (0 : Int32)), .val (.int (4 : Int32)), .val .null, .val (.ref t_8)] []) _
      exact X24.returnOut hx Bd.returns (hb hby d_init_57) hr
    · show Q_init4 Z xs sa ks u1 u2 G1 c0 c1 c2 c3 h0 n0 _ T24.heap _
      rw [e24]
      exact ⟨t_8, kb_8, (1 : Int32), (8 : Int32), [(.int (nar .byte ((c0 >>> ((0 : Int32) &&& 31)).toInt8.toInt32))), (.int (nar .byte ((c0 >>> ((8 : Int32) &&& 31)).toInt8.toInt32))), (.int (nar .byte ((c1 >>> ((0 : Int32) &&& 31)).toInt8.toInt32))), (.int (nar .byte ((c1 >>> ((8 : Int32) &&& 31)).toInt8.toInt32))), (.int (nar .byte ((c2 >>> ((0 : Int32) &&& 31)).toInt8.toInt32))), (.int (nar .byte ((c2 >>> ((8 : Int32) &&& 31)).toInt8.toInt32))), (.int (nar .byte ((c3 >>> ((0 : Int32) &&& 31)).toInt8.toInt32))), (.int (nar .byte ((c3 >>> ((8 : Int32) &&& 31)).toInt8.toInt32)))], rfl, N24, K24, sz_t_8, E_xs, F_value_xs, F_coder_xs, V_t_8, Or.inr ⟨rfl, rfl, rfl⟩⟩
theorem ef_init1 (m : MethodId) (x0 : Addr) (x1 : Addr) : entryFrame m #[(.ref x0), (.ref x1)] 2 = mkF m 0 #[.val (.ref x0), .val (.ref x1)] [] := by first | (simp [entryFrame, mkF, argsToLocals, Value.category]; done) | rfl
theorem d_init2_0 : decode jdk_42_method_3_code 0 = .ok (.aload_n 0, 1) := by decide +kernel
theorem d_init2_1 : decode jdk_42_method_3_code 1 = .ok (.aload_n 1, 1) := by decide +kernel
theorem d_init2_2 : decode jdk_42_method_3_code 2 = .ok (.iconst 0, 1) := by decide +kernel
theorem d_init2_3 : decode jdk_42_method_3_code 3 = .ok (.aload_n 1, 1) := by decide +kernel
theorem d_init2_4 : decode jdk_42_method_3_code 4 = .ok (.arraylength, 1) := by decide +kernel
theorem d_init2_5 : decode jdk_42_method_3_code 5 = .ok (.aconst_null, 1) := by decide +kernel
theorem pd_7 : parseMethodDescriptor "([CIILjava/lang/Void;)V" = some ⟨[(.array .char), .int, .int, (.object "java/lang/Void")], none⟩ := by decide +kernel
theorem d_init2_6 : decode jdk_42_method_3_code 6 = .ok (.invokespecial 27, 3) := by decide +kernel
abbrev mn_8 : MethodName := ⟨"java/lang/String", "<init>", "([CIILjava/lang/Void;)V"⟩
theorem d_init2_9 : decode jdk_42_method_3_code 9 = .ok (.return_, 1) := by decide +kernel
def Q_init1 (Z : State) (xs : Addr) (sa : Addr) (ks : ClassId) (u1 : Value) (u2 : Value) (G1 : Int32) (c0 : Int32) (c1 : Int32) (c2 : Int32) (c3 : Int32) (h0 : Heap) (n0 : Nat) (v : Option Value) (h : Heap) (L : List Loc) : Prop := ∃ (t : Addr) (kb : ClassId) (cd : Int32) (nB : Int32) (vs : List Value), v = none ∧ Fr n0 L ∧ Keep h0 h [xs] ∧ (h0.size ≤ t) ∧ (Exa Z h xs "java/lang/String") ∧ (Fld Z h xs "java/lang/String" "value" "[B" (.ref t)) ∧ (Fld Z h xs "java/lang/String" "coder" "B" (.int cd)) ∧ (Arv Z h t kb .byte nB vs (.int (0 : Int32))) ∧ (Str4 c0 c1 c2 c3 cd nB vs)
set_option maxRecDepth 65536 in
set_option maxHeartbeats 40000000 in
theorem rm_init1 (l : Launch) (Z : State) (a0 : Array Value) (hw : ∀ d ∈ tables_1, d.before a0 Z = true) (ws : List Jvm.Cond) (xs : Addr) (sa : Addr) (ks : ClassId) (u1 : Value) (u2 : Value) (G1 : Int32) (c0 : Int32) (c1 : Int32) (c2 : Int32) (c3 : Int32) (h0 : Heap) (n0 : Nat) (Z0 : n0 ≤ h0.size) (E_xs : Exa Z h0 xs "java/lang/String") (F_value_xs : Fld Z h0 xs "java/lang/String" "value" "[B" u1) (F_coder_xs : Fld Z h0 xs "java/lang/String" "coder" "B" u2) (g_xs : n0 ≤ xs) (V_sa : Arv Z h0 sa ks .char (4 : Int32) [(.int c0), (.int c1), (.int c2), (.int c3)] (.int (0 : Int32))) (ne_xs_sa : xs ≠ sa) (S_COMPACT_STRINGS : Sta Z Z.heap "java/lang/String" "COMPACT_STRINGS" "Z" (.int G1)) (S__assertionsDisabled : Sta Z Z.heap "java/lang/StringUTF16" "$assertionsDisabled" "Z" (.int (1 : Int32))) (S_HI_BYTE_SHIFT : Sta Z Z.heap "java/lang/StringUTF16" "HI_BYTE_SHIFT" "I" (.int (0 : Int32))) (S_LO_BYTE_SHIFT : Sta Z Z.heap "java/lang/StringUTF16" "LO_BYTE_SHIFT" "I" (.int (8 : Int32))) (OL : Old Z n0 h0) (hz : ¬ G1 = 0) (ic0 : isC c0) (ic1 : isC c1) (ic2 : isC c2) (ic3 : isC c3) :
    MetFree l (⟨"java/lang/String", "<init>", "([C)V"⟩ : MethodName) (head1 (Jvm.Cond.code (⟨"java/lang/String", "<init>", "([C)V"⟩ : MethodName) jdk_42_method_3_code 2 none :: ws) ({ frames := 5, cells := 2, slots := 12, locals := 74 } : Room)) (fun a U => a = #[(.ref xs), (.ref sa)] ∧ Z.Warmed39 U.vm ∧ U.heap = h0) (fun _ _ _ _ _ => True) (fun _ U o U' => ∃ v L, o = .returned v ∧ Q_init1 Z xs sa ks u1 u2 G1 c0 c1 c2 c3 h0 n0 v U'.heap L ∧ FrameEnd U o U' L ({ frames := 5, cells := 2, slots := 12, locals := 74 } : Room).cells ({ frames := 5, cells := 2, slots := 12, locals := 74 } : Room).slots) := by
  refine MetFree.of_bodySF (plainFor_of_name pn_2) hisR ?_
  intro p e s m args below meth c s₁ Bd hml0 hP hK
  obtain ⟨rfl, hZ, hh⟩ := hP
  have hx := Bd.exec
  have hby := Bd.bytes
  have hml : c.maxLocals = 2 := hml0
  have hown : s.vm.findClass "java/lang/String" = some m.cls := findClass_of_methodNamed Bd.named
  have hnm := (name_of_methodNamed Bd.named Bd.method).1
  have X0 : Stand p l e ({ frames := 5, cells := 2, slots := 12, locals := 74 } : Room) s m #[(.ref xs), (.ref sa)] below meth c s₁ [] 0 0 := Stand.of_body Bd
  have e0 : s₁.heap = h0 := by rw [← hh, Bd.state]; rfl
  have N0 := Fr.nil n0
  obtain ⟨s0, hs0⟩ : ∃ z, z = (s₁.setTop (entryFrame m #[(.ref xs), (.ref sa)] 2)) := ⟨_, rfl⟩
  have P0 : ∀ t, GG p e below s₁ (mkF m 0 #[.val (.ref xs), .val (.ref sa)] []) t → Steps p.tables e below s0 t := fun t kk_ => by rw [hs0]; exact castTop (ef_init1 m xs sa) kk_
  have P1 : ∀ t, GG p e below s₁ (mkF m 4 #[.val (.ref xs), .val (.ref sa)] [(.ref sa), (.int (0 : Int32)), (.ref sa), (.ref xs)]) t → Steps p.tables e below s0 t := fun t kk_ => P0 t (by
    refine XS.aloadN X0.here hx rfl (hb hby d_init2_0) rfl rfl ?_
    refine XS.aloadN X0.here hx rfl (hb hby d_init2_1) rfl rfl ?_
    refine XS.iconst X0.here hx rfl (hb hby d_init2_2) ?_
    refine XS.aloadN X0.here hx rfl (hb hby d_init2_3) rfl rfl ?_
    exact kk_)
  obtain ⟨cl2, Ar2, -, S2, M2, -, -⟩ := id V_sa
  have P3 : ∀ t, GG p e below s₁ (mkF m 5 #[.val (.ref xs), .val (.ref sa)] [(.int (4 : Int32)), (.int (0 : Int32)), (.ref sa), (.ref xs)]) t → Steps p.tables e below s0 t := fun t kk_ => P1 t (by
    refine X0.arraylength hx (by rw [e0]; exact Ar2.1) (State.isArrayOf_alike hZ.alike Ar2.2.1) (g := (mkF m 4 #[.val (.ref xs), .val (.ref sa)] [(.ref sa), (.int (0 : Int32)), (.ref sa), (.ref xs)])) rfl rfl (hb hby d_init2_4) _ ?_
    rw [len_of S2 M2]
    exact kk_)
  have P4 : ∀ t, GG p e below s₁ (mkF m 6 #[.val (.ref xs), .val (.ref sa)] [.null, (.int (4 : Int32)), (.int (0 : Int32)), (.ref sa), (.ref xs)]) t → Steps p.tables e below s0 t := fun t kk_ => P3 t (by
    refine XS.aconstNull X0.here hx rfl (hb hby d_init2_5) ?_
    exact kk_)
  obtain ⟨_, _, ⟨T5, L5, k5, n5⟩, -, X5, ⟨Lc5, hQ5, l5, y5, z5⟩, st5⟩ := X0.specialBack hx (y := mn_8) rfl hown (mw hZ hw 12 rfl) (mw hZ hw 13 rfl) (mw hZ hw 15 rfl) (by decide) (backOf (W := 0) (rm_init4 l Z a0 hw [] xs sa ks u1 u2 G1 c0 c1 c2 c3 h0 n0 (Nat.le_trans Z0 (Nat.le_refl h0.size)) E_xs F_value_xs F_coder_xs g_xs V_sa ne_xs_sa S_COMPACT_STRINGS S__assertionsDisabled S_HI_BYTE_SHIFT S_LO_BYTE_SHIFT OL hz ic0 ic1 ic2 ic3) hZ (ww hw 15 rfl) (ww hw 8 rfl) (by decide) (by decide)) (g := (mkF m 6 #[.val (.ref xs), .val (.ref sa)] [.null, (.int (4 : Int32)), (.int (0 : Int32)), (.ref sa), (.ref xs)])) rfl (by rw [hml]; rfl) (Steps.refl _) (a := xs) (argsL := [(.ref sa), (.int (0 : Int32)), (.int (4 : Int32)), .null]) (rest := []) (lenOf pd_7 rfl) rfl (by show 2 * 0 + _ ≤ _; exact Nat.le_of_eq rfl) (hb hby d_init2_6) (fun _ _ => ⟨rfl, e0, (by decide : 0 + 2 ≤ _), (by decide : 0 + 12 ≤ _)⟩)
  dsimp only [Pt.U, Pt.locs, Pt.cells, Pt.slots] at X5 l5 y5 z5 st5 hQ5
  subst l5 y5 z5
  obtain ⟨t_5, kb_5, cd_5, nB_5, vs_5, rfl, N5q, Kc5, po5_0, po5_1, po5_2, po5_3, po5_4, po5_5⟩ := hQ5
  have N5 := Fr.app N0 N5q
  have P6 : ∀ t, GG p e below T5 (mkF m 9 #[.val (.ref xs), .val (.ref sa)] []) t → Steps p.tables e below s0 t := fun t kk_ => P4 t (st5.trans kk_)
  have ne_xs_t_5 : xs ≠ t_5 := Nat.ne_of_lt (Nat.lt_of_lt_of_le E_xs.lt po5_0)
  have ne_sa_t_5 : sa ≠ t_5 := Nat.ne_of_lt (Nat.lt_of_lt_of_le V_sa.lt po5_0)
  have sz_t_5 : h0.size ≤ t_5 := Nat.le_trans (Nat.le_refl h0.size) po5_0
  replace E_xs : Exa Z T5.heap xs "java/lang/String" := E_xs.keep Kc5
  replace V_sa : Arv Z T5.heap sa ks .char (4 : Int32) [(.int c0), (.int c1), (.int c2), (.int c3)] (.int (0 : Int32)) := V_sa.keep Kc5 (ninS (Ne.symm ne_xs_sa) nin0)
  replace OL : Old Z n0 T5.heap := OL.keep Kc5 (allS g_xs all0)
  have K5 : Keep h0 T5.heap [xs] := (Keep.refl h0 [xs]).trans Kc5 (allS (P := fun x => x ∈ [xs] ∨ h0.size ≤ x) (Or.inl (List.mem_of_getElem? (i := 0) rfl)) all0)
  have E_xs : Exa Z T5.heap xs "java/lang/String" := po5_1
  have F_value_xs : Fld Z T5.heap xs "java/lang/String" "value" "[B" (.ref t_5) := po5_2
  have F_coder_xs : Fld Z T5.heap xs "java/lang/String" "coder" "B" (.int cd_5) := po5_3
  have V_t_5 : Arv Z T5.heap t_5 kb_5 .byte nB_5 vs_5 (.int (0 : Int32)) := po5_4
  have s4_5 := po5_5
  subst hs0
  obtain ⟨fs, hr, hrun, hended, hW, hsame⟩ := X5.leave (v := none) (fun _ => rfl)
  refine ⟨_, _, P6 _ ?_, hrun, hended, _, _, rfl, ?_, ⟨_, rfl⟩, hW, hsame.mono (by decide) (by decide)⟩
  · show GG p e below T5 (mkF m 9 #[.val (.ref xs), .val (.ref sa)] []) _
    exact X5.returnOut hx Bd.returns (hb hby d_init2_9) hr
  · show Q_init1 Z xs sa ks u1 u2 G1 c0 c1 c2 c3 h0 n0 _ T5.heap _
    exact ⟨t_5, kb_5, cd_5, nB_5, vs_5, rfl, N5, K5, sz_t_5, E_xs, F_value_xs, F_coder_xs, V_t_5, s4_5⟩
theorem ef_coder0 (m : MethodId) (x0 : Addr) : entryFrame m #[(.ref x0)] 1 = mkF m 0 #[.val (.ref x0)] [] := by first | (simp [entryFrame, mkF, argsToLocals, Value.category]; done) | rfl
theorem d_coder_0 : decode jdk_42_method_152_code 0 = .ok (.getstatic 38, 3) := by decide +kernel
theorem d_coder_3 : decode jdk_42_method_152_code 3 = .ok (.ifCond .eq 10, 3) := by decide +kernel
theorem d_coder_6 : decode jdk_42_method_152_code 6 = .ok (.aload_n 0, 1) := by decide +kernel
theorem d_coder_7 : decode jdk_42_method_152_code 7 = .ok (.getfield 15, 3) := by decide +kernel
theorem d_coder_10 : decode jdk_42_method_152_code 10 = .ok (.goto 4, 3) := by decide +kernel
theorem d_coder_14 : decode jdk_42_method_152_code 14 = .ok (.ireturn, 1) := by decide +kernel
def Q_coder0 (Z : State) (xs : Addr) (G1 : Int32) (h0 : Heap) (n0 : Nat) (v : Option Value) (h : Heap) (L : List Loc) : Prop := v = some (.int (0 : Int32)) ∧ Fr n0 L ∧ h = h0
set_option maxRecDepth 65536 in
set_option maxHeartbeats 40000000 in
theorem rm_coder0 (l : Launch) (Z : State) (a0 : Array Value) (hw : ∀ d ∈ tables_1, d.before a0 Z = true) (ws : List Jvm.Cond) (xs : Addr) (G1 : Int32) (h0 : Heap) (n0 : Nat) (Z0 : n0 ≤ h0.size) (F_coder_xs : Fld Z h0 xs "java/lang/String" "coder" "B" (.int (0 : Int32))) (S_COMPACT_STRINGS : Sta Z Z.heap "java/lang/String" "COMPACT_STRINGS" "Z" (.int G1)) (OL : Old Z n0 h0) (hz : ¬ G1 = 0) :
    MetFree l (⟨"java/lang/String", "coder", "()B"⟩ : MethodName) (head1 (Jvm.Cond.code (⟨"java/lang/String", "coder", "()B"⟩ : MethodName) jdk_42_method_152_code 1 (some .byte) :: ws) ({ frames := 0, cells := 0, slots := 0, locals := 0 } : Room)) (fun a U => a = #[(.ref xs)] ∧ Z.Warmed39 U.vm ∧ U.heap = h0) (fun _ _ _ _ _ => True) (fun _ U o U' => ∃ v L, o = .returned v ∧ Q_coder0 Z xs G1 h0 n0 v U'.heap L ∧ FrameEnd U o U' L ({ frames := 0, cells := 0, slots := 0, locals := 0 } : Room).cells ({ frames := 0, cells := 0, slots := 0, locals := 0 } : Room).slots) := by
  refine MetFree.of_bodySF (plainFor_of_name pn_2) hisR ?_
  intro p e s m args below meth c s₁ Bd hml0 hP hK
  obtain ⟨rfl, hZ, hh⟩ := hP
  have hx := Bd.exec
  have hby := Bd.bytes
  have hml : c.maxLocals = 1 := hml0
  have hown : s.vm.findClass "java/lang/String" = some m.cls := findClass_of_methodNamed Bd.named
  have hnm := (name_of_methodNamed Bd.named Bd.method).1
  have X0 : Stand p l e ({ frames := 0, cells := 0, slots := 0, locals := 0 } : Room) s m #[(.ref xs)] below meth c s₁ [] 0 0 := Stand.of_body Bd
  have e0 : s₁.heap = h0 := by rw [← hh, Bd.state]; rfl
  have N0 := Fr.nil n0
  obtain ⟨s0, hs0⟩ : ∃ z, z = (s₁.setTop (entryFrame m #[(.ref xs)] 1)) := ⟨_, rfl⟩
  have P0 : ∀ t, GG p e below s₁ (mkF m 0 #[.val (.ref xs)] []) t → Steps p.tables e below s0 t := fun t kk_ => by rw [hs0]; exact castTop (ef_coder0 m xs) kk_
  obtain ⟨T1, X1, e1, st1⟩ := getS2 X0 hx hZ hown (host := "") (Or.inl (ww hw 19 rfl)) Via.refl e0 (S_COMPACT_STRINGS.ext OL.2) (g := (mkF m 0 #[.val (.ref xs)] [])) rfl (hb hby d_coder_0)
  have P2 : ∀ t, GG p e below T1 (mkF m 3 #[.val (.ref xs)] [(.int G1)]) t → Steps p.tables e below s0 t := fun t kk_ => P0 t (st1 _ kk_)
  have P3 : ∀ t, GG p e below T1 (mkF m 7 #[.val (.ref xs)] [(.ref xs)]) t → Steps p.tables e below s0 t := fun t kk_ => P2 t (by
    refine XS.ifNo X1.here hx rfl (hb hby d_coder_3) rfl ((if0 _ _).trans (feq (hz : ¬ (G1 = (0 : Int32)))).1) ?_
    refine XS.aloadN X1.here hx rfl (hb hby d_coder_6) rfl rfl ?_
    exact kk_)
  obtain ⟨T4, X4, e4, st4⟩ := getF X1 hx hZ hown (host := "") (Or.inl (ww hw 50 rfl)) Via.refl e1 F_coder_xs (g := (mkF m 7 #[.val (.ref xs)] [(.ref xs)])) rfl rfl (hb hby d_coder_7)
  have P5 : ∀ t, GG p e below T4 (mkF m 10 #[.val (.ref xs)] [(.int (0 : Int32))]) t → Steps p.tables e below s0 t := fun t kk_ => P3 t (st4 _ kk_)
  have P6 : ∀ t, GG p e below T4 (mkF m 14 #[.val (.ref xs)] [(.int (0 : Int32))]) t → Steps p.tables e below s0 t := fun t kk_ => P5 t (by
    refine XS.goto X4.here hx rfl (pc0 := 10) (pc' := 14) rfl (hb hby d_coder_10) (by decide) (by decide) ?_
    exact kk_)
  subst hs0
  obtain ⟨fs, hr, hrun, hended, hW, hsame⟩ := X4.leave (v := some (.int (nar .byte (0 : Int32)))) (fun h => by rw [Bd.returns] at h; cases h)
  refine ⟨_, _, P6 _ ?_, hrun, hended, _, _, rfl, ?_, ⟨_, rfl⟩, hW, hsame.mono (by decide) (by decide)⟩
  · show GG p e below T4 (mkF m 14 #[.val (.ref xs)] [(.int (0 : Int32))]) _
    exact retN X4 hx (t := .byte) Bd.returns (by simp) (hb hby d_coder_14) hr
  · show Q_coder0 Z xs G1 h0 n0 _ T4.heap _
    rw [e4]
    exact ⟨rfl, N0, rfl⟩
theorem ef_isLat0 (m : MethodId) (x0 : Addr) : entryFrame m #[(.ref x0)] 1 = mkF m 0 #[.val (.ref x0)] [] := by first | (simp [entryFrame, mkF, argsToLocals, Value.category]; done) | rfl
theorem d_isLatin1_0 : decode jdk_42_method_154_code 0 = .ok (.getstatic 38, 3) := by decide +kernel
theorem d_isLatin1_3 : decode jdk_42_method_154_code 3 = .ok (.ifCond .eq 14, 3) := by decide +kernel
theorem d_isLatin1_6 : decode jdk_42_method_154_code 6 = .ok (.aload_n 0, 1) := by decide +kernel
theorem d_isLatin1_7 : decode jdk_42_method_154_code 7 = .ok (.getfield 15, 3) := by decide +kernel
theorem d_isLatin1_10 : decode jdk_42_method_154_code 10 = .ok (.ifCond .ne 7, 3) := by decide +kernel
theorem d_isLatin1_13 : decode jdk_42_method_154_code 13 = .ok (.iconst 1, 1) := by decide +kernel
theorem d_isLatin1_14 : decode jdk_42_method_154_code 14 = .ok (.goto 4, 3) := by decide +kernel
theorem d_isLatin1_18 : decode jdk_42_method_154_code 18 = .ok (.ireturn, 1) := by decide +kernel
def Q_isLat0 (Z : State) (xs : Addr) (G1 : Int32) (h0 : Heap) (n0 : Nat) (v : Option Value) (h : Heap) (L : List Loc) : Prop := v = some (.int (1 : Int32)) ∧ Fr n0 L ∧ h = h0
set_option maxRecDepth 65536 in
set_option maxHeartbeats 40000000 in
theorem rm_isLat0 (l : Launch) (Z : State) (a0 : Array Value) (hw : ∀ d ∈ tables_1, d.before a0 Z = true) (ws : List Jvm.Cond) (xs : Addr) (G1 : Int32) (h0 : Heap) (n0 : Nat) (Z0 : n0 ≤ h0.size) (F_coder_xs : Fld Z h0 xs "java/lang/String" "coder" "B" (.int (0 : Int32))) (S_COMPACT_STRINGS : Sta Z Z.heap "java/lang/String" "COMPACT_STRINGS" "Z" (.int G1)) (OL : Old Z n0 h0) (hz : ¬ G1 = 0) :
    MetFree l (⟨"java/lang/String", "isLatin1", "()Z"⟩ : MethodName) (head1 (Jvm.Cond.code (⟨"java/lang/String", "isLatin1", "()Z"⟩ : MethodName) jdk_42_method_154_code 1 (some .boolean) :: ws) ({ frames := 0, cells := 0, slots := 0, locals := 0 } : Room)) (fun a U => a = #[(.ref xs)] ∧ Z.Warmed39 U.vm ∧ U.heap = h0) (fun _ _ _ _ _ => True) (fun _ U o U' => ∃ v L, o = .returned v ∧ Q_isLat0 Z xs G1 h0 n0 v U'.heap L ∧ FrameEnd U o U' L ({ frames := 0, cells := 0, slots := 0, locals := 0 } : Room).cells ({ frames := 0, cells := 0, slots := 0, locals := 0 } : Room).slots) := by
  refine MetFree.of_bodySF (plainFor_of_name pn_2) hisR ?_
  intro p e s m args below meth c s₁ Bd hml0 hP hK
  obtain ⟨rfl, hZ, hh⟩ := hP
  have hx := Bd.exec
  have hby := Bd.bytes
  have hml : c.maxLocals = 1 := hml0
  have hown : s.vm.findClass "java/lang/String" = some m.cls := findClass_of_methodNamed Bd.named
  have hnm := (name_of_methodNamed Bd.named Bd.method).1
  have X0 : Stand p l e ({ frames := 0, cells := 0, slots := 0, locals := 0 } : Room) s m #[(.ref xs)] below meth c s₁ [] 0 0 := Stand.of_body Bd
  have e0 : s₁.heap = h0 := by rw [← hh, Bd.state]; rfl
  have N0 := Fr.nil n0
  obtain ⟨s0, hs0⟩ : ∃ z, z = (s₁.setTop (entryFrame m #[(.ref xs)] 1)) := ⟨_, rfl⟩
  have P0 : ∀ t, GG p e below s₁ (mkF m 0 #[.val (.ref xs)] []) t → Steps p.tables e below s0 t := fun t kk_ => by rw [hs0]; exact castTop (ef_isLat0 m xs) kk_
  obtain ⟨T1, X1, e1, st1⟩ := getS2 X0 hx hZ hown (host := "") (Or.inl (ww hw 19 rfl)) Via.refl e0 (S_COMPACT_STRINGS.ext OL.2) (g := (mkF m 0 #[.val (.ref xs)] [])) rfl (hb hby d_isLatin1_0)
  have P2 : ∀ t, GG p e below T1 (mkF m 3 #[.val (.ref xs)] [(.int G1)]) t → Steps p.tables e below s0 t := fun t kk_ => P0 t (st1 _ kk_)
  have P3 : ∀ t, GG p e below T1 (mkF m 7 #[.val (.ref xs)] [(.ref xs)]) t → Steps p.tables e below s0 t := fun t kk_ => P2 t (by
    refine XS.ifNo X1.here hx rfl (hb hby d_isLatin1_3) rfl ((if0 _ _).trans (feq (hz : ¬ (G1 = (0 : Int32)))).1) ?_
    refine XS.aloadN X1.here hx rfl (hb hby d_isLatin1_6) rfl rfl ?_
    exact kk_)
  obtain ⟨T4, X4, e4, st4⟩ := getF X1 hx hZ hown (host := "") (Or.inl (ww hw 50 rfl)) Via.refl e1 F_coder_xs (g := (mkF m 7 #[.val (.ref xs)] [(.ref xs)])) rfl rfl (hb hby d_isLatin1_7)
  have P5 : ∀ t, GG p e below T4 (mkF m 10 #[.val (.ref xs)] [(.int (0 : Int32))]) t → Steps p.tables e below s0 t := fun t kk_ => P3 t (st4 _ kk_)
  have P6 : ∀ t, GG p e below T4 (mkF m 18 #[.val (.ref xs)] [(.int (1 : Int32))]) t → Steps p.tables e below s0 t := fun t kk_ => P5 t (by
    refine XS.ifNo X4.here hx rfl (hb hby d_isLatin1_10) rfl ((if0 _ _).trans (teq ((by decide) : (0 : Int32) = (0 : Int32))).2) ?_
    refine XS.iconst X4.here hx rfl (hb hby d_isLatin1_13) ?_
    refine XS.goto X4.here hx rfl (pc0 := 14) (pc' := 18) rfl (hb hby d_isLatin1_14) (by decide) (by decide) ?_
    exact kk_)
  subst hs0
  obtain ⟨fs, hr, hrun, hended, hW, hsame⟩ := X4.leave (v := some (.int (nar .boolean (1 : Int32)))) (fun h => by rw [Bd.returns] at h; cases h)
  refine ⟨_, _, P6 _ ?_, hrun, hended, _, _, rfl, ?_, ⟨_, rfl⟩, hW, hsame.mono (by decide) (by decide)⟩
  · show GG p e below T4 (mkF m 18 #[.val (.ref xs)] [(.int (1 : Int32))]) _
    exact retN X4 hx (t := .boolean) Bd.returns (by simp) (hb hby d_isLatin1_18) hr
  · show Q_isLat0 Z xs G1 h0 n0 _ T4.heap _
    rw [e4]
    exact ⟨rfl, N0, rfl⟩
theorem ef_coder1 (m : MethodId) (x0 : Addr) : entryFrame m #[(.ref x0)] 1 = mkF m 0 #[.val (.ref x0)] [] := by first | (simp [entryFrame, mkF, argsToLocals, Value.category]; done) | rfl
def Q_coder1 (Z : State) (xs : Addr) (G1 : Int32) (h0 : Heap) (n0 : Nat) (v : Option Value) (h : Heap) (L : List Loc) : Prop := v = some (.int (1 : Int32)) ∧ Fr n0 L ∧ h = h0
set_option maxRecDepth 65536 in
set_option maxHeartbeats 40000000 in
theorem rm_coder1 (l : Launch) (Z : State) (a0 : Array Value) (hw : ∀ d ∈ tables_1, d.before a0 Z = true) (ws : List Jvm.Cond) (xs : Addr) (G1 : Int32) (h0 : Heap) (n0 : Nat) (Z0 : n0 ≤ h0.size) (F_coder_xs : Fld Z h0 xs "java/lang/String" "coder" "B" (.int (1 : Int32))) (S_COMPACT_STRINGS : Sta Z Z.heap "java/lang/String" "COMPACT_STRINGS" "Z" (.int G1)) (OL : Old Z n0 h0) (hz : ¬ G1 = 0) :
    MetFree l (⟨"java/lang/String", "coder", "()B"⟩ : MethodName) (head1 (Jvm.Cond.code (⟨"java/lang/String", "coder", "()B"⟩ : MethodName) jdk_42_method_152_code 1 (some .byte) :: ws) ({ frames := 0, cells := 0, slots := 0, locals := 0 } : Room)) (fun a U => a = #[(.ref xs)] ∧ Z.Warmed39 U.vm ∧ U.heap = h0) (fun _ _ _ _ _ => True) (fun _ U o U' => ∃ v L, o = .returned v ∧ Q_coder1 Z xs G1 h0 n0 v U'.heap L ∧ FrameEnd U o U' L ({ frames := 0, cells := 0, slots := 0, locals := 0 } : Room).cells ({ frames := 0, cells := 0, slots := 0, locals := 0 } : Room).slots) := by
  refine MetFree.of_bodySF (plainFor_of_name pn_2) hisR ?_
  intro p e s m args below meth c s₁ Bd hml0 hP hK
  obtain ⟨rfl, hZ, hh⟩ := hP
  have hx := Bd.exec
  have hby := Bd.bytes
  have hml : c.maxLocals = 1 := hml0
  have hown : s.vm.findClass "java/lang/String" = some m.cls := findClass_of_methodNamed Bd.named
  have hnm := (name_of_methodNamed Bd.named Bd.method).1
  have X0 : Stand p l e ({ frames := 0, cells := 0, slots := 0, locals := 0 } : Room) s m #[(.ref xs)] below meth c s₁ [] 0 0 := Stand.of_body Bd
  have e0 : s₁.heap = h0 := by rw [← hh, Bd.state]; rfl
  have N0 := Fr.nil n0
  obtain ⟨s0, hs0⟩ : ∃ z, z = (s₁.setTop (entryFrame m #[(.ref xs)] 1)) := ⟨_, rfl⟩
  have P0 : ∀ t, GG p e below s₁ (mkF m 0 #[.val (.ref xs)] []) t → Steps p.tables e below s0 t := fun t kk_ => by rw [hs0]; exact castTop (ef_coder1 m xs) kk_
  obtain ⟨T1, X1, e1, st1⟩ := getS2 X0 hx hZ hown (host := "") (Or.inl (ww hw 19 rfl)) Via.refl e0 (S_COMPACT_STRINGS.ext OL.2) (g := (mkF m 0 #[.val (.ref xs)] [])) rfl (hb hby d_coder_0)
  have P2 : ∀ t, GG p e below T1 (mkF m 3 #[.val (.ref xs)] [(.int G1)]) t → Steps p.tables e below s0 t := fun t kk_ => P0 t (st1 _ kk_)
  have P3 : ∀ t, GG p e below T1 (mkF m 7 #[.val (.ref xs)] [(.ref xs)]) t → Steps p.tables e below s0 t := fun t kk_ => P2 t (by
    refine XS.ifNo X1.here hx rfl (hb hby d_coder_3) rfl ((if0 _ _).trans (feq (hz : ¬ (G1 = (0 : Int32)))).1) ?_
    refine XS.aloadN X1.here hx rfl (hb hby d_coder_6) rfl rfl ?_
    exact kk_)
  obtain ⟨T4, X4, e4, st4⟩ := getF X1 hx hZ hown (host := "") (Or.inl (ww hw 50 rfl)) Via.refl e1 F_coder_xs (g := (mkF m 7 #[.val (.ref xs)] [(.ref xs)])) rfl rfl (hb hby d_coder_7)
  have P5 : ∀ t, GG p e below T4 (mkF m 10 #[.val (.ref xs)] [(.int (1 : Int32))]) t → Steps p.tables e below s0 t := fun t kk_ => P3 t (st4 _ kk_)
  have P6 : ∀ t, GG p e below T4 (mkF m 14 #[.val (.ref xs)] [(.int (1 : Int32))]) t → Steps p.tables e below s0 t := fun t kk_ => P5 t (by
    refine XS.goto X4.here hx rfl (pc0 := 10) (pc' := 14) rfl (hb hby d_coder_10) (by decide) (by decide) ?_
    exact kk_)
  subst hs0
  obtain ⟨fs, hr, hrun, hended, hW, hsame⟩ := X4.leave (v := some (.int (nar .byte (1 : Int32)))) (fun h => by rw [Bd.returns] at h; cases h)
  refine ⟨_, _, P6 _ ?_, hrun, hended, _, _, rfl, ?_, ⟨_, rfl⟩, hW, hsame.mono (by decide) (by decide)⟩
  · show GG p e below T4 (mkF m 14 #[.val (.ref xs)] [(.int (1 : Int32))]) _
    exact retN X4 hx (t := .byte) Bd.returns (by simp) (hb hby d_coder_14) hr
  · show Q_coder1 Z xs G1 h0 n0 _ T4.heap _
    rw [e4]
    exact ⟨rfl, N0, rfl⟩
theorem ef_isLat1 (m : MethodId) (x0 : Addr) : entryFrame m #[(.ref x0)] 1 = mkF m 0 #[.val (.ref x0)] [] := by first | (simp [entryFrame, mkF, argsToLocals, Value.category]; done) | rfl
theorem d_isLatin1_17 : decode jdk_42_method_154_code 17 = .ok (.iconst 0, 1) := by decide +kernel
def Q_isLat1 (Z : State) (xs : Addr) (G1 : Int32) (h0 : Heap) (n0 : Nat) (v : Option Value) (h : Heap) (L : List Loc) : Prop := v = some (.int (0 : Int32)) ∧ Fr n0 L ∧ h = h0
set_option maxRecDepth 65536 in
set_option maxHeartbeats 40000000 in
theorem rm_isLat1 (l : Launch) (Z : State) (a0 : Array Value) (hw : ∀ d ∈ tables_1, d.before a0 Z = true) (ws : List Jvm.Cond) (xs : Addr) (G1 : Int32) (h0 : Heap) (n0 : Nat) (Z0 : n0 ≤ h0.size) (F_coder_xs : Fld Z h0 xs "java/lang/String" "coder" "B" (.int (1 : Int32))) (S_COMPACT_STRINGS : Sta Z Z.heap "java/lang/String" "COMPACT_STRINGS" "Z" (.int G1)) (OL : Old Z n0 h0) (hz : ¬ G1 = 0) :
    MetFree l (⟨"java/lang/String", "isLatin1", "()Z"⟩ : MethodName) (head1 (Jvm.Cond.code (⟨"java/lang/String", "isLatin1", "()Z"⟩ : MethodName) jdk_42_method_154_code 1 (some .boolean) :: ws) ({ frames := 0, cells := 0, slots := 0, locals := 0 } : Room)) (fun a U => a = #[(.ref xs)] ∧ Z.Warmed39 U.vm ∧ U.heap = h0) (fun _ _ _ _ _ => True) (fun _ U o U' => ∃ v L, o = .returned v ∧ Q_isLat1 Z xs G1 h0 n0 v U'.heap L ∧ FrameEnd U o U' L ({ frames := 0, cells := 0, slots := 0, locals := 0 } : Room).cells ({ frames := 0, cells := 0, slots := 0, locals := 0 } : Room).slots) := by
  refine MetFree.of_bodySF (plainFor_of_name pn_2) hisR ?_
  intro p e s m args below meth c s₁ Bd hml0 hP hK
  obtain ⟨rfl, hZ, hh⟩ := hP
  have hx := Bd.exec
  have hby := Bd.bytes
  have hml : c.maxLocals = 1 := hml0
  have hown : s.vm.findClass "java/lang/String" = some m.cls := findClass_of_methodNamed Bd.named
  have hnm := (name_of_methodNamed Bd.named Bd.method).1
  have X0 : Stand p l e ({ frames := 0, cells := 0, slots := 0, locals := 0 } : Room) s m #[(.ref xs)] below meth c s₁ [] 0 0 := Stand.of_body Bd
  have e0 : s₁.heap = h0 := by rw [← hh, Bd.state]; rfl
  have N0 := Fr.nil n0
  obtain ⟨s0, hs0⟩ : ∃ z, z = (s₁.setTop (entryFrame m #[(.ref xs)] 1)) := ⟨_, rfl⟩
  have P0 : ∀ t, GG p e below s₁ (mkF m 0 #[.val (.ref xs)] []) t → Steps p.tables e below s0 t := fun t kk_ => by rw [hs0]; exact castTop (ef_isLat1 m xs) kk_
  obtain ⟨T1, X1, e1, st1⟩ := getS2 X0 hx hZ hown (host := "") (Or.inl (ww hw 19 rfl)) Via.refl e0 (S_COMPACT_STRINGS.ext OL.2) (g := (mkF m 0 #[.val (.ref xs)] [])) rfl (hb hby d_isLatin1_0)
  have P2 : ∀ t, GG p e below T1 (mkF m 3 #[.val (.ref xs)] [(.int G1)]) t → Steps p.tables e below s0 t := fun t kk_ => P0 t (st1 _ kk_)
  have P3 : ∀ t, GG p e below T1 (mkF m 7 #[.val (.ref xs)] [(.ref xs)]) t → Steps p.tables e below s0 t := fun t kk_ => P2 t (by
    refine XS.ifNo X1.here hx rfl (hb hby d_isLatin1_3) rfl ((if0 _ _).trans (feq (hz : ¬ (G1 = (0 : Int32)))).1) ?_
    refine XS.aloadN X1.here hx rfl (hb hby d_isLatin1_6) rfl rfl ?_
    exact kk_)
  obtain ⟨T4, X4, e4, st4⟩ := getF X1 hx hZ hown (host := "") (Or.inl (ww hw 50 rfl)) Via.refl e1 F_coder_xs (g := (mkF m 7 #[.val (.ref xs)] [(.ref xs)])) rfl rfl (hb hby d_isLatin1_7)
  have P5 : ∀ t, GG p e below T4 (mkF m 10 #[.val (.ref xs)] [(.int (1 : Int32))]) t → Steps p.tables e below s0 t := fun t kk_ => P3 t (st4 _ kk_)
  have P6 : ∀ t, GG p e below T4 (mkF m 18 #[.val (.ref xs)] [(.int (0 : Int32))]) t → Steps p.tables e below s0 t := fun t kk_ => P5 t (by
    refine XS.ifYes X4.here hx rfl (pc0 := 10) (pc' := 17) rfl (hb hby d_isLatin1_10) rfl ((if0 _ _).trans (feq ((by decide) : ¬ ((1 : Int32) = (0 : Int32)))).2) (by decide) (by decide) ?_
    refine XS.iconst X4.here hx rfl (hb hby d_isLatin1_17) ?_
    exact kk_)
  subst hs0
  obtain ⟨fs, hr, hrun, hended, hW, hsame⟩ := X4.leave (v := some (.int (nar .boolean (0 : Int32)))) (fun h => by rw [Bd.returns] at h; cases h)
  refine ⟨_, _, P6 _ ?_, hrun, hended, _, _, rfl, ?_, ⟨_, rfl⟩, hW, hsame.mono (by decide) (by decide)⟩
  · show GG p e below T4 (mkF m 18 #[.val (.ref xs)] [(.int (0 : Int32))]) _
    exact retN X4 hx (t := .boolean) Bd.returns (by simp) (hb hby d_isLatin1_18) hr
  · show Q_isLat1 Z xs G1 h0 n0 _ T4.heap _
    rw [e4]
    exact ⟨rfl, N0, rfl⟩
theorem ef_len4 (m : MethodId) (x0 : Addr) : entryFrame m #[(.ref x0)] 1 = mkF m 0 #[.val (.ref x0)] [] := by first | (simp [entryFrame, mkF, argsToLocals, Value.category]; done) | rfl
theorem d_length_0 : decode jdk_42_method_54_code 0 = .ok (.aload_n 0, 1) := by decide +kernel
theorem d_length_1 : decode jdk_42_method_54_code 1 = .ok (.getfield 9, 3) := by decide +kernel
theorem d_length_4 : decode jdk_42_method_54_code 4 = .ok (.arraylength, 1) := by decide +kernel
theorem d_length_5 : decode jdk_42_method_54_code 5 = .ok (.aload_n 0, 1) := by decide +kernel
theorem pd_8 : parseMethodDescriptor "()B" = some ⟨[], some .byte⟩ := by decide +kernel
theorem d_length_6 : decode jdk_42_method_54_code 6 = .ok (.invokevirtual 335, 3) := by decide +kernel
abbrev mn_9 : MethodName := ⟨"java/lang/String", "coder", "()B"⟩
theorem d_length_9 : decode jdk_42_method_54_code 9 = .ok (.ishr, 1) := by decide +kernel
theorem d_length_10 : decode jdk_42_method_54_code 10 = .ok (.ireturn, 1) := by decide +kernel
def Q_len4 (Z : State) (xs : Addr) (tb : Addr) (kb : ClassId) (cd : Int32) (nB : Int32) (vs : List Value) (c0 : Int32) (c1 : Int32) (c2 : Int32) (c3 : Int32) (G1 : Int32) (h0 : Heap) (n0 : Nat) (v : Option Value) (h : Heap) (L : List Loc) : Prop := v = some (.int (4 : Int32)) ∧ Fr n0 L ∧ h = h0
set_option maxRecDepth 65536 in
set_option maxHeartbeats 40000000 in
theorem rm_len4 (l : Launch) (Z : State) (a0 : Array Value) (hw : ∀ d ∈ tables_1, d.before a0 Z = true) (ws : List Jvm.Cond) (xs : Addr) (tb : Addr) (kb : ClassId) (cd : Int32) (nB : Int32) (vs : List Value) (c0 : Int32) (c1 : Int32) (c2 : Int32) (c3 : Int32) (G1 : Int32) (h0 : Heap) (n0 : Nat) (Z0 : n0 ≤ h0.size) (E_xs : Exa Z h0 xs "java/lang/String") (F_value_xs : Fld Z h0 xs "java/lang/String" "value" "[B" (.ref tb)) (F_coder_xs : Fld Z h0 xs "java/lang/String" "coder" "B" (.int cd)) (V_tb : Arv Z h0 tb kb .byte nB vs (.int (0 : Int32))) (S_COMPACT_STRINGS : Sta Z Z.heap "java/lang/String" "COMPACT_STRINGS" "Z" (.int G1)) (OL : Old Z n0 h0) (hz : ¬ G1 = 0) (s4 : Str4 c0 c1 c2 c3 cd nB vs) :
    MetFree l (⟨"java/lang/String", "length", "()I"⟩ : MethodName) (head1 (Jvm.Cond.code (⟨"java/lang/String", "length", "()I"⟩ : MethodName) jdk_42_method_54_code 1 (some .int) :: ws) ({ frames := 1, cells := 0, slots := 0, locals := 13 } : Room)) (fun a U => a = #[(.ref xs)] ∧ Z.Warmed39 U.vm ∧ U.heap = h0) (fun _ _ _ _ _ => True) (fun _ U o U' => ∃ v L, o = .returned v ∧ Q_len4 Z xs tb kb cd nB vs c0 c1 c2 c3 G1 h0 n0 v U'.heap L ∧ FrameEnd U o U' L ({ frames := 1, cells := 0, slots := 0, locals := 13 } : Room).cells ({ frames := 1, cells := 0, slots := 0, locals := 13 } : Room).slots) := by
  refine MetFree.of_bodySF (plainFor_of_name pn_2) hisR ?_
  intro p e s m args below meth c s₁ Bd hml0 hP hK
  obtain ⟨rfl, hZ, hh⟩ := hP
  have hx := Bd.exec
  have hby := Bd.bytes
  have hml : c.maxLocals = 1 := hml0
  have hown : s.vm.findClass "java/lang/String" = some m.cls := findClass_of_methodNamed Bd.named
  have hnm := (name_of_methodNamed Bd.named Bd.method).1
  have X0 : Stand p l e ({ frames := 1, cells := 0, slots := 0, locals := 13 } : Room) s m #[(.ref xs)] below meth c s₁ [] 0 0 := Stand.of_body Bd
  have e0 : s₁.heap = h0 := by rw [← hh, Bd.state]; rfl
  have N0 := Fr.nil n0
  obtain ⟨s0, hs0⟩ : ∃ z, z = (s₁.setTop (entryFrame m #[(.ref xs)] 1)) := ⟨_, rfl⟩
  have P0 : ∀ t, GG p e below s₁ (mkF m 0 #[.val (.ref xs)] []) t → Steps p.tables e below s0 t := fun t kk_ => by rw [hs0]; exact castTop (ef_len4 m xs) kk_
  rcases s4 with hcase | hcase
  ·
    obtain ⟨rfl, rfl, rfl, hla⟩ := hcase
    have P1 : ∀ t, GG p e below s₁ (mkF m 1 #[.val (.ref xs)] [(.ref xs)]) t → Steps p.tables e below s0 t := fun t kk_ => P0 t (by
      refine XS.aloadN X0.here hx rfl (hb hby d_length_0) rfl rfl ?_
      exact kk_)
    obtain ⟨T2, X2, e2, st2⟩ := getF X0 hx hZ hown (host := "") (Or.inl (ww hw 52 rfl)) Via.refl e0 F_value_xs (g := (mkF m 1 #[.val (.ref xs)] [(.ref xs)])) rfl rfl (hb hby d_length_1)
    have P3 : ∀ t, GG p e below T2 (mkF m 4 #[.val (.ref xs)] [(.ref tb)]) t → Steps p.tables e below s0 t := fun t kk_ => P1 t (st2 _ kk_)
    obtain ⟨cl4, Ar4, -, S4, M4, -, -⟩ := id V_tb
    have P5 : ∀ t, GG p e below T2 (mkF m 5 #[.val (.ref xs)] [(.int (4 : Int32))]) t → Steps p.tables e below s0 t := fun t kk_ => P3 t (by
      refine X2.arraylength hx (by rw [e2]; exact Ar4.1) (State.isArrayOf_alike hZ.alike Ar4.2.1) (g := (mkF m 4 #[.val (.ref xs)] [(.ref tb)])) rfl rfl (hb hby d_length_4) _ ?_
      rw [len_of S4 M4]
      exact kk_)
    have P6 : ∀ t, GG p e below T2 (mkF m 6 #[.val (.ref xs)] [(.ref xs), (.int (4 : Int32))]) t → Steps p.tables e below s0 t := fun t kk_ => P5 t (by
      refine XS.aloadN X2.here hx rfl (hb hby d_length_5) rfl rfl ?_
      exact kk_)
    obtain ⟨cq7, kq7, q7a, q7b, q7c⟩ := isOf hZ e2 E_xs
    obtain ⟨_, _, ⟨T7, L7, k7, n7⟩, -, X7, ⟨Lc7, hQ7, l7, y7, z7⟩, st7⟩ := X2.virtualBack hx (y := mn_9) (z := mn_9) hown (mw hZ hw 103 rfl) (mw hZ hw 104 rfl) (notFace_of_selects (args := #[]) (mw hZ hw 106 rfl)) (mw hZ hw 106 rfl) (mw hZ hw 105 rfl) (by decide) (backOf (W := 1) (rm_coder0 l Z a0 hw [] xs G1 h0 n0 (Nat.le_trans Z0 (Nat.le_refl h0.size)) F_coder_xs S_COMPACT_STRINGS OL hz) hZ (ww hw 107 rfl) (ww hw 8 rfl) (by decide) (by decide)) q7a q7c (g := (mkF m 6 #[.val (.ref xs)] [(.ref xs), (.int (4 : Int32))])) rfl (by rw [hml]; rfl) (Steps.refl _) (argsL := []) (rest := [(.int (4 : Int32))]) (lenOf pd_8 rfl) rfl (by show 2 * 0 + _ ≤ _; exact Nat.le_of_eq rfl) (hb hby d_length_6) (fun _ _ => ⟨rfl, e2, (by decide : 0 + 0 ≤ _), (by decide : 0 + 0 ≤ _)⟩)
    dsimp only [Pt.U, Pt.locs, Pt.cells, Pt.slots] at X7 l7 y7 z7 st7 hQ7
    subst l7 y7 z7
    obtain ⟨rfl, N7q, e7⟩ := hQ7
    have N7 := Fr.app N0 N7q
    have P8 : ∀ t, GG p e below T7 (mkF m 9 #[.val (.ref xs)] [(.int (0 : Int32)), (.int (4 : Int32))]) t → Steps p.tables e below s0 t := fun t kk_ => P6 t (st7.trans kk_)
    have P9 : ∀ t, GG p e below T7 (mkF m 10 #[.val (.ref xs)] [(.int (4 : Int32))]) t → Steps p.tables e below s0 t := fun t kk_ => P8 t (by
      refine XS.ishr X7.here hx rfl (hb hby d_length_9) rfl ?_
      exact kk_)
    subst hs0
    obtain ⟨fs, hr, hrun, hended, hW, hsame⟩ := X7.leave (v := some (.int (4 : Int32))) (fun h => by rw [Bd.returns] at h; cases h)
    refine ⟨_, _, P9 _ ?_, hrun, hended, _, _, rfl, ?_, ⟨_, rfl⟩, hW, hsame.mono (by decide) (by decide)⟩
    · show GG p e below T7 (mkF m 10 #[.val (.ref xs)] [(.int (4 : Int32))]) _
      exact retI X7 hx Bd.returns (hb hby d_length_10) hr
    · show Q_len4 Z xs tb kb (0 : Int32) (4 : Int32) [(.int (nar .byte (c0.toInt8.toInt32))), (.int (nar .byte (c1.toInt8.toInt32))), (.int (nar .byte (c2.toInt8.toInt32))), (.int (nar .byte (c3.toInt8.toInt32)))] c0 c1 c2 c3 G1 h0 n0 _ T7.heap _
      rw [e7]
      exact ⟨rfl, N7, rfl⟩
  ·
    obtain ⟨rfl, rfl, rfl⟩ := hcase
    have P10 : ∀ t, GG p e below s₁ (mkF m 1 #[.val (.ref xs)] [(.ref xs)]) t → Steps p.tables e below s0 t := fun t kk_ => P0 t (by
      refine XS.aloadN X0.here hx rfl (hb hby d_length_0) rfl rfl ?_
      exact kk_)
    obtain ⟨T11, X11, e11, st11⟩ := getF X0 hx hZ hown (host := "") (Or.inl (ww hw 52 rfl)) Via.refl e0 F_value_xs (g := (mkF m 1 #[.val (.ref xs)] [(.ref xs)])) rfl rfl (hb hby d_length_1)
    have P12 : ∀ t, GG p e below T11 (mkF m 4 #[.val (.ref xs)] [(.ref tb)]) t → Steps p.tables e below s0 t := fun t kk_ => P10 t (st11 _ kk_)
    obtain ⟨cl13, Ar13, -, S13, M13, -, -⟩ := id V_tb
    have P14 : ∀ t, GG p e below T11 (mkF m 5 #[.val (.ref xs)] [(.int (8 : Int32))]) t → Steps p.tables e below s0 t := fun t kk_ => P12 t (by
      refine X11.arraylength hx (by rw [e11]; exact Ar13.1) (State.isArrayOf_alike hZ.alike Ar13.2.1) (g := (mkF m 4 #[.val (.ref xs)] [(.ref tb)])) rfl rfl (hb hby d_length_4) _ ?_
      rw [len_of S13 M13]
      exact kk_)
    have P15 : ∀ t, GG p e below T11 (mkF m 6 #[.val (.ref xs)] [(.ref xs), (.int (8 : Int32))]) t → Steps p.tables e below s0 t := fun t kk_ => P14 t (by
      refine XS.aloadN X11.here hx rfl (hb hby d_length_5) rfl rfl ?_
      exact kk_)
    obtain ⟨cq16, kq16, q16a, q16b, q16c⟩ := isOf hZ e11 E_xs
    obtain ⟨_, _, ⟨T16, L16, k16, n16⟩, -, X16, ⟨Lc16, hQ16, l16, y16, z16⟩, st16⟩ := X11.virtualBack hx (y := mn_9) (z := mn_9) hown (mw hZ hw 103 rfl) (mw hZ hw 104 rfl) (notFace_of_selects (args := #[]) (mw hZ hw 106 rfl)) (mw hZ hw 106 rfl) (mw hZ hw 105 rfl) (by decide) (backOf (W := 1) (rm_coder1 l Z a0 hw [] xs G1 h0 n0 (Nat.le_trans Z0 (Nat.le_refl h0.size)) F_coder_xs S_COMPACT_STRINGS OL hz) hZ (ww hw 107 rfl) (ww hw 8 rfl) (by decide) (by decide)) q16a q16c (g := (mkF m 6 #[.val (.ref xs)] [(.ref xs), (.int (8 : Int32))])) rfl (by rw [hml]; rfl) (Steps.refl _) (argsL := []) (rest := [(.int (8 : Int32))]) (lenOf pd_8 rfl) rfl (by show 2 * 0 + _ ≤ _; exact Nat.le_of_eq rfl) (hb hby d_length_6) (fun _ _ => ⟨rfl, e11, (by decide : 0 + 0 ≤ _), (by decide : 0 + 0 ≤ _)⟩)
    dsimp only [Pt.U, Pt.locs, Pt.cells, Pt.slots] at X16 l16 y16 z16 st16 hQ16
    subst l16 y16 z16
    obtain ⟨rfl, N16q, e16⟩ := hQ16
    have N16 := Fr.app N0 N16q
    have P17 : ∀ t, GG p e below T16 (mkF m 9 #[.val (.ref xs)] [(.int (1 : Int32)), (.int (8 : Int32))]) t → Steps p.tables e below s0 t := fun t kk_ => P15 t (st16.trans kk_)
    have P18 : ∀ t, GG p e below T16 (mkF m 10 #[.val (.ref xs)] [(.int (4 : Int32))]) t → Steps p.tables e below s0 t := fun t kk_ => P17 t (by
      refine XS.ishr X16.here hx rfl (hb hby d_length_9) rfl ?_
      exact kk_)
    subst hs0
    obtain ⟨fs, hr, hrun, hended, hW, hsame⟩ := X16.leave (v := some (.int (4 : Int32))) (fun h => by rw [Bd.returns] at h; cases h)
    refine ⟨_, _, P18 _ ?_, hrun, hended, _, _, rfl, ?_, ⟨_, rfl⟩, hW, hsame.mono (by decide) (by decide)⟩
    · show GG p e below T16 (mkF m 10 #[.val (.ref xs)] [(.int (4 : Int32))]) _
      exact retI X16 hx Bd.returns (hb hby d_length_10) hr
    · show Q_len4 Z xs tb kb (1 : Int32) (8 : Int32) [(.int (nar .byte ((c0 >>> ((0 : Int32) &&& 31)).toInt8.toInt32))), (.int (nar .byte ((c0 >>> ((8 : Int32) &&& 31)).toInt8.toInt32))), (.int (nar .byte ((c1 >>> ((0 : Int32) &&& 31)).toInt8.toInt32))), (.int (nar .byte ((c1 >>> ((8 : Int32) &&& 31)).toInt8.toInt32))), (.int (nar .byte ((c2 >>> ((0 : Int32) &&& 31)).toInt8.toInt32))), (.int (nar .byte ((c2 >>> ((8 : Int32) &&& 31)).toInt8.toInt32))), (.int (nar .byte ((c3 >>> ((0 : Int32) &&& 31)).toInt8.toInt32))), (.int (nar .byte ((c3 >>> ((8 : Int32) &&& 31)).toInt8.toInt32)))] c0 c1 c2 c3 G1 h0 n0 _ T16.heap _
      rw [e16]
      exact ⟨rfl, N16, rfl⟩
theorem ef_ckI (m : MethodId) (x0 : Int32) (x1 : Int32) (x2 : Value) (h2 : x2.isRef = true) : entryFrame m #[(.int x0), (.int x1), x2] 3 = mkF m 0 #[.val (.int x0), .val (.int x1), .val x2] [] := by cases x2 <;> first | (simp [entryFrame, mkF, argsToLocals, Value.category]; done) | rfl | (simp [Value.isRef] at h2)
theorem pn_3 : plainName "jdk/internal/util/Preconditions" = true := by first | (simp [plainName, overriddenIn]; done) | decide +kernel
theorem d_checkIndex_0 : decode jdk_41_method_11_code 0 = .ok (.iload_n 0, 1) := by decide +kernel
theorem d_checkIndex_1 : decode jdk_41_method_11_code 1 = .ok (.ifCond .lt 8, 3) := by decide +kernel
theorem d_checkIndex_4 : decode jdk_41_method_11_code 4 = .ok (.iload_n 0, 1) := by decide +kernel
theorem d_checkIndex_5 : decode jdk_41_method_11_code 5 = .ok (.iload_n 1, 1) := by decide +kernel
theorem d_checkIndex_6 : decode jdk_41_method_11_code 6 = .ok (.if_icmp .lt 10, 3) := by decide +kernel
theorem d_checkIndex_16 : decode jdk_41_method_11_code 16 = .ok (.iload_n 0, 1) := by decide +kernel
theorem d_checkIndex_17 : decode jdk_41_method_11_code 17 = .ok (.ireturn, 1) := by decide +kernel
def Q_ckI (Z : State) (pi : Int32) (pn : Int32) (G3 : Value) (h0 : Heap) (n0 : Nat) (v : Option Value) (h : Heap) (L : List Loc) : Prop := v = some (.int pi) ∧ Fr n0 L ∧ h = h0
set_option maxRecDepth 65536 in
set_option maxHeartbeats 40000000 in
theorem rm_ckI (l : Launch) (Z : State) (a0 : Array Value) (hw : ∀ d ∈ tables_1, d.before a0 Z = true) (ws : List Jvm.Cond) (pi : Int32) (pn : Int32) (G3 : Value) (h0 : Heap) (n0 : Nat) (Z0 : n0 ≤ h0.size) (h1 : ¬ pi < 0) (h2 : pi < pn) (rG3 : G3.isRef = true) :
    MetFree l (⟨"jdk/internal/util/Preconditions", "checkIndex", "(IILjava/util/function/BiFunction;)I"⟩ : MethodName) (head1 (Jvm.Cond.code (⟨"jdk/internal/util/Preconditions", "checkIndex", "(IILjava/util/function/BiFunction;)I"⟩ : MethodName) jdk_41_method_11_code 3 (some .int) :: ws) ({ frames := 0, cells := 0, slots := 0, locals := 0 } : Room)) (fun a U => a = #[(.int pi), (.int pn), G3] ∧ Z.Warmed39 U.vm ∧ U.heap = h0) (fun _ _ _ _ _ => True) (fun _ U o U' => ∃ v L, o = .returned v ∧ Q_ckI Z pi pn G3 h0 n0 v U'.heap L ∧ FrameEnd U o U' L ({ frames := 0, cells := 0, slots := 0, locals := 0 } : Room).cells ({ frames := 0, cells := 0, slots := 0, locals := 0 } : Room).slots) := by
  refine MetFree.of_bodySF (plainFor_of_name pn_3) hisR ?_
  intro p e s m args below meth c s₁ Bd hml0 hP hK
  obtain ⟨rfl, hZ, hh⟩ := hP
  have hx := Bd.exec
  have hby := Bd.bytes
  have hml : c.maxLocals = 3 := hml0
  have hown : s.vm.findClass "jdk/internal/util/Preconditions" = some m.cls := findClass_of_methodNamed Bd.named
  have hnm := (name_of_methodNamed Bd.named Bd.method).1
  have X0 : Stand p l e ({ frames := 0, cells := 0, slots := 0, locals := 0 } : Room) s m #[(.int pi), (.int pn), G3] below meth c s₁ [] 0 0 := Stand.of_body Bd
  have e0 : s₁.heap = h0 := by rw [← hh, Bd.state]; rfl
  have N0 := Fr.nil n0
  obtain ⟨s0, hs0⟩ : ∃ z, z = (s₁.setTop (entryFrame m #[(.int pi), (.int pn), G3] 3)) := ⟨_, rfl⟩
  have P0 : ∀ t, GG p e below s₁ (mkF m 0 #[.val (.int pi), .val (.int pn), .val G3] []) t → Steps p.tables e below s0 t := fun t kk_ => by rw [hs0]; exact castTop (ef_ckI m pi pn G3 rG3) kk_
  have P1 : ∀ t, GG p e below s₁ (mkF m 17 #[.val (.int pi), .val (.int pn), .val G3] [(.int pi)]) t → Steps p.tables e below s0 t := fun t kk_ => P0 t (by
    refine XS.iloadN X0.here hx rfl (hb hby d_checkIndex_0) rfl ?_
    refine XS.ifNo X0.here hx rfl (hb hby d_checkIndex_1) rfl ((if0 _ _).trans (flt (h1 : ¬ (pi < (0 : Int32)))).1) ?_
    refine XS.iloadN X0.here hx rfl (hb hby d_checkIndex_4) rfl ?_
    refine XS.iloadN X0.here hx rfl (hb hby d_checkIndex_5) rfl ?_
    refine XS.icmpYes X0.here hx rfl (pc0 := 6) (pc' := 16) rfl (hb hby d_checkIndex_6) rfl (tlt (h2 : pi < pn)).1 (by decide) (by decide) ?_
    refine XS.iloadN X0.here hx rfl (hb hby d_checkIndex_16) rfl ?_
    exact kk_)
  subst hs0
  obtain ⟨fs, hr, hrun, hended, hW, hsame⟩ := X0.leave (v := some (.int pi)) (fun h => by rw [Bd.returns] at h; cases h)
  refine ⟨_, _, P1 _ ?_, hrun, hended, _, _, rfl, ?_, ⟨_, rfl⟩, hW, hsame.mono (by decide) (by decide)⟩
  · show GG p e below s₁ (mkF m 17 #[.val (.int pi), .val (.int pn), .val G3] [(.int pi)]) _
    exact retI X0 hx Bd.returns (hb hby d_checkIndex_17) hr
  · show Q_ckI Z pi pn G3 h0 n0 _ s₁.heap _
    rw [e0]
    exact ⟨rfl, N0, rfl⟩
theorem ef_ckS (m : MethodId) (x0 : Int32) (x1 : Int32) : entryFrame m #[(.int x0), (.int x1)] 2 = mkF m 0 #[.val (.int x0), .val (.int x1)] [] := by first | (simp [entryFrame, mkF, argsToLocals, Value.category]; done) | rfl
theorem d_checkIndex2_0 : decode jdk_42_method_155_code 0 = .ok (.iload_n 0, 1) := by decide +kernel
theorem d_checkIndex2_1 : decode jdk_42_method_155_code 1 = .ok (.iload_n 1, 1) := by decide +kernel
theorem d_checkIndex2_2 : decode jdk_42_method_155_code 2 = .ok (.getstatic 1053, 3) := by decide +kernel
theorem pd_9 : parseMethodDescriptor "(IILjava/util/function/BiFunction;)I" = some ⟨[.int, .int, (.object "java/util/function/BiFunction")], some .int⟩ := by decide +kernel
theorem d_checkIndex2_5 : decode jdk_42_method_155_code 5 = .ok (.invokestatic 1059, 3) := by decide +kernel
abbrev mn_10 : MethodName := ⟨"jdk/internal/util/Preconditions", "checkIndex", "(IILjava/util/function/BiFunction;)I"⟩
theorem d_checkIndex2_8 : decode jdk_42_method_155_code 8 = .ok (.pop, 1) := by decide +kernel
theorem d_checkIndex2_9 : decode jdk_42_method_155_code 9 = .ok (.return_, 1) := by decide +kernel
def Q_ckS (Z : State) (pi : Int32) (pn : Int32) (G3 : Value) (h0 : Heap) (n0 : Nat) (v : Option Value) (h : Heap) (L : List Loc) : Prop := v = none ∧ Fr n0 L ∧ h = h0
set_option maxRecDepth 65536 in
set_option maxHeartbeats 40000000 in
theorem rm_ckS (l : Launch) (Z : State) (a0 : Array Value) (hw : ∀ d ∈ tables_1, d.before a0 Z = true) (ws : List Jvm.Cond) (pi : Int32) (pn : Int32) (G3 : Value) (h0 : Heap) (n0 : Nat) (Z0 : n0 ≤ h0.size) (h1 : ¬ pi < 0) (h2 : pi < pn) (rG3 : G3.isRef = true) (S_SIOOBE_FORMATTER : Sta Z Z.heap "jdk/internal/util/Preconditions" "SIOOBE_FORMATTER" "Ljava/util/function/BiFunction;" G3) (OL : Old Z n0 h0) :
    MetFree l (⟨"java/lang/String", "checkIndex", "(II)V"⟩ : MethodName) (head1 (Jvm.Cond.code (⟨"java/lang/String", "checkIndex", "(II)V"⟩ : MethodName) jdk_42_method_155_code 2 none :: ws) ({ frames := 1, cells := 0, slots := 0, locals := 14 } : Room)) (fun a U => a = #[(.int pi), (.int pn)] ∧ Z.Warmed39 U.vm ∧ U.heap = h0) (fun _ _ _ _ _ => True) (fun _ U o U' => ∃ v L, o = .returned v ∧ Q_ckS Z pi pn G3 h0 n0 v U'.heap L ∧ FrameEnd U o U' L ({ frames := 1, cells := 0, slots := 0, locals := 14 } : Room).cells ({ frames := 1, cells := 0, slots := 0, locals := 14 } : Room).slots) := by
  refine MetFree.of_bodySF (plainFor_of_name pn_2) hisR ?_
  intro p e s m args below meth c s₁ Bd hml0 hP hK
  obtain ⟨rfl, hZ, hh⟩ := hP
  have hx := Bd.exec
  have hby := Bd.bytes
  have hml : c.maxLocals = 2 := hml0
  have hown : s.vm.findClass "java/lang/String" = some m.cls := findClass_of_methodNamed Bd.named
  have hnm := (name_of_methodNamed Bd.named Bd.method).1
  have X0 : Stand p l e ({ frames := 1, cells := 0, slots := 0, locals := 14 } : Room) s m #[(.int pi), (.int pn)] below meth c s₁ [] 0 0 := Stand.of_body Bd
  have e0 : s₁.heap = h0 := by rw [← hh, Bd.state]; rfl
  have N0 := Fr.nil n0
  obtain ⟨s0, hs0⟩ : ∃ z, z = (s₁.setTop (entryFrame m #[(.int pi), (.int pn)] 2)) := ⟨_, rfl⟩
  have P0 : ∀ t, GG p e below s₁ (mkF m 0 #[.val (.int pi), .val (.int pn)] []) t → Steps p.tables e below s0 t := fun t kk_ => by rw [hs0]; exact castTop (ef_ckS m pi pn) kk_
  have P1 : ∀ t, GG p e below s₁ (mkF m 2 #[.val (.int pi), .val (.int pn)] [(.int pn), (.int pi)]) t → Steps p.tables e below s0 t := fun t kk_ => P0 t (by
    refine XS.iloadN X0.here hx rfl (hb hby d_checkIndex2_0) rfl ?_
    refine XS.iloadN X0.here hx rfl (hb hby d_checkIndex2_1) rfl ?_
    exact kk_)
  obtain ⟨T2, X2, e2, st2⟩ := getS2 X0 hx hZ hown (host := "") (Or.inl (ww hw 90 rfl)) Via.refl e0 (S_SIOOBE_FORMATTER.ext OL.2) (g := (mkF m 2 #[.val (.int pi), .val (.int pn)] [(.int pn), (.int pi)])) rfl (hb hby d_checkIndex2_2)
  have P3 : ∀ t, GG p e below T2 (mkF m 5 #[.val (.int pi), .val (.int pn)] [G3, (.int pn), (.int pi)]) t → Steps p.tables e below s0 t := fun t kk_ => P1 t (st2 _ kk_)
  obtain ⟨_, _, ⟨T4, L4, k4, n4⟩, -, X4, ⟨Lc4, hQ4, l4, y4, z4⟩, st4⟩ := Jvm.LawKit.callS X2 hx (y := mn_10) hown (mw hZ hw 92 rfl) (mw hZ hw 93 rfl) (mw hZ hw 91 rfl) (mw hZ hw 94 rfl) (by decide) (backOf (W := 0) (rm_ckI l Z a0 hw [] pi pn G3 h0 n0 (Nat.le_trans Z0 (Nat.le_refl h0.size)) h1 h2 rG3) hZ (ww hw 94 rfl) (ww hw 91 rfl) (by decide) (by decide)) (g := (mkF m 5 #[.val (.int pi), .val (.int pn)] [G3, (.int pn), (.int pi)])) rfl (by rw [hml]; rfl) (argsL := [(.int pi), (.int pn), G3]) (rest := []) (lenOf pd_9 rfl) rfl (by show 2 * 0 + _ ≤ _; exact Nat.le_of_eq rfl) (hb hby d_checkIndex2_5) (fun _ _ => ⟨rfl, e2, (by decide : 0 + 0 ≤ _), (by decide : 0 + 0 ≤ _)⟩)
  dsimp only [Pt.U, Pt.locs, Pt.cells, Pt.slots] at X4 l4 y4 z4 st4 hQ4
  subst l4 y4 z4
  obtain ⟨rfl, N4q, e4⟩ := hQ4
  have N4 := Fr.app N0 N4q
  have P5 : ∀ t, GG p e below T4 (mkF m 8 #[.val (.int pi), .val (.int pn)] [(.int pi)]) t → Steps p.tables e below s0 t := fun t kk_ => P3 t (st4 _ kk_)
  have P6 : ∀ t, GG p e below T4 (mkF m 9 #[.val (.int pi), .val (.int pn)] []) t → Steps p.tables e below s0 t := fun t kk_ => P5 t (by
    refine XS.pop X4.here hx rfl (hb hby d_checkIndex2_8) rfl rfl ?_
    exact kk_)
  subst hs0
  obtain ⟨fs, hr, hrun, hended, hW, hsame⟩ := X4.leave (v := none) (fun _ => rfl)
  refine ⟨_, _, P6 _ ?_, hrun, hended, _, _, rfl, ?_, ⟨_, rfl⟩, hW, hsame.mono (by decide) (by decide)⟩
  · show GG p e below T4 (mkF m 9 #[.val (.int pi), .val (.int pn)] []) _
    exact X4.returnOut hx Bd.returns (hb hby d_checkIndex2_9) hr
  · show Q_ckS Z pi pn G3 h0 n0 _ T4.heap _
    rw [e4]
    exact ⟨rfl, N4, rfl⟩
theorem ef_uLen (m : MethodId) (x0 : Addr) : entryFrame m #[(.ref x0)] 1 = mkF m 0 #[.val (.ref x0)] [] := by first | (simp [entryFrame, mkF, argsToLocals, Value.category]; done) | rfl
theorem d_length2_0 : decode jdk_52_method_6_code 0 = .ok (.aload_n 0, 1) := by decide +kernel
theorem d_length2_1 : decode jdk_52_method_6_code 1 = .ok (.arraylength, 1) := by decide +kernel
theorem d_length2_2 : decode jdk_52_method_6_code 2 = .ok (.iconst 1, 1) := by decide +kernel
theorem d_length2_3 : decode jdk_52_method_6_code 3 = .ok (.ishr, 1) := by decide +kernel
theorem d_length2_4 : decode jdk_52_method_6_code 4 = .ok (.ireturn, 1) := by decide +kernel
def Q_uLen (Z : State) (tb : Addr) (kb : ClassId) (vs : List Value) (h0 : Heap) (n0 : Nat) (v : Option Value) (h : Heap) (L : List Loc) : Prop := v = some (.int (4 : Int32)) ∧ Fr n0 L ∧ h = h0
set_option maxRecDepth 65536 in
set_option maxHeartbeats 40000000 in
theorem rm_uLen (l : Launch) (Z : State) (a0 : Array Value) (hw : ∀ d ∈ tables_1, d.before a0 Z = true) (ws : List Jvm.Cond) (tb : Addr) (kb : ClassId) (vs : List Value) (h0 : Heap) (n0 : Nat) (Z0 : n0 ≤ h0.size) (V_tb : Arv Z h0 tb kb .byte (8 : Int32) vs (.int (0 : Int32))) :
    MetFree l (⟨"java/lang/StringUTF16", "length", "([B)I"⟩ : MethodName) (head1 (Jvm.Cond.code (⟨"java/lang/StringUTF16", "length", "([B)I"⟩ : MethodName) jdk_52_method_6_code 1 (some .int) :: ws) ({ frames := 0, cells := 0, slots := 0, locals := 0 } : Room)) (fun a U => a = #[(.ref tb)] ∧ Z.Warmed39 U.vm ∧ U.heap = h0) (fun _ _ _ _ _ => True) (fun _ U o U' => ∃ v L, o = .returned v ∧ Q_uLen Z tb kb vs h0 n0 v U'.heap L ∧ FrameEnd U o U' L ({ frames := 0, cells := 0, slots := 0, locals := 0 } : Room).cells ({ frames := 0, cells := 0, slots := 0, locals := 0 } : Room).slots) := by
  refine MetFree.of_bodySF (plainFor_of_name pn_1) hisR ?_
  intro p e s m args below meth c s₁ Bd hml0 hP hK
  obtain ⟨rfl, hZ, hh⟩ := hP
  have hx := Bd.exec
  have hby := Bd.bytes
  have hml : c.maxLocals = 1 := hml0
  have hown : s.vm.findClass "java/lang/StringUTF16" = some m.cls := findClass_of_methodNamed Bd.named
  have hnm := (name_of_methodNamed Bd.named Bd.method).1
  have X0 : Stand p l e ({ frames := 0, cells := 0, slots := 0, locals := 0 } : Room) s m #[(.ref tb)] below meth c s₁ [] 0 0 := Stand.of_body Bd
  have e0 : s₁.heap = h0 := by rw [← hh, Bd.state]; rfl
  have N0 := Fr.nil n0
  obtain ⟨s0, hs0⟩ : ∃ z, z = (s₁.setTop (entryFrame m #[(.ref tb)] 1)) := ⟨_, rfl⟩
  have P0 : ∀ t, GG p e below s₁ (mkF m 0 #[.val (.ref tb)] []) t → Steps p.tables e below s0 t := fun t kk_ => by rw [hs0]; exact castTop (ef_uLen m tb) kk_
  have P1 : ∀ t, GG p e below s₁ (mkF m 1 #[.val (.ref tb)] [(.ref tb)]) t → Steps p.tables e below s0 t := fun t kk_ => P0 t (by
    refine XS.aloadN X0.here hx rfl (hb hby d_length2_0) rfl rfl ?_
    exact kk_)
  obtain ⟨cl2, Ar2, -, S2, M2, -, -⟩ := id V_tb
  have P3 : ∀ t, GG p e below s₁ (mkF m 2 #[.val (.ref tb)] [(.int (8 : Int32))]) t → Steps p.tables e below s0 t := fun t kk_ => P1 t (by
    refine X0.arraylength hx (by rw [e0]; exact Ar2.1) (State.isArrayOf_alike hZ.alike Ar2.2.1) (g := (mkF m 1 #[.val (.ref tb)] [(.ref tb)])) rfl rfl (hb hby d_length2_1) _ ?_
    rw [len_of S2 M2]
    exact kk_)
  have P4 : ∀ t, GG p e below s₁ (mkF m 4 #[.val (.ref tb)] [(.int (4 : Int32))]) t → Steps p.tables e below s0 t := fun t kk_ => P3 t (by
    refine XS.iconst X0.here hx rfl (hb hby d_length2_2) ?_
    refine XS.ishr X0.here hx rfl (hb hby d_length2_3) rfl ?_
    exact kk_)
  subst hs0
  obtain ⟨fs, hr, hrun, hended, hW, hsame⟩ := X0.leave (v := some (.int (4 : Int32))) (fun h => by rw [Bd.returns] at h; cases h)
  refine ⟨_, _, P4 _ ?_, hrun, hended, _, _, rfl, ?_, ⟨_, rfl⟩, hW, hsame.mono (by decide) (by decide)⟩
  · show GG p e below s₁ (mkF m 4 #[.val (.ref tb)] [(.int (4 : Int32))]) _
    exact retI X0 hx Bd.returns (hb hby d_length2_4) hr
  · show Q_uLen Z tb kb vs h0 n0 _ s₁.heap _
    rw [e0]
    exact ⟨rfl, N0, rfl⟩
theorem ef_uCk (m : MethodId) (x0 : Int32) (x1 : Addr) : entryFrame m #[(.int x0), (.ref x1)] 2 = mkF m 0 #[.val (.int x0), .val (.ref x1)] [] := by first | (simp [entryFrame, mkF, argsToLocals, Value.category]; done) | rfl
theorem d_checkIndex3_0 : decode jdk_52_method_91_code 0 = .ok (.iload_n 0, 1) := by decide +kernel
theorem d_checkIndex3_1 : decode jdk_52_method_91_code 1 = .ok (.aload_n 1, 1) := by decide +kernel
theorem pd_10 : parseMethodDescriptor "([B)I" = some ⟨[(.array .byte)], some .int⟩ := by decide +kernel
theorem d_checkIndex3_2 : decode jdk_52_method_91_code 2 = .ok (.invokestatic 48, 3) := by decide +kernel
abbrev mn_11 : MethodName := ⟨"java/lang/StringUTF16", "length", "([B)I"⟩
theorem pd_11 : parseMethodDescriptor "(II)V" = some ⟨[.int, .int], none⟩ := by decide +kernel
theorem d_checkIndex3_5 : decode jdk_52_method_91_code 5 = .ok (.invokestatic 414, 3) := by decide +kernel
abbrev mn_12 : MethodName := ⟨"java/lang/String", "checkIndex", "(II)V"⟩
theorem d_checkIndex3_8 : decode jdk_52_method_91_code 8 = .ok (.return_, 1) := by decide +kernel
def Q_uCk (Z : State) (pi : Int32) (tb : Addr) (kb : ClassId) (vs : List Value) (G3 : Value) (h0 : Heap) (n0 : Nat) (v : Option Value) (h : Heap) (L : List Loc) : Prop := v = none ∧ Fr n0 L ∧ h = h0
set_option maxRecDepth 65536 in
set_option maxHeartbeats 40000000 in
theorem rm_uCk (l : Launch) (Z : State) (a0 : Array Value) (hw : ∀ d ∈ tables_1, d.before a0 Z = true) (ws : List Jvm.Cond) (pi : Int32) (tb : Addr) (kb : ClassId) (vs : List Value) (G3 : Value) (h0 : Heap) (n0 : Nat) (Z0 : n0 ≤ h0.size) (V_tb : Arv Z h0 tb kb .byte (8 : Int32) vs (.int (0 : Int32))) (h1 : ¬ pi < 0) (h2 : pi < 4) (rG3 : G3.isRef = true) (S_SIOOBE_FORMATTER : Sta Z Z.heap "jdk/internal/util/Preconditions" "SIOOBE_FORMATTER" "Ljava/util/function/BiFunction;" G3) (OL : Old Z n0 h0) :
    MetFree l (⟨"java/lang/StringUTF16", "checkIndex", "(I[B)V"⟩ : MethodName) (head1 (Jvm.Cond.code (⟨"java/lang/StringUTF16", "checkIndex", "(I[B)V"⟩ : MethodName) jdk_52_method_91_code 2 none :: ws) ({ frames := 2, cells := 0, slots := 0, locals := 27 } : Room)) (fun a U => a = #[(.int pi), (.ref tb)] ∧ Z.Warmed39 U.vm ∧ U.heap = h0) (fun _ _ _ _ _ => True) (fun _ U o U' => ∃ v L, o = .returned v ∧ Q_uCk Z pi tb kb vs G3 h0 n0 v U'.heap L ∧ FrameEnd U o U' L ({ frames := 2, cells := 0, slots := 0, locals := 27 } : Room).cells ({ frames := 2, cells := 0, slots := 0, locals := 27 } : Room).slots) := by
  refine MetFree.of_bodySF (plainFor_of_name pn_1) hisR ?_
  intro p e s m args below meth c s₁ Bd hml0 hP hK
  obtain ⟨rfl, hZ, hh⟩ := hP
  have hx := Bd.exec
  have hby := Bd.bytes
  have hml : c.maxLocals = 2 := hml0
  have hown : s.vm.findClass "java/lang/StringUTF16" = some m.cls := findClass_of_methodNamed Bd.named
  have hnm := (name_of_methodNamed Bd.named Bd.method).1
  have X0 : Stand p l e ({ frames := 2, cells := 0, slots := 0, locals := 27 } : Room) s m #[(.int pi), (.ref tb)] below meth c s₁ [] 0 0 := Stand.of_body Bd
  have e0 : s₁.heap = h0 := by rw [← hh, Bd.state]; rfl
  have N0 := Fr.nil n0
  obtain ⟨s0, hs0⟩ : ∃ z, z = (s₁.setTop (entryFrame m #[(.int pi), (.ref tb)] 2)) := ⟨_, rfl⟩
  have P0 : ∀ t, GG p e below s₁ (mkF m 0 #[.val (.int pi), .val (.ref tb)] []) t → Steps p.tables e below s0 t := fun t kk_ => by rw [hs0]; exact castTop (ef_uCk m pi tb) kk_
  have P1 : ∀ t, GG p e below s₁ (mkF m 2 #[.val (.int pi), .val (.ref tb)] [(.ref tb), (.int pi)]) t → Steps p.tables e below s0 t := fun t kk_ => P0 t (by
    refine XS.iloadN X0.here hx rfl (hb hby d_checkIndex3_0) rfl ?_
    refine XS.aloadN X0.here hx rfl (hb hby d_checkIndex3_1) rfl rfl ?_
    exact kk_)
  obtain ⟨_, _, ⟨T2, L2, k2, n2⟩, -, X2, ⟨Lc2, hQ2, l2, y2, z2⟩, st2⟩ := Jvm.LawKit.callS X0 hx (y := mn_11) hown (mw hZ hw 84 rfl) (mw hZ hw 85 rfl) (mw hZ hw 22 rfl) (mw hZ hw 86 rfl) (by decide) (backOf (W := 1) (rm_uLen l Z a0 hw [] tb kb vs h0 n0 (Nat.le_trans Z0 (Nat.le_refl h0.size)) V_tb) hZ (ww hw 86 rfl) (ww hw 22 rfl) (by decide) (by decide)) (g := (mkF m 2 #[.val (.int pi), .val (.ref tb)] [(.ref tb), (.int pi)])) rfl (by rw [hml]; rfl) (argsL := [(.ref tb)]) (rest := [(.int pi)]) (lenOf pd_10 rfl) rfl (by show 2 * 0 + _ ≤ _; exact Nat.le_of_eq rfl) (hb hby d_checkIndex3_2) (fun _ _ => ⟨rfl, e0, (by decide : 0 + 0 ≤ _), (by decide : 0 + 0 ≤ _)⟩)
  dsimp only [Pt.U, Pt.locs, Pt.cells, Pt.slots] at X2 l2 y2 z2 st2 hQ2
  subst l2 y2 z2
  obtain ⟨rfl, N2q, e2⟩ := hQ2
  have N2 := Fr.app N0 N2q
  have P3 : ∀ t, GG p e below T2 (mkF m 5 #[.val (.int pi), .val (.ref tb)] [(.int (4 : Int32)), (.int pi)]) t → Steps p.tables e below s0 t := fun t kk_ => P1 t (st2 _ kk_)
  obtain ⟨_, _, ⟨T4, L4, k4, n4⟩, -, X4, ⟨Lc4, hQ4, l4, y4, z4⟩, st4⟩ := Jvm.LawKit.callS X2 hx (y := mn_12) hown (mw hZ hw 87 rfl) (mw hZ hw 88 rfl) (mw hZ hw 8 rfl) (mw hZ hw 89 rfl) (by decide) (backOf (W := 0) (rm_ckS l Z a0 hw [] pi (4 : Int32) G3 h0 n0 (Nat.le_trans Z0 (Nat.le_refl h0.size)) h1 h2 rG3 S_SIOOBE_FORMATTER OL) hZ (ww hw 89 rfl) (ww hw 8 rfl) (by decide) (by decide)) (g := (mkF m 5 #[.val (.int pi), .val (.ref tb)] [(.int (4 : Int32)), (.int pi)])) rfl (by rw [hml]; rfl) (argsL := [(.int pi), (.int (4 : Int32))]) (rest := []) (lenOf pd_11 rfl) rfl (by show 2 * 0 + _ ≤ _; exact Nat.le_of_eq rfl) (hb hby d_checkIndex3_5) (fun _ _ => ⟨rfl, e2, (by decide : 0 + 0 ≤ _), (by decide : 0 + 0 ≤ _)⟩)
  dsimp only [Pt.U, Pt.locs, Pt.cells, Pt.slots] at X4 l4 y4 z4 st4 hQ4
  subst l4 y4 z4
  obtain ⟨rfl, N4q, e4⟩ := hQ4
  have N4 := Fr.app N2 N4q
  have P5 : ∀ t, GG p e below T4 (mkF m 8 #[.val (.int pi), .val (.ref tb)] []) t → Steps p.tables e below s0 t := fun t kk_ => P3 t (st4 _ kk_)
  subst hs0
  obtain ⟨fs, hr, hrun, hended, hW, hsame⟩ := X4.leave (v := none) (fun _ => rfl)
  refine ⟨_, _, P5 _ ?_, hrun, hended, _, _, rfl, ?_, ⟨_, rfl⟩, hW, hsame.mono (by decide) (by decide)⟩
  · show GG p e below T4 (mkF m 8 #[.val (.int pi), .val (.ref tb)] []) _
    exact X4.returnOut hx Bd.returns (hb hby d_checkIndex3_8) hr
  · show Q_uCk Z pi tb kb vs G3 h0 n0 _ T4.heap _
    rw [e4]
    exact ⟨rfl, N4, rfl⟩
theorem ef_lCh0 (m : MethodId) (x0 : Addr) : entryFrame m #[(.ref x0), (.int (0 : Int32))] 2 = mkF m 0 #[.val (.ref x0), .val (.int (0 : Int32))] [] := by first | (simp [entryFrame, mkF, argsToLocals, Value.category]; done) | rfl
theorem pn_4 : plainName "java/lang/StringLatin1" = true := by first | (simp [plainName, overriddenIn]; done) | decide +kernel
theorem d_charAt_0 : decode jdk_43_method_2_code 0 = .ok (.iload_n 1, 1) := by decide +kernel
theorem d_charAt_1 : decode jdk_43_method_2_code 1 = .ok (.aload_n 0, 1) := by decide +kernel
theorem d_charAt_2 : decode jdk_43_method_2_code 2 = .ok (.arraylength, 1) := by decide +kernel
theorem d_charAt_3 : decode jdk_43_method_2_code 3 = .ok (.invokestatic 9, 3) := by decide +kernel
theorem d_charAt_6 : decode jdk_43_method_2_code 6 = .ok (.aload_n 0, 1) := by decide +kernel
theorem d_charAt_7 : decode jdk_43_method_2_code 7 = .ok (.iload_n 1, 1) := by decide +kernel
theorem d_charAt_8 : decode jdk_43_method_2_code 8 = .ok (.baload, 1) := by decide +kernel
theorem d_charAt_9 : decode jdk_43_method_2_code 9 = .ok (.sipush 255, 3) := by decide +kernel
theorem d_charAt_12 : decode jdk_43_method_2_code 12 = .ok (.iand, 1) := by decide +kernel
theorem d_charAt_13 : decode jdk_43_method_2_code 13 = .ok (.i2c, 1) := by decide +kernel
theorem d_charAt_14 : decode jdk_43_method_2_code 14 = .ok (.ireturn, 1) := by decide +kernel
def Q_lCh0 (Z : State) (tb : Addr) (kb : ClassId) (ga : Int32) (G3 : Value) (v1 : Value) (v2 : Value) (v3 : Value) (h0 : Heap) (n0 : Nat) (v : Option Value) (h : Heap) (L : List Loc) : Prop := v = some (.int (nar .char (((ga &&& (255 : Int32))).toUInt32.toUInt16.toUInt32.toInt32))) ∧ Fr n0 L ∧ h = h0
set_option maxRecDepth 65536 in
set_option maxHeartbeats 40000000 in
theorem rm_lCh0 (l : Launch) (Z : State) (a0 : Array Value) (hw : ∀ d ∈ tables_1, d.before a0 Z = true) (ws : List Jvm.Cond) (tb : Addr) (kb : ClassId) (ga : Int32) (G3 : Value) (v1 : Value) (v2 : Value) (v3 : Value) (h0 : Heap) (n0 : Nat) (Z0 : n0 ≤ h0.size) (V_tb : Arv Z h0 tb kb .byte (4 : Int32) [(.int ga), v1, v2, v3] (.int (0 : Int32))) (rG3 : G3.isRef = true) (S_SIOOBE_FORMATTER : Sta Z Z.heap "jdk/internal/util/Preconditions" "SIOOBE_FORMATTER" "Ljava/util/function/BiFunction;" G3) (OL : Old Z n0 h0) :
    MetFree l (⟨"java/lang/StringLatin1", "charAt", "([BI)C"⟩ : MethodName) (head1 (Jvm.Cond.code (⟨"java/lang/StringLatin1", "charAt", "([BI)C"⟩ : MethodName) jdk_43_method_2_code 2 (some .char) :: ws) ({ frames := 2, cells := 0, slots := 0, locals := 27 } : Room)) (fun a U => a = #[(.ref tb), (.int (0 : Int32))] ∧ Z.Warmed39 U.vm ∧ U.heap = h0) (fun _ _ _ _ _ => True) (fun _ U o U' => ∃ v L, o = .returned v ∧ Q_lCh0 Z tb kb ga G3 v1 v2 v3 h0 n0 v U'.heap L ∧ FrameEnd U o U' L ({ frames := 2, cells := 0, slots := 0, locals := 27 } : Room).cells ({ frames := 2, cells := 0, slots := 0, locals := 27 } : Room).slots) := by
  refine MetFree.of_bodySF (plainFor_of_name pn_4) hisR ?_
  intro p e s m args below meth c s₁ Bd hml0 hP hK
  obtain ⟨rfl, hZ, hh⟩ := hP
  have hx := Bd.exec
  have hby := Bd.bytes
  have hml : c.maxLocals = 2 := hml0
  have hown : s.vm.findClass "java/lang/StringLatin1" = some m.cls := findClass_of_methodNamed Bd.named
  have hnm := (name_of_methodNamed Bd.named Bd.method).1
  have X0 : Stand p l e ({ frames := 2, cells := 0, slots := 0, locals := 27 } : Room) s m #[(.ref tb), (.int (0 : Int32))] below meth c s₁ [] 0 0 := Stand.of_body Bd
  have e0 : s₁.heap = h0 := by rw [← hh, Bd.state]; rfl
  have N0 := Fr.nil n0
  obtain ⟨s0, hs0⟩ : ∃ z, z = (s₁.setTop (entryFrame m #[(.ref tb), (.int (0 : Int32))] 2)) := ⟨_, rfl⟩
  have P0 : ∀ t, GG p e below s₁ (mkF m 0 #[.val (.ref tb), .val (.int (0 : Int32))] []) t → Steps p.tables e below s0 t := fun t kk_ => by rw [hs0]; exact castTop (ef_lCh0 m tb) kk_
  have P1 : ∀ t, GG p e below s₁ (mkF m 2 #[.val (.ref tb), .val (.int (0 : Int32))] [(.ref tb), (.int (0 : Int32))]) t → Steps p.tables e below s0 t := fun t kk_ => P0 t (by
    refine XS.iloadN X0.here hx rfl (hb hby d_charAt_0) rfl ?_
    refine XS.aloadN X0.here hx rfl (hb hby d_charAt_1) rfl rfl ?_
    exact kk_)
  obtain ⟨cl2, Ar2, -, S2, M2, -, -⟩ := id V_tb
  have P3 : ∀ t, GG p e below s₁ (mkF m 3 #[.val (.ref tb), .val (.int (0 : Int32))] [(.int (4 : Int32)), (.int (0 : Int32))]) t → Steps p.tables e below s0 t := fun t kk_ => P1 t (by
    refine X0.arraylength hx (by rw [e0]; exact Ar2.1) (State.isArrayOf_alike hZ.alike Ar2.2.1) (g := (mkF m 2 #[.val (.ref tb), .val (.int (0 : Int32))] [(.ref tb), (.int (0 : Int32))])) rfl rfl (hb hby d_charAt_2) _ ?_
    rw [len_of S2 M2]
    exact kk_)
  obtain ⟨_, _, ⟨T4, L4, k4, n4⟩, -, X4, ⟨Lc4, hQ4, l4, y4, z4⟩, st4⟩ := Jvm.LawKit.callS X0 hx (y := mn_12) hown (mw hZ hw 112 rfl) (mw hZ hw 88 rfl) (mw hZ hw 8 rfl) (mw hZ hw 89 rfl) (by decide) (backOf (W := 0) (rm_ckS l Z a0 hw [] (0 : Int32) (4 : Int32) G3 h0 n0 (Nat.le_trans Z0 (Nat.le_refl h0.size)) (by decide) (by decide) rG3 S_SIOOBE_FORMATTER OL) hZ (ww hw 89 rfl) (ww hw 8 rfl) (by decide) (by decide)) (g := (mkF m 3 #[.val (.ref tb), .val (.int (0 : Int32))] [(.int (4 : Int32)), (.int (0 : Int32))])) rfl (by rw [hml]; rfl) (argsL := [(.int (0 : Int32)), (.int (4 : Int32))]) (rest := []) (lenOf pd_11 rfl) rfl (by show 2 * 0 + _ ≤ _; exact Nat.le_of_eq rfl) (hb hby d_charAt_3) (fun _ _ => ⟨rfl, e0, (by decide : 0 + 0 ≤ _), (by decide : 0 + 0 ≤ _)⟩)
  dsimp only [Pt.U, Pt.locs, Pt.cells, Pt.slots] at X4 l4 y4 z4 st4 hQ4
  subst l4 y4 z4
  obtain ⟨rfl, N4q, e4⟩ := hQ4
  have N4 := Fr.app N0 N4q
  have P5 : ∀ t, GG p e below T4 (mkF m 6 #[.val (.ref tb), .val (.int (0 : Int32))] []) t → Steps p.tables e below s0 t := fun t kk_ => P3 t (st4 _ kk_)
  have P6 : ∀ t, GG p e below T4 (mkF m 8 #[.val (.ref tb), .val (.int (0 : Int32))] [(.int (0 : Int32)), (.ref tb)]) t → Steps p.tables e below s0 t := fun t kk_ => P5 t (by
    refine XS.aloadN X4.here hx rfl (hb hby d_charAt_6) rfl rfl ?_
    refine XS.iloadN X4.here hx rfl (hb hby d_charAt_7) rfl ?_
    exact kk_)
  obtain ⟨cl7, Ar7, q7, S7, M7, Hs7, G7⟩ := id V_tb
  have hin7 := inb_of (j := (0 : Int32)) S7 ⟨by decide, by decide⟩
  have hat7 : cl7.slots[((0 : Int32)).toNatClampNeg]? = some (.int ga) := Has.at Hs7 hin7 (rfl)
  have P8 : ∀ t, GG p e below T4 (mkF m 9 #[.val (.ref tb), .val (.int (0 : Int32))] [(.int ga)]) t → Steps p.tables e below s0 t := fun t kk_ => P6 t (by
    refine X4.baloadBytes hx (j := (0 : Int32)) (v := (.int ga)) (by rw [e4]; exact Ar7.1) (State.isArrayOf_alike hZ.alike Ar7.2.1) Ar7.2.2 hin7 hat7 (g := (mkF m 8 #[.val (.ref tb), .val (.int (0 : Int32))] [(.int (0 : Int32)), (.ref tb)])) rfl rfl (hb hby d_charAt_8) _ ?_
    exact kk_)
  have P9 : ∀ t, GG p e below T4 (mkF m 14 #[.val (.ref tb), .val (.int (0 : Int32))] [(.int ((ga &&& (255 : Int32)).toUInt32.toUInt16.toUInt32.toInt32))]) t → Steps p.tables e below s0 t := fun t kk_ => P8 t (by
    refine XS.sipush X4.here hx rfl (hb hby d_charAt_9) ?_
    refine XS.iand X4.here hx rfl (hb hby d_charAt_12) rfl ?_
    refine XS.i2c X4.here hx rfl (hb hby d_charAt_13) rfl ?_
    exact kk_)
  subst hs0
  obtain ⟨fs, hr, hrun, hended, hW, hsame⟩ := X4.leave (v := some (.int (nar .char ((ga &&& (255 : Int32)).toUInt32.toUInt16.toUInt32.toInt32)))) (fun h => by rw [Bd.returns] at h; cases h)
  refine ⟨_, _, P9 _ ?_, hrun, hended, _, _, rfl, ?_, ⟨_, rfl⟩, hW, hsame.mono (by decide) (by decide)⟩
  · show GG p e below T4 (mkF m 14 #[.val (.ref tb), .val (.int (0 : Int32))] [(.int ((ga &&& (255 : Int32)).toUInt32.toUInt16.toUInt32.toInt32))]) _
    exact retN X4 hx (t := .char) Bd.returns (by simp) (hb hby d_charAt_14) hr
  · show Q_lCh0 Z tb kb ga G3 v1 v2 v3 h0 n0 _ T4.heap _
    rw [e4]
    exact ⟨rfl, N4, rfl⟩
theorem ef_uCh0 (m : MethodId) (x0 : Addr) : entryFrame m #[(.ref x0), (.int (0 : Int32))] 2 = mkF m 0 #[.val (.ref x0), .val (.int (0 : Int32))] [] := by first | (simp [entryFrame, mkF, argsToLocals, Value.category]; done) | rfl
theorem d_charAt2_0 : decode jdk_52_method_83_code 0 = .ok (.iload_n 1, 1) := by decide +kernel
theorem d_charAt2_1 : decode jdk_52_method_83_code 1 = .ok (.aload_n 0, 1) := by decide +kernel
theorem pd_12 : parseMethodDescriptor "(I[B)V" = some ⟨[.int, (.array .byte)], none⟩ := by decide +kernel
theorem d_charAt2_2 : decode jdk_52_method_83_code 2 = .ok (.invokestatic 67, 3) := by decide +kernel
abbrev mn_13 : MethodName := ⟨"java/lang/StringUTF16", "checkIndex", "(I[B)V"⟩
theorem d_charAt2_5 : decode jdk_52_method_83_code 5 = .ok (.aload_n 0, 1) := by decide +kernel
theorem d_charAt2_6 : decode jdk_52_method_83_code 6 = .ok (.iload_n 1, 1) := by decide +kernel
theorem d_charAt2_7 : decode jdk_52_method_83_code 7 = .ok (.invokestatic 71, 3) := by decide +kernel
theorem d_charAt2_10 : decode jdk_52_method_83_code 10 = .ok (.ireturn, 1) := by decide +kernel
def Q_uCh0 (Z : State) (tb : Addr) (kb : ClassId) (ga : Int32) (gb : Int32) (G3 : Value) (v2 : Value) (v3 : Value) (v4 : Value) (v5 : Value) (v6 : Value) (v7 : Value) (h0 : Heap) (n0 : Nat) (v : Option Value) (h : Heap) (L : List Loc) : Prop := v = some (.int (nar .char (nar .char ((((ga &&& (255 : Int32)) <<< ((0 : Int32) &&& 31)) ||| ((gb &&& (255 : Int32)) <<< ((8 : Int32) &&& 31))).toUInt32.toUInt16.toUInt32.toInt32)))) ∧ Fr n0 L ∧ h = h0
set_option maxRecDepth 65536 in
set_option maxHeartbeats 40000000 in
theorem rm_uCh0 (l : Launch) (Z : State) (a0 : Array Value) (hw : ∀ d ∈ tables_1, d.before a0 Z = true) (ws : List Jvm.Cond) (tb : Addr) (kb : ClassId) (ga : Int32) (gb : Int32) (G3 : Value) (v2 : Value) (v3 : Value) (v4 : Value) (v5 : Value) (v6 : Value) (v7 : Value) (h0 : Heap) (n0 : Nat) (Z0 : n0 ≤ h0.size) (V_tb : Arv Z h0 tb kb .byte (8 : Int32) [(.int ga), (.int gb), v2, v3, v4, v5, v6, v7] (.int (0 : Int32))) (rG3 : G3.isRef = true) (S_SIOOBE_FORMATTER : Sta Z Z.heap "jdk/internal/util/Preconditions" "SIOOBE_FORMATTER" "Ljava/util/function/BiFunction;" G3) (S__assertionsDisabled : Sta Z Z.heap "java/lang/StringUTF16" "$assertionsDisabled" "Z" (.int (1 : Int32))) (S_HI_BYTE_SHIFT : Sta Z Z.heap "java/lang/StringUTF16" "HI_BYTE_SHIFT" "I" (.int (0 : Int32))) (S_LO_BYTE_SHIFT : Sta Z Z.heap "java/lang/StringUTF16" "LO_BYTE_SHIFT" "I" (.int (8 : Int32))) (OL : Old Z n0 h0) :
    MetFree l (⟨"java/lang/StringUTF16", "charAt", "([BI)C"⟩ : MethodName) (head1 (Jvm.Cond.code (⟨"java/lang/StringUTF16", "charAt", "([BI)C"⟩ : MethodName) jdk_52_method_83_code 2 (some .char) :: ws) ({ frames := 3, cells := 0, slots := 0, locals := 40 } : Room)) (fun a U => a = #[(.ref tb), (.int (0 : Int32))] ∧ Z.Warmed39 U.vm ∧ U.heap = h0) (fun _ _ _ _ _ => True) (fun _ U o U' => ∃ v L, o = .returned v ∧ Q_uCh0 Z tb kb ga gb G3 v2 v3 v4 v5 v6 v7 h0 n0 v U'.heap L ∧ FrameEnd U o U' L ({ frames := 3, cells := 0, slots := 0, locals := 40 } : Room).cells ({ frames := 3, cells := 0, slots := 0, locals := 40 } : Room).slots) := by
  refine MetFree.of_bodySF (plainFor_of_name pn_1) hisR ?_
  intro p e s m args below meth c s₁ Bd hml0 hP hK
  obtain ⟨rfl, hZ, hh⟩ := hP
  have hx := Bd.exec
  have hby := Bd.bytes
  have hml : c.maxLocals = 2 := hml0
  have hown : s.vm.findClass "java/lang/StringUTF16" = some m.cls := findClass_of_methodNamed Bd.named
  have hnm := (name_of_methodNamed Bd.named Bd.method).1
  have X0 : Stand p l e ({ frames := 3, cells := 0, slots := 0, locals := 40 } : Room) s m #[(.ref tb), (.int (0 : Int32))] below meth c s₁ [] 0 0 := Stand.of_body Bd
  have e0 : s₁.heap = h0 := by rw [← hh, Bd.state]; rfl
  have N0 := Fr.nil n0
  obtain ⟨s0, hs0⟩ : ∃ z, z = (s₁.setTop (entryFrame m #[(.ref tb), (.int (0 : Int32))] 2)) := ⟨_, rfl⟩
  have P0 : ∀ t, GG p e below s₁ (mkF m 0 #[.val (.ref tb), .val (.int (0 : Int32))] []) t → Steps p.tables e below s0 t := fun t kk_ => by rw [hs0]; exact castTop (ef_uCh0 m tb) kk_
  have P1 : ∀ t, GG p e below s₁ (mkF m 2 #[.val (.ref tb), .val (.int (0 : Int32))] [(.ref tb), (.int (0 : Int32))]) t → Steps p.tables e below s0 t := fun t kk_ => P0 t (by
    refine XS.iloadN X0.here hx rfl (hb hby d_charAt2_0) rfl ?_
    refine XS.aloadN X0.here hx rfl (hb hby d_charAt2_1) rfl rfl ?_
    exact kk_)
  obtain ⟨_, _, ⟨T2, L2, k2, n2⟩, -, X2, ⟨Lc2, hQ2, l2, y2, z2⟩, st2⟩ := Jvm.LawKit.callS X0 hx (y := mn_13) hown (mw hZ hw 81 rfl) (mw hZ hw 82 rfl) (mw hZ hw 22 rfl) (mw hZ hw 83 rfl) (by decide) (backOf (W := 0) (rm_uCk l Z a0 hw [] (0 : Int32) tb kb [(.int ga), (.int gb), v2, v3, v4, v5, v6, v7] G3 h0 n0 (Nat.le_trans Z0 (Nat.le_refl h0.size)) V_tb (by decide) (by decide) rG3 S_SIOOBE_FORMATTER OL) hZ (ww hw 83 rfl) (ww hw 22 rfl) (by decide) (by decide)) (g := (mkF m 2 #[.val (.ref tb), .val (.int (0 : Int32))] [(.ref tb), (.int (0 : Int32))])) rfl (by rw [hml]; rfl) (argsL := [(.int (0 : Int32)), (.ref tb)]) (rest := []) (lenOf pd_12 rfl) rfl (by show 2 * 0 + _ ≤ _; exact Nat.le_of_eq rfl) (hb hby d_charAt2_2) (fun _ _ => ⟨rfl, e0, (by decide : 0 + 0 ≤ _), (by decide : 0 + 0 ≤ _)⟩)
  dsimp only [Pt.U, Pt.locs, Pt.cells, Pt.slots] at X2 l2 y2 z2 st2 hQ2
  subst l2 y2 z2
  obtain ⟨rfl, N2q, e2⟩ := hQ2
  have N2 := Fr.app N0 N2q
  have P3 : ∀ t, GG p e below T2 (mkF m 5 #[.val (.ref tb), .val (.int (0 : Int32))] []) t → Steps p.tables e below s0 t := fun t kk_ => P1 t (st2 _ kk_)
  have P4 : ∀ t, GG p e below T2 (mkF m 7 #[.val (.ref tb), .val (.int (0 : Int32))] [(.int (0 : Int32)), (.ref tb)]) t → Steps p.tables e below s0 t := fun t kk_ => P3 t (by
    refine XS.aloadN X2.here hx rfl (hb hby d_charAt2_5) rfl rfl ?_
    refine XS.iloadN X2.here hx rfl (hb hby d_charAt2_6) rfl ?_
    exact kk_)
  obtain ⟨_, _, ⟨T5, L5, k5, n5⟩, -, X5, ⟨Lc5, hQ5, l5, y5, z5⟩, st5⟩ := Jvm.LawKit.callS X2 hx (y := mn_5) hown (mw hZ hw 44 rfl) (mw hZ hw 45 rfl) (mw hZ hw 22 rfl) (mw hZ hw 46 rfl) (by decide) (backOf (W := 0) (rm_get0 l Z a0 hw [] tb kb ga gb v2 v3 v4 v5 v6 v7 h0 n0 (Nat.le_trans Z0 (Nat.le_refl h0.size)) V_tb S__assertionsDisabled S_HI_BYTE_SHIFT S_LO_BYTE_SHIFT OL) hZ (ww hw 46 rfl) (ww hw 22 rfl) (by decide) (by decide)) (g := (mkF m 7 #[.val (.ref tb), .val (.int (0 : Int32))] [(.int (0 : Int32)), (.ref tb)])) rfl (by rw [hml]; rfl) (argsL := [(.ref tb), (.int (0 : Int32))]) (rest := []) (lenOf pd_5 rfl) rfl (by show 2 * 0 + _ ≤ _; exact Nat.le_of_eq rfl) (hb hby d_charAt2_7) (fun _ _ => ⟨rfl, e2, (by decide : 0 + 0 ≤ _), (by decide : 0 + 0 ≤ _)⟩)
  dsimp only [Pt.U, Pt.locs, Pt.cells, Pt.slots] at X5 l5 y5 z5 st5 hQ5
  subst l5 y5 z5
  obtain ⟨rfl, N5q, e5⟩ := hQ5
  have N5 := Fr.app N2 N5q
  have P6 : ∀ t, GG p e below T5 (mkF m 10 #[.val (.ref tb), .val (.int (0 : Int32))] [(.int (nar .char ((((ga &&& (255 : Int32)) <<< ((0 : Int32) &&& 31)) ||| ((gb &&& (255 : Int32)) <<< ((8 : Int32) &&& 31))).toUInt32.toUInt16.toUInt32.toInt32)))]) t → Steps p.tables e below s0 t := fun t kk_ => P4 t (st5 _ kk_)
  subst hs0
  obtain ⟨fs, hr, hrun, hended, hW, hsame⟩ := X5.leave (v := some (.int (nar .char (nar .char ((((ga &&& (255 : Int32)) <<< ((0 : Int32) &&& 31)) ||| ((gb &&& (255 : Int32)) <<< ((8 : Int32) &&& 31))).toUInt32.toUInt16.toUInt32.toInt32))))) (fun h => by rw [Bd.returns] at h; cases h)
  refine ⟨_, _, P6 _ ?_, hrun, hended, _, _, rfl, ?_, ⟨_, rfl⟩, hW, hsame.mono (by decide) (by decide)⟩
  · show GG p e below T5 (mkF m 10 #[.val (.ref tb), .val (.int (0 : Int32))] [(.int (nar .char ((((ga &&& (255 : Int32)) <<< ((0 : Int32) &&& 31)) ||| ((gb &&& (255 : Int32)) <<< ((8 : Int32) &&& 31))).toUInt32.toUInt16.toUInt32.toInt32)))]) _
    exact retN X5 hx (t := .char) Bd.returns (by simp) (hb hby d_charAt2_10) hr
  · show Q_uCh0 Z tb kb ga gb G3 v2 v3 v4 v5 v6 v7 h0 n0 _ T5.heap _
    rw [e5]
    exact ⟨rfl, N5, rfl⟩
theorem ef_sCh0 (m : MethodId) (x0 : Addr) : entryFrame m #[(.ref x0), (.int (0 : Int32))] 2 = mkF m 0 #[.val (.ref x0), .val (.int (0 : Int32))] [] := by first | (simp [entryFrame, mkF, argsToLocals, Value.category]; done) | rfl
theorem d_charAt3_0 : decode jdk_42_method_56_code 0 = .ok (.aload_n 0, 1) := by decide +kernel
theorem pd_13 : parseMethodDescriptor "()Z" = some ⟨[], some .boolean⟩ := by decide +kernel
theorem d_charAt3_1 : decode jdk_42_method_56_code 1 = .ok (.invokevirtual 492, 3) := by decide +kernel
abbrev mn_14 : MethodName := ⟨"java/lang/String", "isLatin1", "()Z"⟩
theorem d_charAt3_4 : decode jdk_42_method_56_code 4 = .ok (.ifCond .eq 12, 3) := by decide +kernel
theorem d_charAt3_7 : decode jdk_42_method_56_code 7 = .ok (.aload_n 0, 1) := by decide +kernel
theorem d_charAt3_8 : decode jdk_42_method_56_code 8 = .ok (.getfield 9, 3) := by decide +kernel
theorem d_charAt3_11 : decode jdk_42_method_56_code 11 = .ok (.iload_n 1, 1) := by decide +kernel
theorem d_charAt3_12 : decode jdk_42_method_56_code 12 = .ok (.invokestatic 495, 3) := by decide +kernel
abbrev mn_15 : MethodName := ⟨"java/lang/StringLatin1", "charAt", "([BI)C"⟩
theorem d_charAt3_15 : decode jdk_42_method_56_code 15 = .ok (.ireturn, 1) := by decide +kernel
theorem d_charAt3_16 : decode jdk_42_method_56_code 16 = .ok (.aload_n 0, 1) := by decide +kernel
theorem d_charAt3_17 : decode jdk_42_method_56_code 17 = .ok (.getfield 9, 3) := by decide +kernel
theorem d_charAt3_20 : decode jdk_42_method_56_code 20 = .ok (.iload_n 1, 1) := by decide +kernel
theorem d_charAt3_21 : decode jdk_42_method_56_code 21 = .ok (.invokestatic 498, 3) := by decide +kernel
abbrev mn_16 : MethodName := ⟨"java/lang/StringUTF16", "charAt", "([BI)C"⟩
theorem d_charAt3_24 : decode jdk_42_method_56_code 24 = .ok (.ireturn, 1) := by decide +kernel
def Q_sCh0 (Z : State) (xs : Addr) (tb : Addr) (kb : ClassId) (cd : Int32) (nB : Int32) (vs : List Value) (c0 : Int32) (c1 : Int32) (c2 : Int32) (c3 : Int32) (G1 : Int32) (G3 : Value) (h0 : Heap) (n0 : Nat) (v : Option Value) (h : Heap) (L : List Loc) : Prop := v = some (.int c0) ∧ Fr n0 L ∧ h = h0
set_option maxRecDepth 65536 in
set_option maxHeartbeats 40000000 in
theorem rm_sCh0 (l : Launch) (Z : State) (a0 : Array Value) (hw : ∀ d ∈ tables_1, d.before a0 Z = true) (ws : List Jvm.Cond) (xs : Addr) (tb : Addr) (kb : ClassId) (cd : Int32) (nB : Int32) (vs : List Value) (c0 : Int32) (c1 : Int32) (c2 : Int32) (c3 : Int32) (G1 : Int32) (G3 : Value) (h0 : Heap) (n0 : Nat) (Z0 : n0 ≤ h0.size) (E_xs : Exa Z h0 xs "java/lang/String") (F_value_xs : Fld Z h0 xs "java/lang/String" "value" "[B" (.ref tb)) (F_coder_xs : Fld Z h0 xs "java/lang/String" "coder" "B" (.int cd)) (V_tb : Arv Z h0 tb kb .byte nB vs (.int (0 : Int32))) (S_COMPACT_STRINGS : Sta Z Z.heap "java/lang/String" "COMPACT_STRINGS" "Z" (.int G1)) (S__assertionsDisabled : Sta Z Z.heap "java/lang/StringUTF16" "$assertionsDisabled" "Z" (.int (1 : Int32))) (S_HI_BYTE_SHIFT : Sta Z Z.heap "java/lang/StringUTF16" "HI_BYTE_SHIFT" "I" (.int (0 : Int32))) (S_LO_BYTE_SHIFT : Sta Z Z.heap "java/lang/StringUTF16" "LO_BYTE_SHIFT" "I" (.int (8 : Int32))) (S_SIOOBE_FORMATTER : Sta Z Z.heap "jdk/internal/util/Preconditions" "SIOOBE_FORMATTER" "Ljava/util/function/BiFunction;" G3) (OL : Old Z n0 h0) (hz : ¬ G1 = 0) (rG3 : G3.isRef = true) (s4 : Str4 c0 c1 c2 c3 cd nB vs) (ic0 : isC c0) (ic1 : isC c1) (ic2 : isC c2) (ic3 : isC c3) :
    MetFree l (⟨"java/lang/String", "charAt", "(I)C"⟩ : MethodName) (head1 (Jvm.Cond.code (⟨"java/lang/String", "charAt", "(I)C"⟩ : MethodName) jdk_42_method_56_code 2 (some .char) :: ws) ({ frames := 4, cells := 0, slots := 0, locals := 53 } : Room)) (fun a U => a = #[(.ref xs), (.int (0 : Int32))] ∧ Z.Warmed39 U.vm ∧ U.heap = h0) (fun _ _ _ _ _ => True) (fun _ U o U' => ∃ v L, o = .returned v ∧ Q_sCh0 Z xs tb kb cd nB vs c0 c1 c2 c3 G1 G3 h0 n0 v U'.heap L ∧ FrameEnd U o U' L ({ frames := 4, cells := 0, slots := 0, locals := 53 } : Room).cells ({ frames := 4, cells := 0, slots := 0, locals := 53 } : Room).slots) := by
  refine MetFree.of_bodySF (plainFor_of_name pn_2) hisR ?_
  intro p e s m args below meth c s₁ Bd hml0 hP hK
  obtain ⟨rfl, hZ, hh⟩ := hP
  have hx := Bd.exec
  have hby := Bd.bytes
  have hml : c.maxLocals = 2 := hml0
  have hown : s.vm.findClass "java/lang/String" = some m.cls := findClass_of_methodNamed Bd.named
  have hnm := (name_of_methodNamed Bd.named Bd.method).1
  have X0 : Stand p l e ({ frames := 4, cells := 0, slots := 0, locals := 53 } : Room) s m #[(.ref xs), (.int (0 : Int32))] below meth c s₁ [] 0 0 := Stand.of_body Bd
  have e0 : s₁.heap = h0 := by rw [← hh, Bd.state]; rfl
  have N0 := Fr.nil n0
  obtain ⟨s0, hs0⟩ : ∃ z, z = (s₁.setTop (entryFrame m #[(.ref xs), (.int (0 : Int32))] 2)) := ⟨_, rfl⟩
  have P0 : ∀ t, GG p e below s₁ (mkF m 0 #[.val (.ref xs), .val (.int (0 : Int32))] []) t → Steps p.tables e below s0 t := fun t kk_ => by rw [hs0]; exact castTop (ef_sCh0 m xs) kk_
  rcases s4 with hcase | hcase
  ·
    obtain ⟨rfl, rfl, rfl, hla⟩ := hcase
    have P1 : ∀ t, GG p e below s₁ (mkF m 1 #[.val (.ref xs), .val (.int (0 : Int32))] [(.ref xs)]) t → Steps p.tables e below s0 t := fun t kk_ => P0 t (by
      refine XS.aloadN X0.here hx rfl (hb hby d_charAt3_0) rfl rfl ?_
      exact kk_)
    obtain ⟨cq2, kq2, q2a, q2b, q2c⟩ := isOf hZ e0 E_xs
    obtain ⟨_, _, ⟨T2, L2, k2, n2⟩, -, X2, ⟨Lc2, hQ2, l2, y2, z2⟩, st2⟩ := X0.virtualBack hx (y := mn_14) (z := mn_14) hown (mw hZ hw 73 rfl) (mw hZ hw 74 rfl) (notFace_of_selects (args := #[]) (mw hZ hw 76 rfl)) (mw hZ hw 76 rfl) (mw hZ hw 75 rfl) (by decide) (backOf (W := 0) (rm_isLat0 l Z a0 hw [] xs G1 h0 n0 (Nat.le_trans Z0 (Nat.le_refl h0.size)) F_coder_xs S_COMPACT_STRINGS OL hz) hZ (ww hw 77 rfl) (ww hw 8 rfl) (by decide) (by decide)) q2a q2c (g := (mkF m 1 #[.val (.ref xs), .val (.int (0 : Int32))] [(.ref xs)])) rfl (by rw [hml]; rfl) (Steps.refl _) (argsL := []) (rest := []) (lenOf pd_13 rfl) rfl (by show 2 * 0 + _ ≤ _; exact Nat.le_of_eq rfl) (hb hby d_charAt3_1) (fun _ _ => ⟨rfl, e0, (by decide : 0 + 0 ≤ _), (by decide : 0 + 0 ≤ _)⟩)
    dsimp only [Pt.U, Pt.locs, Pt.cells, Pt.slots] at X2 l2 y2 z2 st2 hQ2
    subst l2 y2 z2
    obtain ⟨rfl, N2q, e2⟩ := hQ2
    have N2 := Fr.app N0 N2q
    have P3 : ∀ t, GG p e below T2 (mkF m 4 #[.val (.ref xs), .val (.int (0 : Int32))] [(.int (1 : Int32))]) t → Steps p.tables e below s0 t := fun t kk_ => P1 t (st2.trans kk_)
    have P4 : ∀ t, GG p e below T2 (mkF m 8 #[.val (.ref xs), .val (.int (0 : Int32))] [(.ref xs)]) t → Steps p.tables e below s0 t := fun t kk_ => P3 t (by
      refine XS.ifNo X2.here hx rfl (hb hby d_charAt3_4) rfl ((if0 _ _).trans (feq ((by decide) : ¬ ((1 : Int32) = (0 : Int32)))).1) ?_
      refine XS.aloadN X2.here hx rfl (hb hby d_charAt3_7) rfl rfl ?_
      exact kk_)
    obtain ⟨T5, X5, e5, st5⟩ := getF X2 hx hZ hown (host := "") (Or.inl (ww hw 52 rfl)) Via.refl e2 F_value_xs (g := (mkF m 8 #[.val (.ref xs), .val (.int (0 : Int32))] [(.ref xs)])) rfl rfl (hb hby d_charAt3_8)
    have P6 : ∀ t, GG p e below T5 (mkF m 11 #[.val (.ref xs), .val (.int (0 : Int32))] [(.ref tb)]) t → Steps p.tables e below s0 t := fun t kk_ => P4 t (st5 _ kk_)
    have P7 : ∀ t, GG p e below T5 (mkF m 12 #[.val (.ref xs), .val (.int (0 : Int32))] [(.int (0 : Int32)), (.ref tb)]) t → Steps p.tables e below s0 t := fun t kk_ => P6 t (by
      refine XS.iloadN X5.here hx rfl (hb hby d_charAt3_11) rfl ?_
      exact kk_)
    obtain ⟨_, _, ⟨T8, L8, k8, n8⟩, -, X8, ⟨Lc8, hQ8, l8, y8, z8⟩, st8⟩ := Jvm.LawKit.callS X5 hx (y := mn_15) hown (mw hZ hw 108 rfl) (mw hZ hw 109 rfl) (mw hZ hw 110 rfl) (mw hZ hw 111 rfl) (by decide) (backOf (W := 0) (rm_lCh0 l Z a0 hw [] tb kb (nar .byte (c0.toInt8.toInt32)) G3 (.int (nar .byte (c1.toInt8.toInt32))) (.int (nar .byte (c2.toInt8.toInt32))) (.int (nar .byte (c3.toInt8.toInt32))) h0 n0 (Nat.le_trans Z0 (Nat.le_refl h0.size)) V_tb rG3 S_SIOOBE_FORMATTER OL) hZ (ww hw 111 rfl) (ww hw 110 rfl) (by decide) (by decide)) (g := (mkF m 12 #[.val (.ref xs), .val (.int (0 : Int32))] [(.int (0 : Int32)), (.ref tb)])) rfl (by rw [hml]; rfl) (argsL := [(.ref tb), (.int (0 : Int32))]) (rest := []) (lenOf pd_5 rfl) rfl (by show 2 * 0 + _ ≤ _; exact Nat.le_of_eq rfl) (hb hby d_charAt3_12) (fun _ _ => ⟨rfl, e5, (by decide : 0 + 0 ≤ _), (by decide : 0 + 0 ≤ _)⟩)
    dsimp only [Pt.U, Pt.locs, Pt.cells, Pt.slots] at X8 l8 y8 z8 st8 hQ8
    subst l8 y8 z8
    obtain ⟨rfl, N8q, e8⟩ := hQ8
    have N8 := Fr.app N2 N8q
    have P9 : ∀ t, GG p e below T8 (mkF m 15 #[.val (.ref xs), .val (.int (0 : Int32))] [(.int (nar .char ((((nar .byte (c0.toInt8.toInt32)) &&& (255 : Int32))).toUInt32.toUInt16.toUInt32.toInt32)))]) t → Steps p.tables e below s0 t := fun t kk_ => P7 t (st8 _ kk_)
    subst hs0
    obtain ⟨fs, hr, hrun, hended, hW, hsame⟩ := X8.leave (v := some (.int (nar .char (nar .char ((((nar .byte (c0.toInt8.toInt32)) &&& (255 : Int32))).toUInt32.toUInt16.toUInt32.toInt32))))) (fun h => by rw [Bd.returns] at h; cases h)
    refine ⟨_, _, P9 _ ?_, hrun, hended, _, _, rfl, ?_, ⟨_, rfl⟩, hW, hsame.mono (by decide) (by decide)⟩
    · show GG p e below T8 (mkF m 15 #[.val (.ref xs), .val (.int (0 : Int32))] [(.int (nar .char ((((nar .byte (c0.toInt8.toInt32)) &&& (255 : Int32))).toUInt32.toUInt16.toUInt32.toInt32)))]) _
      exact retN X8 hx (t := .char) Bd.returns (by simp) (hb hby d_charAt3_15) hr
    · show Q_sCh0 Z xs tb kb (0 : Int32) (4 : Int32) [(.int (nar .byte (c0.toInt8.toInt32))), (.int (nar .byte (c1.toInt8.toInt32))), (.int (nar .byte (c2.toInt8.toInt32))), (.int (nar .byte (c3.toInt8.toInt32)))] c0 c1 c2 c3 G1 G3 h0 n0 _ T8.heap _
      rw [e8]
      exact ⟨congrArg (fun z => some (Value.int z)) (own_lat ic0 hla.1), N8, rfl⟩
  ·
    obtain ⟨rfl, rfl, rfl⟩ := hcase
    have P10 : ∀ t, GG p e below s₁ (mkF m 1 #[.val (.ref xs), .val (.int (0 : Int32))] [(.ref xs)]) t → Steps p.tables e below s0 t := fun t kk_ => P0 t (by
      refine XS.aloadN X0.here hx rfl (hb hby d_charAt3_0) rfl rfl ?_
      exact kk_)
    obtain ⟨cq11, kq11, q11a, q11b, q11c⟩ := isOf hZ e0 E_xs
    obtain ⟨_, _, ⟨T11, L11, k11, n11⟩, -, X11, ⟨Lc11, hQ11, l11, y11, z11⟩, st11⟩ := X0.virtualBack hx (y := mn_14) (z := mn_14) hown (mw hZ hw 73 rfl) (mw hZ hw 74 rfl) (notFace_of_selects (args := #[]) (mw hZ hw 76 rfl)) (mw hZ hw 76 rfl) (mw hZ hw 75 rfl) (by decide) (backOf (W := 0) (rm_isLat1 l Z a0 hw [] xs G1 h0 n0 (Nat.le_trans Z0 (Nat.le_refl h0.size)) F_coder_xs S_COMPACT_STRINGS OL hz) hZ (ww hw 77 rfl) (ww hw 8 rfl) (by decide) (by decide)) q11a q11c (g := (mkF m 1 #[.val (.ref xs), .val (.int (0 : Int32))] [(.ref xs)])) rfl (by rw [hml]; rfl) (Steps.refl _) (argsL := []) (rest := []) (lenOf pd_13 rfl) rfl (by show 2 * 0 + _ ≤ _; exact Nat.le_of_eq rfl) (hb hby d_charAt3_1) (fun _ _ => ⟨rfl, e0, (by decide : 0 + 0 ≤ _), (by decide : 0 + 0 ≤ _)⟩)
    dsimp only [Pt.U, Pt.locs, Pt.cells, Pt.slots] at X11 l11 y11 z11 st11 hQ11
    subst l11 y11 z11
    obtain ⟨rfl, N11q, e11⟩ := hQ11
    have N11 := Fr.app N0 N11q
    have P12 : ∀ t, GG p e below T11 (mkF m 4 #[.val (.ref xs), .val (.int (0 : Int32))] [(.int (0 : Int32))]) t → Steps p.tables e below s0 t := fun t kk_ => P10 t (st11.trans kk_)
    have P13 : ∀ t, GG p e below T11 (mkF m 17 #[.val (.ref xs), .val (.int (0 : Int32))] [(.ref xs)]) t → Steps p.tables e below s0 t := fun t kk_ => P12 t (by
      refine XS.ifYes X11.here hx rfl (pc0 := 4) (pc' := 16) rfl (hb hby d_charAt3_4) rfl ((if0 _ _).trans (teq ((by decide) : (0 : Int32) = (0 : Int32))).1) (by decide) (by decide) ?_
      refine XS.aloadN X11.here hx rfl (hb hby d_charAt3_16) rfl rfl ?_
      exact kk_)
    obtain ⟨T14, X14, e14, st14⟩ := getF X11 hx hZ hown (host := "") (Or.inl (ww hw 52 rfl)) Via.refl e11 F_value_xs (g := (mkF m 17 #[.val (.ref xs), .val (.int (0 : Int32))] [(.ref xs)])) rfl rfl (hb hby d_charAt3_17)
    have P15 : ∀ t, GG p e below T14 (mkF m 20 #[.val (.ref xs), .val (.int (0 : Int32))] [(.ref tb)]) t → Steps p.tables e below s0 t := fun t kk_ => P13 t (st14 _ kk_)
    have P16 : ∀ t, GG p e below T14 (mkF m 21 #[.val (.ref xs), .val (.int (0 : Int32))] [(.int (0 : Int32)), (.ref tb)]) t → Steps p.tables e below s0 t := fun t kk_ => P15 t (by
      refine XS.iloadN X14.here hx rfl (hb hby d_charAt3_20) rfl ?_
      exact kk_)
    obtain ⟨_, _, ⟨T17, L17, k17, n17⟩, -, X17, ⟨Lc17, hQ17, l17, y17, z17⟩, st17⟩ := Jvm.LawKit.callS X14 hx (y := mn_16) hown (mw hZ hw 78 rfl) (mw hZ hw 79 rfl) (mw hZ hw 22 rfl) (mw hZ hw 80 rfl) (by decide) (backOf (W := 0) (rm_uCh0 l Z a0 hw [] tb kb (nar .byte ((c0 >>> ((0 : Int32) &&& 31)).toInt8.toInt32)) (nar .byte ((c0 >>> ((8 : Int32) &&& 31)).toInt8.toInt32)) G3 (.int (nar .byte ((c1 >>> ((0 : Int32) &&& 31)).toInt8.toInt32))) (.int (nar .byte ((c1 >>> ((8 : Int32) &&& 31)).toInt8.toInt32))) (.int (nar .byte ((c2 >>> ((0 : Int32) &&& 31)).toInt8.toInt32))) (.int (nar .byte ((c2 >>> ((8 : Int32) &&& 31)).toInt8.toInt32))) (.int (nar .byte ((c3 >>> ((0 : Int32) &&& 31)).toInt8.toInt32))) (.int (nar .byte ((c3 >>> ((8 : Int32) &&& 31)).toInt8.toInt32))) h0 n0 (Nat.le_trans Z0 (Nat.le_refl h0.size)) V_tb rG3 S_SIOOBE_FORMATTER S__assertionsDisabled S_HI_BYTE_SHIFT S_LO_BYTE_SHIFT OL) hZ (ww hw 80 rfl) (ww hw 22 rfl) (by decide) (by decide)) (g := (mkF m 21 #[.val (.ref xs), .val (.int (0 : Int32))] [(.int (0 : Int32)), (.ref tb)])) rfl (by rw [hml]; rfl) (argsL := [(.ref tb), (.int (0 : Int32))]) (rest := []) (lenOf pd_5 rfl) rfl (by show 2 * 0 + _ ≤ _; exact Nat.le_of_eq rfl) (hb hby d_charAt3_21) (fun _ _ => ⟨rfl, e14, (by decide : 0 + 0 ≤ _), (by decide : 0 + 0 ≤ _)⟩)
    dsimp only [Pt.U, Pt.locs, Pt.cells, Pt.slots] at X17 l17 y17 z17 st17 hQ17
    subst l17 y17 z17
    obtain ⟨rfl, N17q, e17⟩ := hQ17
    have N17 := Fr.app N11 N17q
    have P18 : ∀ t, GG p e below T17 (mkF m 24 #[.val (.ref xs), .val (.int (0 : Int32))] [(.int (nar .char (nar .char (((((nar .byte ((c0 >>> ((0 : Int32) &&& 31)).toInt8.toInt32)) &&& (255 : Int32)) <<< ((0 : Int32) &&& 31)) ||| (((nar .byte ((c0 >>> ((8 : Int32) &&& 31)).toInt8.toInt32)) &&& (255 : Int32)) <<< ((8 : Int32) &&& 31))).toUInt32.toUInt16.toUInt32.toInt32))))]) t → Steps p.tables e below s0 t := fun t kk_ => P16 t (st17 _ kk_)
    subst hs0
    obtain ⟨fs, hr, hrun, hended, hW, hsame⟩ := X17.leave (v := some (.int (nar .char (nar .char (nar .char (((((nar .byte ((c0 >>> ((0 : Int32) &&& 31)).toInt8.toInt32)) &&& (255 : Int32)) <<< ((0 : Int32) &&& 31)) ||| (((nar .byte ((c0 >>> ((8 : Int32) &&& 31)).toInt8.toInt32)) &&& (255 : Int32)) <<< ((8 : Int32) &&& 31))).toUInt32.toUInt16.toUInt32.toInt32)))))) (fun h => by rw [Bd.returns] at h; cases h)
    refine ⟨_, _, P18 _ ?_, hrun, hended, _, _, rfl, ?_, ⟨_, rfl⟩, hW, hsame.mono (by decide) (by decide)⟩
    · show GG p e below T17 (mkF m 24 #[.val (.ref xs), .val (.int (0 : Int32))] [(.int (nar .char (nar .char (((((nar .byte ((c0 >>> ((0 : Int32) &&& 31)).toInt8.toInt32)) &&& (255 : Int32)) <<< ((0 : Int32) &&& 31)) ||| (((nar .byte ((c0 >>> ((8 : Int32) &&& 31)).toInt8.toInt32)) &&& (255 : Int32)) <<< ((8 : Int32) &&& 31))).toUInt32.toUInt16.toUInt32.toInt32))))]) _
      exact retN X17 hx (t := .char) Bd.returns (by simp) (hb hby d_charAt3_24) hr
    · show Q_sCh0 Z xs tb kb (1 : Int32) (8 : Int32) [(.int (nar .byte ((c0 >>> ((0 : Int32) &&& 31)).toInt8.toInt32))), (.int (nar .byte ((c0 >>> ((8 : Int32) &&& 31)).toInt8.toInt32))), (.int (nar .byte ((c1 >>> ((0 : Int32) &&& 31)).toInt8.toInt32))), (.int (nar .byte ((c1 >>> ((8 : Int32) &&& 31)).toInt8.toInt32))), (.int (nar .byte ((c2 >>> ((0 : Int32) &&& 31)).toInt8.toInt32))), (.int (nar .byte ((c2 >>> ((8 : Int32) &&& 31)).toInt8.toInt32))), (.int (nar .byte ((c3 >>> ((0 : Int32) &&& 31)).toInt8.toInt32))), (.int (nar .byte ((c3 >>> ((8 : Int32) &&& 31)).toInt8.toInt32)))] c0 c1 c2 c3 G1 G3 h0 n0 _ T17.heap _
      rw [e17]
      exact ⟨congrArg (fun z => some (Value.int z)) (own_wide ic0), N17, rfl⟩
theorem ef_lCh1 (m : MethodId) (x0 : Addr) : entryFrame m #[(.ref x0), (.int (1 : Int32))] 2 = mkF m 0 #[.val (.ref x0), .val (.int (1 : Int32))] [] := by first | (simp [entryFrame, mkF, argsToLocals, Value.category]; done) | rfl
def Q_lCh1 (Z : State) (tb : Addr) (kb : ClassId) (ga : Int32) (G3 : Value) (v0 : Value) (v2 : Value) (v3 : Value) (h0 : Heap) (n0 : Nat) (v : Option Value) (h : Heap) (L : List Loc) : Prop := v = some (.int (nar .char (((ga &&& (255 : Int32))).toUInt32.toUInt16.toUInt32.toInt32))) ∧ Fr n0 L ∧ h = h0
set_option maxRecDepth 65536 in
set_option maxHeartbeats 40000000 in
theorem rm_lCh1 (l : Launch) (Z : State) (a0 : Array Value) (hw : ∀ d ∈ tables_1, d.before a0 Z = true) (ws : List Jvm.Cond) (tb : Addr) (kb : ClassId) (ga : Int32) (G3 : Value) (v0 : Value) (v2 : Value) (v3 : Value) (h0 : Heap) (n0 : Nat) (Z0 : n0 ≤ h0.size) (V_tb : Arv Z h0 tb kb .byte (4 : Int32) [v0, (.int ga), v2, v3] (.int (0 : Int32))) (rG3 : G3.isRef = true) (S_SIOOBE_FORMATTER : Sta Z Z.heap "jdk/internal/util/Preconditions" "SIOOBE_FORMATTER" "Ljava/util/function/BiFunction;" G3) (OL : Old Z n0 h0) :
    MetFree l (⟨"java/lang/StringLatin1", "charAt", "([BI)C"⟩ : MethodName) (head1 (Jvm.Cond.code (⟨"java/lang/StringLatin1", "charAt", "([BI)C"⟩ : MethodName) jdk_43_method_2_code 2 (some .char) :: ws) ({ frames := 2, cells := 0, slots := 0, locals := 27 } : Room)) (fun a U => a = #[(.ref tb), (.int (1 : Int32))] ∧ Z.Warmed39 U.vm ∧ U.heap = h0) (fun _ _ _ _ _ => True) (fun _ U o U' => ∃ v L, o = .returned v ∧ Q_lCh1 Z tb kb ga G3 v0 v2 v3 h0 n0 v U'.heap L ∧ FrameEnd U o U' L ({ frames := 2, cells := 0, slots := 0, locals := 27 } : Room).cells ({ frames := 2, cells := 0, slots := 0, locals := 27 } : Room).slots) := by
  refine MetFree.of_bodySF (plainFor_of_name pn_4) hisR ?_
  intro p e s m args below meth c s₁ Bd hml0 hP hK
  obtain ⟨rfl, hZ, hh⟩ := hP
  have hx := Bd.exec
  have hby := Bd.bytes
  have hml : c.maxLocals = 2 := hml0
  have hown : s.vm.findClass "java/lang/StringLatin1" = some m.cls := findClass_of_methodNamed Bd.named
  have hnm := (name_of_methodNamed Bd.named Bd.method).1
  have X0 : Stand p l e ({ frames := 2, cells := 0, slots := 0, locals := 27 } : Room) s m #[(.ref tb), (.int (1 : Int32))] below meth c s₁ [] 0 0 := Stand.of_body Bd
  have e0 : s₁.heap = h0 := by rw [← hh, Bd.state]; rfl
  have N0 := Fr.nil n0
  obtain ⟨s0, hs0⟩ : ∃ z, z = (s₁.setTop (entryFrame m #[(.ref tb), (.int (1 : Int32))] 2)) := ⟨_, rfl⟩
  have P0 : ∀ t, GG p e below s₁ (mkF m 0 #[.val (.ref tb), .val (.int (1 : Int32))] []) t → Steps p.tables e below s0 t := fun t kk_ => by rw [hs0]; exact castTop (ef_lCh1 m tb) kk_
  have P1 : ∀ t, GG p e below s₁ (mkF m 2 #[.val (.ref tb), .val (.int (1 : Int32))] [(.ref tb), (.int (1 : Int32))]) t → Steps p.tables e below s0 t := fun t kk_ => P0 t (by
    refine XS.iloadN X0.here hx rfl (hb hby d_charAt_0) rfl ?_
    refine XS.aloadN X0.here hx rfl (hb hby d_charAt_1) rfl rfl ?_
    exact kk_)
  obtain ⟨cl2, Ar2, -, S2, M2, -, -⟩ := id V_tb
  have P3 : ∀ t, GG p e below s₁ (mkF m 3 #[.val (.ref tb), .val (.int (1 : Int32))] [(.int (4 : Int32)), (.int (1 : Int32))]) t → Steps p.tables e below s0 t := fun t kk_ => P1 t (by
    refine X0.arraylength hx (by rw [e0]; exact Ar2.1) (State.isArrayOf_alike hZ.alike Ar2.2.1) (g := (mkF m 2 #[.val (.ref tb), .val (.int (1 : Int32))] [(.ref tb), (.int (1 : Int32))])) rfl rfl (hb hby d_charAt_2) _ ?_
    rw [len_of S2 M2]
    exact kk_)
  obtain ⟨_, _, ⟨T4, L4, k4, n4⟩, -, X4, ⟨Lc4, hQ4, l4, y4, z4⟩, st4⟩ := Jvm.LawKit.callS X0 hx (y := mn_12) hown (mw hZ hw 112 rfl) (mw hZ hw 88 rfl) (mw hZ hw 8 rfl) (mw hZ hw 89 rfl) (by decide) (backOf (W := 0) (rm_ckS l Z a0 hw [] (1 : Int32) (4 : Int32) G3 h0 n0 (Nat.le_trans Z0 (Nat.le_refl h0.size)) (by decide) (by decide) rG3 S_SIOOBE_FORMATTER OL) hZ (ww hw 89 rfl) (ww hw 8 rfl) (by decide) (by decide)) (g := (mkF m 3 #[.val (.ref tb), .val (.int (1 : Int32))] [(.int (4 : Int32)), (.int (1 : Int32))])) rfl (by rw [hml]; rfl) (argsL := [(.int (1 : Int32)), (.int (4 : Int32))]) (rest := []) (lenOf pd_11 rfl) rfl (by show 2 * 0 + _ ≤ _; exact Nat.le_of_eq rfl) (hb hby d_charAt_3) (fun _ _ => ⟨rfl, e0, (by decide : 0 + 0 ≤ _), (by decide : 0 + 0 ≤ _)⟩)
  dsimp only [Pt.U, Pt.locs, Pt.cells, Pt.slots] at X4 l4 y4 z4 st4 hQ4
  subst l4 y4 z4
  obtain ⟨rfl, N4q, e4⟩ := hQ4
  have N4 := Fr.app N0 N4q
  have P5 : ∀ t, GG p e below T4 (mkF m 6 #[.val (.ref tb), .val (.int (1 : Int32))] []) t → Steps p.tables e below s0 t := fun t kk_ => P3 t (st4 _ kk_)
  have P6 : ∀ t, GG p e below T4 (mkF m 8 #[.val (.ref tb), .val (.int (1 : Int32))] [(.int (1 : Int32)), (.ref tb)]) t → Steps p.tables e below s0 t := fun t kk_ => P5 t (by
    refine XS.aloadN X4.here hx rfl (hb hby d_charAt_6) rfl rfl ?_
    refine XS.iloadN X4.here hx rfl (hb hby d_charAt_7) rfl ?_
    exact kk_)
  obtain ⟨cl7, Ar7, q7, S7, M7, Hs7, G7⟩ := id V_tb
  have hin7 := inb_of (j := (1 : Int32)) S7 ⟨by decide, by decide⟩
  have hat7 : cl7.slots[((1 : Int32)).toNatClampNeg]? = some (.int ga) := Has.at Hs7 hin7 (rfl)
  have P8 : ∀ t, GG p e below T4 (mkF m 9 #[.val (.ref tb), .val (.int (1 : Int32))] [(.int ga)]) t → Steps p.tables e below s0 t := fun t kk_ => P6 t (by
    refine X4.baloadBytes hx (j := (1 : Int32)) (v := (.int ga)) (by rw [e4]; exact Ar7.1) (State.isArrayOf_alike hZ.alike Ar7.2.1) Ar7.2.2 hin7 hat7 (g := (mkF m 8 #[.val (.ref tb), .val (.int (1 : Int32))] [(.int (1 : Int32)), (.ref tb)])) rfl rfl (hb hby d_charAt_8) _ ?_
    exact kk_)
  have P9 : ∀ t, GG p e below T4 (mkF m 14 #[.val (.ref tb), .val (.int (1 : Int32))] [(.int ((ga &&& (255 : Int32)).toUInt32.toUInt16.toUInt32.toInt32))]) t → Steps p.tables e below s0 t := fun t kk_ => P8 t (by
    refine XS.sipush X4.here hx rfl (hb hby d_charAt_9) ?_
    refine XS.iand X4.here hx rfl (hb hby d_charAt_12) rfl ?_
    refine XS.i2c X4.here hx rfl (hb hby d_charAt_13) rfl ?_
    exact kk_)
  subst hs0
  obtain ⟨fs, hr, hrun, hended, hW, hsame⟩ := X4.leave (v := some (.int (nar .char ((ga &&& (255 : Int32)).toUInt32.toUInt16.toUInt32.toInt32)))) (fun h => by rw [Bd.returns] at h; cases h)
  refine ⟨_, _, P9 _ ?_, hrun, hended, _, _, rfl, ?_, ⟨_, rfl⟩, hW, hsame.mono (by decide) (by decide)⟩
  · show GG p e below T4 (mkF m 14 #[.val (.ref tb), .val (.int (1 : Int32))] [(.int ((ga &&& (255 : Int32)).toUInt32.toUInt16.toUInt32.toInt32))]) _
    exact retN X4 hx (t := .char) Bd.returns (by simp) (hb hby d_charAt_14) hr
  · show Q_lCh1 Z tb kb ga G3 v0 v2 v3 h0 n0 _ T4.heap _
    rw [e4]
    exact ⟨rfl, N4, rfl⟩
theorem ef_uCh1 (m : MethodId) (x0 : Addr) : entryFrame m #[(.ref x0), (.int (1 : Int32))] 2 = mkF m 0 #[.val (.ref x0), .val (.int (1 : Int32))] [] := by first | (simp [entryFrame, mkF, argsToLocals, Value.category]; done) | rfl
def Q_uCh1 (Z : State) (tb : Addr) (kb : ClassId) (ga : Int32) (gb : Int32) (G3 : Value) (v0 : Value) (v1 : Value) (v4 : Value) (v5 : Value) (v6 : Value) (v7 : Value) (h0 : Heap) (n0 : Nat) (v : Option Value) (h : Heap) (L : List Loc) : Prop := v = some (.int (nar .char (nar .char ((((ga &&& (255 : Int32)) <<< ((0 : Int32) &&& 31)) ||| ((gb &&& (255 : Int32)) <<< ((8 : Int32) &&& 31))).toUInt32.toUInt16.toUInt32.toInt32)))) ∧ Fr n0 L ∧ h = h0
set_option maxRecDepth 65536 in
set_option maxHeartbeats 40000000 in
theorem rm_uCh1 (l : Launch) (Z : State) (a0 : Array Value) (hw : ∀ d ∈ tables_1, d.before a0 Z = true) (ws : List Jvm.Cond) (tb : Addr) (kb : ClassId) (ga : Int32) (gb : Int32) (G3 : Value) (v0 : Value) (v1 : Value) (v4 : Value) (v5 : Value) (v6 : Value) (v7 : Value) (h0 : Heap) (n0 : Nat) (Z0 : n0 ≤ h0.size) (V_tb : Arv Z h0 tb kb .byte (8 : Int32) [v0, v1, (.int ga), (.int gb), v4, v5, v6, v7] (.int (0 : Int32))) (rG3 : G3.isRef = true) (S_SIOOBE_FORMATTER : Sta Z Z.heap "jdk/internal/util/Preconditions" "SIOOBE_FORMATTER" "Ljava/util/function/BiFunction;" G3) (S__assertionsDisabled : Sta Z Z.heap "java/lang/StringUTF16" "$assertionsDisabled" "Z" (.int (1 : Int32))) (S_HI_BYTE_SHIFT : Sta Z Z.heap "java/lang/StringUTF16" "HI_BYTE_SHIFT" "I" (.int (0 : Int32))) (S_LO_BYTE_SHIFT : Sta Z Z.heap "java/lang/StringUTF16" "LO_BYTE_SHIFT" "I" (.int (8 : Int32))) (OL : Old Z n0 h0) :
    MetFree l (⟨"java/lang/StringUTF16", "charAt", "([BI)C"⟩ : MethodName) (head1 (Jvm.Cond.code (⟨"java/lang/StringUTF16", "charAt", "([BI)C"⟩ : MethodName) jdk_52_method_83_code 2 (some .char) :: ws) ({ frames := 3, cells := 0, slots := 0, locals := 40 } : Room)) (fun a U => a = #[(.ref tb), (.int (1 : Int32))] ∧ Z.Warmed39 U.vm ∧ U.heap = h0) (fun _ _ _ _ _ => True) (fun _ U o U' => ∃ v L, o = .returned v ∧ Q_uCh1 Z tb kb ga gb G3 v0 v1 v4 v5 v6 v7 h0 n0 v U'.heap L ∧ FrameEnd U o U' L ({ frames := 3, cells := 0, slots := 0, locals := 40 } : Room).cells ({ frames := 3, cells := 0, slots := 0, locals := 40 } : Room).slots) := by
  refine MetFree.of_bodySF (plainFor_of_name pn_1) hisR ?_
  intro p e s m args below meth c s₁ Bd hml0 hP hK
  obtain ⟨rfl, hZ, hh⟩ := hP
  have hx := Bd.exec
  have hby := Bd.bytes
  have hml : c.maxLocals = 2 := hml0
  have hown : s.vm.findClass "java/lang/StringUTF16" = some m.cls := findClass_of_methodNamed Bd.named
  have hnm := (name_of_methodNamed Bd.named Bd.method).1
  have X0 : Stand p l e ({ frames := 3, cells := 0, slots := 0, locals := 40 } : Room) s m #[(.ref tb), (.int (1 : Int32))] below meth c s₁ [] 0 0 := Stand.of_body Bd
  have e0 : s₁.heap = h0 := by rw [← hh, Bd.state]; rfl
  have N0 := Fr.nil n0
  obtain ⟨s0, hs0⟩ : ∃ z, z = (s₁.setTop (entryFrame m #[(.ref tb), (.int (1 : Int32))] 2)) := ⟨_, rfl⟩
  have P0 : ∀ t, GG p e below s₁ (mkF m 0 #[.val (.ref tb), .val (.int (1 : Int32))] []) t → Steps p.tables e below s0 t := fun t kk_ => by rw [hs0]; exact castTop (ef_uCh1 m tb) kk_
  have P1 : ∀ t, GG p e below s₁ (mkF m 2 #[.val (.ref tb), .val (.int (1 : Int32))] [(.ref tb), (.int (1 : Int32))]) t → Steps p.tables e below s0 t := fun t kk_ => P0 t (by
    refine XS.iloadN X0.here hx rfl (hb hby d_charAt2_0) rfl ?_
    refine XS.aloadN X0.here hx rfl (hb hby d_charAt2_1) rfl rfl ?_
    exact kk_)
  obtain ⟨_, _, ⟨T2, L2, k2, n2⟩, -, X2, ⟨Lc2, hQ2, l2, y2, z2⟩, st2⟩ := Jvm.LawKit.callS X0 hx (y := mn_13) hown (mw hZ hw 81 rfl) (mw hZ hw 82 rfl) (mw hZ hw 22 rfl) (mw hZ hw 83 rfl) (by decide) (backOf (W := 0) (rm_uCk l Z a0 hw [] (1 : Int32) tb kb [v0, v1, (.int ga), (.int gb), v4, v5, v6, v7] G3 h0 n0 (Nat.le_trans Z0 (Nat.le_refl h0.size)) V_tb (by decide) (by decide) rG3 S_SIOOBE_FORMATTER OL) hZ (ww hw 83 rfl) (ww hw 22 rfl) (by decide) (by decide)) (g := (mkF m 2 #[.val (.ref tb), .val (.int (1 : Int32))] [(.ref tb), (.int (1 : Int32))])) rfl (by rw [hml]; rfl) (argsL := [(.int (1 : Int32)), (.ref tb)]) (rest := []) (lenOf pd_12 rfl) rfl (by show 2 * 0 + _ ≤ _; exact Nat.le_of_eq rfl) (hb hby d_charAt2_2) (fun _ _ => ⟨rfl, e0, (by decide : 0 + 0 ≤ _), (by decide : 0 + 0 ≤ _)⟩)
  dsimp only [Pt.U, Pt.locs, Pt.cells, Pt.slots] at X2 l2 y2 z2 st2 hQ2
  subst l2 y2 z2
  obtain ⟨rfl, N2q, e2⟩ := hQ2
  have N2 := Fr.app N0 N2q
  have P3 : ∀ t, GG p e below T2 (mkF m 5 #[.val (.ref tb), .val (.int (1 : Int32))] []) t → Steps p.tables e below s0 t := fun t kk_ => P1 t (st2 _ kk_)
  have P4 : ∀ t, GG p e below T2 (mkF m 7 #[.val (.ref tb), .val (.int (1 : Int32))] [(.int (1 : Int32)), (.ref tb)]) t → Steps p.tables e below s0 t := fun t kk_ => P3 t (by
    refine XS.aloadN X2.here hx rfl (hb hby d_charAt2_5) rfl rfl ?_
    refine XS.iloadN X2.here hx rfl (hb hby d_charAt2_6) rfl ?_
    exact kk_)
  obtain ⟨_, _, ⟨T5, L5, k5, n5⟩, -, X5, ⟨Lc5, hQ5, l5, y5, z5⟩, st5⟩ := Jvm.LawKit.callS X2 hx (y := mn_5) hown (mw hZ hw 44 rfl) (mw hZ hw 45 rfl) (mw hZ hw 22 rfl) (mw hZ hw 46 rfl) (by decide) (backOf (W := 0) (rm_get1 l Z a0 hw [] tb kb ga gb v0 v1 v4 v5 v6 v7 h0 n0 (Nat.le_trans Z0 (Nat.le_refl h0.size)) V_tb S__assertionsDisabled S_HI_BYTE_SHIFT S_LO_BYTE_SHIFT OL) hZ (ww hw 46 rfl) (ww hw 22 rfl) (by decide) (by decide)) (g := (mkF m 7 #[.val (.ref tb), .val (.int (1 : Int32))] [(.int (1 : Int32)), (.ref tb)])) rfl (by rw [hml]; rfl) (argsL := [(.ref tb), (.int (1 : Int32))]) (rest := []) (lenOf pd_5 rfl) rfl (by show 2 * 0 + _ ≤ _; exact Nat.le_of_eq rfl) (hb hby d_charAt2_7) (fun _ _ => ⟨rfl, e2, (by decide : 0 + 0 ≤ _), (by decide : 0 + 0 ≤ _)⟩)
  dsimp only [Pt.U, Pt.locs, Pt.cells, Pt.slots] at X5 l5 y5 z5 st5 hQ5
  subst l5 y5 z5
  obtain ⟨rfl, N5q, e5⟩ := hQ5
  have N5 := Fr.app N2 N5q
  have P6 : ∀ t, GG p e below T5 (mkF m 10 #[.val (.ref tb), .val (.int (1 : Int32))] [(.int (nar .char ((((ga &&& (255 : Int32)) <<< ((0 : Int32) &&& 31)) ||| ((gb &&& (255 : Int32)) <<< ((8 : Int32) &&& 31))).toUInt32.toUInt16.toUInt32.toInt32)))]) t → Steps p.tables e below s0 t := fun t kk_ => P4 t (st5 _ kk_)
  subst hs0
  obtain ⟨fs, hr, hrun, hended, hW, hsame⟩ := X5.leave (v := some (.int (nar .char (nar .char ((((ga &&& (255 : Int32)) <<< ((0 : Int32) &&& 31)) ||| ((gb &&& (255 : Int32)) <<< ((8 : Int32) &&& 31))).toUInt32.toUInt16.toUInt32.toInt32))))) (fun h => by rw [Bd.returns] at h; cases h)
  refine ⟨_, _, P6 _ ?_, hrun, hended, _, _, rfl, ?_, ⟨_, rfl⟩, hW, hsame.mono (by decide) (by decide)⟩
  · show GG p e below T5 (mkF m 10 #[.val (.ref tb), .val (.int (1 : Int32))] [(.int (nar .char ((((ga &&& (255 : Int32)) <<< ((0 : Int32) &&& 31)) ||| ((gb &&& (255 : Int32)) <<< ((8 : Int32) &&& 31))).toUInt32.toUInt16.toUInt32.toInt32)))]) _
    exact retN X5 hx (t := .char) Bd.returns (by simp) (hb hby d_charAt2_10) hr
  · show Q_uCh1 Z tb kb ga gb G3 v0 v1 v4 v5 v6 v7 h0 n0 _ T5.heap _
    rw [e5]
    exact ⟨rfl, N5, rfl⟩
theorem ef_sCh1 (m : MethodId) (x0 : Addr) : entryFrame m #[(.ref x0), (.int (1 : Int32))] 2 = mkF m 0 #[.val (.ref x0), .val (.int (1 : Int32))] [] := by first | (simp [entryFrame, mkF, argsToLocals, Value.category]; done) | rfl
def Q_sCh1 (Z : State) (xs : Addr) (tb : Addr) (kb : ClassId) (cd : Int32) (nB : Int32) (vs : List Value) (c0 : Int32) (c1 : Int32) (c2 : Int32) (c3 : Int32) (G1 : Int32) (G3 : Value) (h0 : Heap) (n0 : Nat) (v : Option Value) (h : Heap) (L : List Loc) : Prop := v = some (.int c1) ∧ Fr n0 L ∧ h = h0
set_option maxRecDepth 65536 in
set_option maxHeartbeats 40000000 in
theorem rm_sCh1 (l : Launch) (Z : State) (a0 : Array Value) (hw : ∀ d ∈ tables_1, d.before a0 Z = true) (ws : List Jvm.Cond) (xs : Addr) (tb : Addr) (kb : ClassId) (cd : Int32) (nB : Int32) (vs : List Value) (c0 : Int32) (c1 : Int32) (c2 : Int32) (c3 : Int32) (G1 : Int32) (G3 : Value) (h0 : Heap) (n0 : Nat) (Z0 : n0 ≤ h0.size) (E_xs : Exa Z h0 xs "java/lang/String") (F_value_xs : Fld Z h0 xs "java/lang/String" "value" "[B" (.ref tb)) (F_coder_xs : Fld Z h0 xs "java/lang/String" "coder" "B" (.int cd)) (V_tb : Arv Z h0 tb kb .byte nB vs (.int (0 : Int32))) (S_COMPACT_STRINGS : Sta Z Z.heap "java/lang/String" "COMPACT_STRINGS" "Z" (.int G1)) (S__assertionsDisabled : Sta Z Z.heap "java/lang/StringUTF16" "$assertionsDisabled" "Z" (.int (1 : Int32))) (S_HI_BYTE_SHIFT : Sta Z Z.heap "java/lang/StringUTF16" "HI_BYTE_SHIFT" "I" (.int (0 : Int32))) (S_LO_BYTE_SHIFT : Sta Z Z.heap "java/lang/StringUTF16" "LO_BYTE_SHIFT" "I" (.int (8 : Int32))) (S_SIOOBE_FORMATTER : Sta Z Z.heap "jdk/internal/util/Preconditions" "SIOOBE_FORMATTER" "Ljava/util/function/BiFunction;" G3) (OL : Old Z n0 h0) (hz : ¬ G1 = 0) (rG3 : G3.isRef = true) (s4 : Str4 c0 c1 c2 c3 cd nB vs) (ic0 : isC c0) (ic1 : isC c1) (ic2 : isC c2) (ic3 : isC c3) :
    MetFree l (⟨"java/lang/String", "charAt", "(I)C"⟩ : MethodName) (head1 (Jvm.Cond.code (⟨"java/lang/String", "charAt", "(I)C"⟩ : MethodName) jdk_42_method_56_code 2 (some .char) :: ws) ({ frames := 4, cells := 0, slots := 0, locals := 53 } : Room)) (fun a U => a = #[(.ref xs), (.int (1 : Int32))] ∧ Z.Warmed39 U.vm ∧ U.heap = h0) (fun _ _ _ _ _ => True) (fun _ U o U' => ∃ v L, o = .returned v ∧ Q_sCh1 Z xs tb kb cd nB vs c0 c1 c2 c3 G1 G3 h0 n0 v U'.heap L ∧ FrameEnd U o U' L ({ frames := 4, cells := 0, slots := 0, locals := 53 } : Room).cells ({ frames := 4, cells := 0, slots := 0, locals := 53 } : Room).slots) := by
  refine MetFree.of_bodySF (plainFor_of_name pn_2) hisR ?_
  intro p e s m args below meth c s₁ Bd hml0 hP hK
  obtain ⟨rfl, hZ, hh⟩ := hP
  have hx := Bd.exec
  have hby := Bd.bytes
  have hml : c.maxLocals = 2 := hml0
  have hown : s.vm.findClass "java/lang/String" = some m.cls := findClass_of_methodNamed Bd.named
  have hnm := (name_of_methodNamed Bd.named Bd.method).1
  have X0 : Stand p l e ({ frames := 4, cells := 0, slots := 0, locals := 53 } : Room) s m #[(.ref xs), (.int (1 : Int32))] below meth c s₁ [] 0 0 := Stand.of_body Bd
  have e0 : s₁.heap = h0 := by rw [← hh, Bd.state]; rfl
  have N0 := Fr.nil n0
  obtain ⟨s0, hs0⟩ : ∃ z, z = (s₁.setTop (entryFrame m #[(.ref xs), (.int (1 : Int32))] 2)) := ⟨_, rfl⟩
  have P0 : ∀ t, GG p e below s₁ (mkF m 0 #[.val (.ref xs), .val (.int (1 : Int32))] []) t → Steps p.tables e below s0 t := fun t kk_ => by rw [hs0]; exact castTop (ef_sCh1 m xs) kk_
  rcases s4 with hcase | hcase
  ·
    obtain ⟨rfl, rfl, rfl, hla⟩ := hcase
    have P1 : ∀ t, GG p e below s₁ (mkF m 1 #[.val (.ref xs), .val (.int (1 : Int32))] [(.ref xs)]) t → Steps p.tables e below s0 t := fun t kk_ => P0 t (by
      refine XS.aloadN X0.here hx rfl (hb hby d_charAt3_0) rfl rfl ?_
      exact kk_)
    obtain ⟨cq2, kq2, q2a, q2b, q2c⟩ := isOf hZ e0 E_xs
    obtain ⟨_, _, ⟨T2, L2, k2, n2⟩, -, X2, ⟨Lc2, hQ2, l2, y2, z2⟩, st2⟩ := X0.virtualBack hx (y := mn_14) (z := mn_14) hown (mw hZ hw 73 rfl) (mw hZ hw 74 rfl) (notFace_of_selects (args := #[]) (mw hZ hw 76 rfl)) (mw hZ hw 76 rfl) (mw hZ hw 75 rfl) (by decide) (backOf (W := 0) (rm_isLat0 l Z a0 hw [] xs G1 h0 n0 (Nat.le_trans Z0 (Nat.le_refl h0.size)) F_coder_xs S_COMPACT_STRINGS OL hz) hZ (ww hw 77 rfl) (ww hw 8 rfl) (by decide) (by decide)) q2a q2c (g := (mkF m 1 #[.val (.ref xs), .val (.int (1 : Int32))] [(.ref xs)])) rfl (by rw [hml]; rfl) (Steps.refl _) (argsL := []) (rest := []) (lenOf pd_13 rfl) rfl (by show 2 * 0 + _ ≤ _; exact Nat.le_of_eq rfl) (hb hby d_charAt3_1) (fun _ _ => ⟨rfl, e0, (by decide : 0 + 0 ≤ _), (by decide : 0 + 0 ≤ _)⟩)
    dsimp only [Pt.U, Pt.locs, Pt.cells, Pt.slots] at X2 l2 y2 z2 st2 hQ2
    subst l2 y2 z2
    obtain ⟨rfl, N2q, e2⟩ := hQ2
    have N2 := Fr.app N0 N2q
    have P3 : ∀ t, GG p e below T2 (mkF m 4 #[.val (.ref xs), .val (.int (1 : Int32))] [(.int (1 : Int32))]) t → Steps p.tables e below s0 t := fun t kk_ => P1 t (st2.trans kk_)
    have P4 : ∀ t, GG p e below T2 (mkF m 8 #[.val (.ref xs), .val (.int (1 : Int32))] [(.ref xs)]) t → Steps p.tables e below s0 t := fun t kk_ => P3 t (by
      refine XS.ifNo X2.here hx rfl (hb hby d_charAt3_4) rfl ((if0 _ _).trans (feq ((by decide) : ¬ ((1 : Int32) = (0 : Int32)))).1) ?_
      refine XS.aloadN X2.here hx rfl (hb hby d_charAt3_7) rfl rfl ?_
      exact kk_)
    obtain ⟨T5, X5, e5, st5⟩ := getF X2 hx hZ hown (host := "") (Or.inl (ww hw 52 rfl)) Via.refl e2 F_value_xs (g := (mkF m 8 #[.val (.ref xs), .val (.int (1 : Int32))] [(.ref xs)])) rfl rfl (hb hby d_charAt3_8)
    have P6 : ∀ t, GG p e below T5 (mkF m 11 #[.val (.ref xs), .val (.int (1 : Int32))] [(.ref tb)]) t → Steps p.tables e below s0 t := fun t kk_ => P4 t (st5 _ kk_)
    have P7 : ∀ t, GG p e below T5 (mkF m 12 #[.val (.ref xs), .val (.int (1 : Int32))] [(.int (1 : Int32)), (.ref tb)]) t → Steps p.tables e below s0 t := fun t kk_ => P6 t (by
      refine XS.iloadN X5.here hx rfl (hb hby d_charAt3_11) rfl ?_
      exact kk_)
    obtain ⟨_, _, ⟨T8, L8, k8, n8⟩, -, X8, ⟨Lc8, hQ8, l8, y8, z8⟩, st8⟩ := Jvm.LawKit.callS X5 hx (y := mn_15) hown (mw hZ hw 108 rfl) (mw hZ hw 109 rfl) (mw hZ hw 110 rfl) (mw hZ hw 111 rfl) (by decide) (backOf (W := 0) (rm_lCh1 l Z a0 hw [] tb kb (nar .byte (c1.toInt8.toInt32)) G3 (.int (nar .byte (c0.toInt8.toInt32))) (.int (nar .byte (c2.toInt8.toInt32))) (.int (nar .byte (c3.toInt8.toInt32))) h0 n0 (Nat.le_trans Z0 (Nat.le_refl h0.size)) V_tb rG3 S_SIOOBE_FORMATTER OL) hZ (ww hw 111 rfl) (ww hw 110 rfl) (by decide) (by decide)) (g := (mkF m 12 #[.val (.ref xs), .val (.int (1 : Int32))] [(.int (1 : Int32)), (.ref tb)])) rfl (by rw [hml]; rfl) (argsL := [(.ref tb), (.int (1 : Int32))]) (rest := []) (lenOf pd_5 rfl) rfl (by show 2 * 0 + _ ≤ _; exact Nat.le_of_eq rfl) (hb hby d_charAt3_12) (fun _ _ => ⟨rfl, e5, (by decide : 0 + 0 ≤ _), (by decide : 0 + 0 ≤ _)⟩)
    dsimp only [Pt.U, Pt.locs, Pt.cells, Pt.slots] at X8 l8 y8 z8 st8 hQ8
    subst l8 y8 z8
    obtain ⟨rfl, N8q, e8⟩ := hQ8
    have N8 := Fr.app N2 N8q
    have P9 : ∀ t, GG p e below T8 (mkF m 15 #[.val (.ref xs), .val (.int (1 : Int32))] [(.int (nar .char ((((nar .byte (c1.toInt8.toInt32)) &&& (255 : Int32))).toUInt32.toUInt16.toUInt32.toInt32)))]) t → Steps p.tables e below s0 t := fun t kk_ => P7 t (st8 _ kk_)
    subst hs0
    obtain ⟨fs, hr, hrun, hended, hW, hsame⟩ := X8.leave (v := some (.int (nar .char (nar .char ((((nar .byte (c1.toInt8.toInt32)) &&& (255 : Int32))).toUInt32.toUInt16.toUInt32.toInt32))))) (fun h => by rw [Bd.returns] at h; cases h)
    refine ⟨_, _, P9 _ ?_, hrun, hended, _, _, rfl, ?_, ⟨_, rfl⟩, hW, hsame.mono (by decide) (by decide)⟩
    · show GG p e below T8 (mkF m 15 #[.val (.ref xs), .val (.int (1 : Int32))] [(.int (nar .char ((((nar .byte (c1.toInt8.toInt32)) &&& (255 : Int32))).toUInt32.toUInt16.toUInt32.toInt32)))]) _
      exact retN X8 hx (t := .char) Bd.returns (by simp) (hb hby d_charAt3_15) hr
    · show Q_sCh1 Z xs tb kb (0 : Int32) (4 : Int32) [(.int (nar .byte (c0.toInt8.toInt32))), (.int (nar .byte (c1.toInt8.toInt32))), (.int (nar .byte (c2.toInt8.toInt32))), (.int (nar .byte (c3.toInt8.toInt32)))] c0 c1 c2 c3 G1 G3 h0 n0 _ T8.heap _
      rw [e8]
      exact ⟨congrArg (fun z => some (Value.int z)) (own_lat ic1 hla.2.1), N8, rfl⟩
  ·
    obtain ⟨rfl, rfl, rfl⟩ := hcase
    have P10 : ∀ t, GG p e below s₁ (mkF m 1 #[.val (.ref xs), .val (.int (1 : Int32))] [(.ref xs)]) t → Steps p.tables e below s0 t := fun t kk_ => P0 t (by
      refine XS.aloadN X0.here hx rfl (hb hby d_charAt3_0) rfl rfl ?_
      exact kk_)
    obtain ⟨cq11, kq11, q11a, q11b, q11c⟩ := isOf hZ e0 E_xs
    obtain ⟨_, _, ⟨T11, L11, k11, n11⟩, -, X11, ⟨Lc11, hQ11, l11, y11, z11⟩, st11⟩ := X0.virtualBack hx (y := mn_14) (z := mn_14) hown (mw hZ hw 73 rfl) (mw hZ hw 74 rfl) (notFace_of_selects (args := #[]) (mw hZ hw 76 rfl)) (mw hZ hw 76 rfl) (mw hZ hw 75 rfl) (by decide) (backOf (W := 0) (rm_isLat1 l Z a0 hw [] xs G1 h0 n0 (Nat.le_trans Z0 (Nat.le_refl h0.size)) F_coder_xs S_COMPACT_STRINGS OL hz) hZ (ww hw 77 rfl) (ww hw 8 rfl) (by decide) (by decide)) q11a q11c (g := (mkF m 1 #[.val (.ref xs), .val (.int (1 : Int32))] [(.ref xs)])) rfl (by rw [hml]; rfl) (Steps.refl _) (argsL := []) (rest := []) (lenOf pd_13 rfl) rfl (by show 2 * 0 + _ ≤ _; exact Nat.le_of_eq rfl) (hb hby d_charAt3_1) (fun _ _ => ⟨rfl, e0, (by decide : 0 + 0 ≤ _), (by decide : 0 + 0 ≤ _)⟩)
    dsimp only [Pt.U, Pt.locs, Pt.cells, Pt.slots] at X11 l11 y11 z11 st11 hQ11
    subst l11 y11 z11
    obtain ⟨rfl, N11q, e11⟩ := hQ11
    have N11 := Fr.app N0 N11q
    have P12 : ∀ t, GG p e below T11 (mkF m 4 #[.val (.ref xs), .val (.int (1 : Int32))] [(.int (0 : Int32))]) t → Steps p.tables e below s0 t := fun t kk_ => P10 t (st11.trans kk_)
    have P13 : ∀ t, GG p e below T11 (mkF m 17 #[.val (.ref xs), .val (.int (1 : Int32))] [(.ref xs)]) t → Steps p.tables e below s0 t := fun t kk_ => P12 t (by
      refine XS.ifYes X11.here hx rfl (pc0 := 4) (pc' := 16) rfl (hb hby d_charAt3_4) rfl ((if0 _ _).trans (teq ((by decide) : (0 : Int32) = (0 : Int32))).1) (by decide) (by decide) ?_
      refine XS.aloadN X11.here hx rfl (hb hby d_charAt3_16) rfl rfl ?_
      exact kk_)
    obtain ⟨T14, X14, e14, st14⟩ := getF X11 hx hZ hown (host := "") (Or.inl (ww hw 52 rfl)) Via.refl e11 F_value_xs (g := (mkF m 17 #[.val (.ref xs), .val (.int (1 : Int32))] [(.ref xs)])) rfl rfl (hb hby d_charAt3_17)
    have P15 : ∀ t, GG p e below T14 (mkF m 20 #[.val (.ref xs), .val (.int (1 : Int32))] [(.ref tb)]) t → Steps p.tables e below s0 t := fun t kk_ => P13 t (st14 _ kk_)
    have P16 : ∀ t, GG p e below T14 (mkF m 21 #[.val (.ref xs), .val (.int (1 : Int32))] [(.int (1 : Int32)), (.ref tb)]) t → Steps p.tables e below s0 t := fun t kk_ => P15 t (by
      refine XS.iloadN X14.here hx rfl (hb hby d_charAt3_20) rfl ?_
      exact kk_)
    obtain ⟨_, _, ⟨T17, L17, k17, n17⟩, -, X17, ⟨Lc17, hQ17, l17, y17, z17⟩, st17⟩ := Jvm.LawKit.callS X14 hx (y := mn_16) hown (mw hZ hw 78 rfl) (mw hZ hw 79 rfl) (mw hZ hw 22 rfl) (mw hZ hw 80 rfl) (by decide) (backOf (W := 0) (rm_uCh1 l Z a0 hw [] tb kb (nar .byte ((c1 >>> ((0 : Int32) &&& 31)).toInt8.toInt32)) (nar .byte ((c1 >>> ((8 : Int32) &&& 31)).toInt8.toInt32)) G3 (.int (nar .byte ((c0 >>> ((0 : Int32) &&& 31)).toInt8.toInt32))) (.int (nar .byte ((c0 >>> ((8 : Int32) &&& 31)).toInt8.toInt32))) (.int (nar .byte ((c2 >>> ((0 : Int32) &&& 31)).toInt8.toInt32))) (.int (nar .byte ((c2 >>> ((8 : Int32) &&& 31)).toInt8.toInt32))) (.int (nar .byte ((c3 >>> ((0 : Int32) &&& 31)).toInt8.toInt32))) (.int (nar .byte ((c3 >>> ((8 : Int32) &&& 31)).toInt8.toInt32))) h0 n0 (Nat.le_trans Z0 (Nat.le_refl h0.size)) V_tb rG3 S_SIOOBE_FORMATTER S__assertionsDisabled S_HI_BYTE_SHIFT S_LO_BYTE_SHIFT OL) hZ (ww hw 80 rfl) (ww hw 22 rfl) (by decide) (by decide)) (g := (mkF m 21 #[.val (.ref xs), .val (.int (1 : Int32))] [(.int (1 : Int32)), (.ref tb)])) rfl (by rw [hml]; rfl) (argsL := [(.ref tb), (.int (1 : Int32))]) (rest := []) (lenOf pd_5 rfl) rfl (by show 2 * 0 + _ ≤ _; exact Nat.le_of_eq rfl) (hb hby d_charAt3_21) (fun _ _ => ⟨rfl, e14, (by decide : 0 + 0 ≤ _), (by decide : 0 + 0 ≤ _)⟩)
    dsimp only [Pt.U, Pt.locs, Pt.cells, Pt.slots] at X17 l17 y17 z17 st17 hQ17
    subst l17 y17 z17
    obtain ⟨rfl, N17q, e17⟩ := hQ17
    have N17 := Fr.app N11 N17q
    have P18 : ∀ t, GG p e below T17 (mkF m 24 #[.val (.ref xs), .val (.int (1 : Int32))] [(.int (nar .char (nar .char (((((nar .byte ((c1 >>> ((0 : Int32) &&& 31)).toInt8.toInt32)) &&& (255 : Int32)) <<< ((0 : Int32) &&& 31)) ||| (((nar .byte ((c1 >>> ((8 : Int32) &&& 31)).toInt8.toInt32)) &&& (255 : Int32)) <<< ((8 : Int32) &&& 31))).toUInt32.toUInt16.toUInt32.toInt32))))]) t → Steps p.tables e below s0 t := fun t kk_ => P16 t (st17 _ kk_)
    subst hs0
    obtain ⟨fs, hr, hrun, hended, hW, hsame⟩ := X17.leave (v := some (.int (nar .char (nar .char (nar .char (((((nar .byte ((c1 >>> ((0 : Int32) &&& 31)).toInt8.toInt32)) &&& (255 : Int32)) <<< ((0 : Int32) &&& 31)) ||| (((nar .byte ((c1 >>> ((8 : Int32) &&& 31)).toInt8.toInt32)) &&& (255 : Int32)) <<< ((8 : Int32) &&& 31))).toUInt32.toUInt16.toUInt32.toInt32)))))) (fun h => by rw [Bd.returns] at h; cases h)
    refine ⟨_, _, P18 _ ?_, hrun, hended, _, _, rfl, ?_, ⟨_, rfl⟩, hW, hsame.mono (by decide) (by decide)⟩
    · show GG p e below T17 (mkF m 24 #[.val (.ref xs), .val (.int (1 : Int32))] [(.int (nar .char (nar .char (((((nar .byte ((c1 >>> ((0 : Int32) &&& 31)).toInt8.toInt32)) &&& (255 : Int32)) <<< ((0 : Int32) &&& 31)) ||| (((nar .byte ((c1 >>> ((8 : Int32) &&& 31)).toInt8.toInt32)) &&& (255 : Int32)) <<< ((8 : Int32) &&& 31))).toUInt32.toUInt16.toUInt32.toInt32))))]) _
      exact retN X17 hx (t := .char) Bd.returns (by simp) (hb hby d_charAt3_24) hr
    · show Q_sCh1 Z xs tb kb (1 : Int32) (8 : Int32) [(.int (nar .byte ((c0 >>> ((0 : Int32) &&& 31)).toInt8.toInt32))), (.int (nar .byte ((c0 >>> ((8 : Int32) &&& 31)).toInt8.toInt32))), (.int (nar .byte ((c1 >>> ((0 : Int32) &&& 31)).toInt8.toInt32))), (.int (nar .byte ((c1 >>> ((8 : Int32) &&& 31)).toInt8.toInt32))), (.int (nar .byte ((c2 >>> ((0 : Int32) &&& 31)).toInt8.toInt32))), (.int (nar .byte ((c2 >>> ((8 : Int32) &&& 31)).toInt8.toInt32))), (.int (nar .byte ((c3 >>> ((0 : Int32) &&& 31)).toInt8.toInt32))), (.int (nar .byte ((c3 >>> ((8 : Int32) &&& 31)).toInt8.toInt32)))] c0 c1 c2 c3 G1 G3 h0 n0 _ T17.heap _
      rw [e17]
      exact ⟨congrArg (fun z => some (Value.int z)) (own_wide ic1), N17, rfl⟩
theorem ef_lCh2 (m : MethodId) (x0 : Addr) : entryFrame m #[(.ref x0), (.int (2 : Int32))] 2 = mkF m 0 #[.val (.ref x0), .val (.int (2 : Int32))] [] := by first | (simp [entryFrame, mkF, argsToLocals, Value.category]; done) | rfl
def Q_lCh2 (Z : State) (tb : Addr) (kb : ClassId) (ga : Int32) (G3 : Value) (v0 : Value) (v1 : Value) (v3 : Value) (h0 : Heap) (n0 : Nat) (v : Option Value) (h : Heap) (L : List Loc) : Prop := v = some (.int (nar .char (((ga &&& (255 : Int32))).toUInt32.toUInt16.toUInt32.toInt32))) ∧ Fr n0 L ∧ h = h0
set_option maxRecDepth 65536 in
set_option maxHeartbeats 40000000 in
theorem rm_lCh2 (l : Launch) (Z : State) (a0 : Array Value) (hw : ∀ d ∈ tables_1, d.before a0 Z = true) (ws : List Jvm.Cond) (tb : Addr) (kb : ClassId) (ga : Int32) (G3 : Value) (v0 : Value) (v1 : Value) (v3 : Value) (h0 : Heap) (n0 : Nat) (Z0 : n0 ≤ h0.size) (V_tb : Arv Z h0 tb kb .byte (4 : Int32) [v0, v1, (.int ga), v3] (.int (0 : Int32))) (rG3 : G3.isRef = true) (S_SIOOBE_FORMATTER : Sta Z Z.heap "jdk/internal/util/Preconditions" "SIOOBE_FORMATTER" "Ljava/util/function/BiFunction;" G3) (OL : Old Z n0 h0) :
    MetFree l (⟨"java/lang/StringLatin1", "charAt", "([BI)C"⟩ : MethodName) (head1 (Jvm.Cond.code (⟨"java/lang/StringLatin1", "charAt", "([BI)C"⟩ : MethodName) jdk_43_method_2_code 2 (some .char) :: ws) ({ frames := 2, cells := 0, slots := 0, locals := 27 } : Room)) (fun a U => a = #[(.ref tb), (.int (2 : Int32))] ∧ Z.Warmed39 U.vm ∧ U.heap = h0) (fun _ _ _ _ _ => True) (fun _ U o U' => ∃ v L, o = .returned v ∧ Q_lCh2 Z tb kb ga G3 v0 v1 v3 h0 n0 v U'.heap L ∧ FrameEnd U o U' L ({ frames := 2, cells := 0, slots := 0, locals := 27 } : Room).cells ({ frames := 2, cells := 0, slots := 0, locals := 27 } : Room).slots) := by
  refine MetFree.of_bodySF (plainFor_of_name pn_4) hisR ?_
  intro p e s m args below meth c s₁ Bd hml0 hP hK
  obtain ⟨rfl, hZ, hh⟩ := hP
  have hx := Bd.exec
  have hby := Bd.bytes
  have hml : c.maxLocals = 2 := hml0
  have hown : s.vm.findClass "java/lang/StringLatin1" = some m.cls := findClass_of_methodNamed Bd.named
  have hnm := (name_of_methodNamed Bd.named Bd.method).1
  have X0 : Stand p l e ({ frames := 2, cells := 0, slots := 0, locals := 27 } : Room) s m #[(.ref tb), (.int (2 : Int32))] below meth c s₁ [] 0 0 := Stand.of_body Bd
  have e0 : s₁.heap = h0 := by rw [← hh, Bd.state]; rfl
  have N0 := Fr.nil n0
  obtain ⟨s0, hs0⟩ : ∃ z, z = (s₁.setTop (entryFrame m #[(.ref tb), (.int (2 : Int32))] 2)) := ⟨_, rfl⟩
  have P0 : ∀ t, GG p e below s₁ (mkF m 0 #[.val (.ref tb), .val (.int (2 : Int32))] []) t → Steps p.tables e below s0 t := fun t kk_ => by rw [hs0]; exact castTop (ef_lCh2 m tb) kk_
  have P1 : ∀ t, GG p e below s₁ (mkF m 2 #[.val (.ref tb), .val (.int (2 : Int32))] [(.ref tb), (.int (2 : Int32))]) t → Steps p.tables e below s0 t := fun t kk_ => P0 t (by
    refine XS.iloadN X0.here hx rfl (hb hby d_charAt_0) rfl ?_
    refine XS.aloadN X0.here hx rfl (hb hby d_charAt_1) rfl rfl ?_
    exact kk_)
  obtain ⟨cl2, Ar2, -, S2, M2, -, -⟩ := id V_tb
  have P3 : ∀ t, GG p e below s₁ (mkF m 3 #[.val (.ref tb), .val (.int (2 : Int32))] [(.int (4 : Int32)), (.int (2 : Int32))]) t → Steps p.tables e below s0 t := fun t kk_ => P1 t (by
    refine X0.arraylength hx (by rw [e0]; exact Ar2.1) (State.isArrayOf_alike hZ.alike Ar2.2.1) (g := (mkF m 2 #[.val (.ref tb), .val (.int (2 : Int32))] [(.ref tb), (.int (2 : Int32))])) rfl rfl (hb hby d_charAt_2) _ ?_
    rw [len_of S2 M2]
    exact kk_)
  obtain ⟨_, _, ⟨T4, L4, k4, n4⟩, -, X4, ⟨Lc4, hQ4, l4, y4, z4⟩, st4⟩ := Jvm.LawKit.callS X0 hx (y := mn_12) hown (mw hZ hw 112 rfl) (mw hZ hw 88 rfl) (mw hZ hw 8 rfl) (mw hZ hw 89 rfl) (by decide) (backOf (W := 0) (rm_ckS l Z a0 hw [] (2 : Int32) (4 : Int32) G3 h0 n0 (Nat.le_trans Z0 (Nat.le_refl h0.size)) (by decide) (by decide) rG3 S_SIOOBE_FORMATTER OL) hZ (ww hw 89 rfl) (ww hw 8 rfl) (by decide) (by decide)) (g := (mkF m 3 #[.val (.ref tb), .val (.int (2 : Int32))] [(.int (4 : Int32)), (.int (2 : Int32))])) rfl (by rw [hml]; rfl) (argsL := [(.int (2 : Int32)), (.int (4 : Int32))]) (rest := []) (lenOf pd_11 rfl) rfl (by show 2 * 0 + _ ≤ _; exact Nat.le_of_eq rfl) (hb hby d_charAt_3) (fun _ _ => ⟨rfl, e0, (by decide : 0 + 0 ≤ _), (by decide : 0 + 0 ≤ _)⟩)
  dsimp only [Pt.U, Pt.locs, Pt.cells, Pt.slots] at X4 l4 y4 z4 st4 hQ4
  subst l4 y4 z4
  obtain ⟨rfl, N4q, e4⟩ := hQ4
  have N4 := Fr.app N0 N4q
  have P5 : ∀ t, GG p e below T4 (mkF m 6 #[.val (.ref tb), .val (.int (2 : Int32))] []) t → Steps p.tables e below s0 t := fun t kk_ => P3 t (st4 _ kk_)
  have P6 : ∀ t, GG p e below T4 (mkF m 8 #[.val (.ref tb), .val (.int (2 : Int32))] [(.int (2 : Int32)), (.ref tb)]) t → Steps p.tables e below s0 t := fun t kk_ => P5 t (by
    refine XS.aloadN X4.here hx rfl (hb hby d_charAt_6) rfl rfl ?_
    refine XS.iloadN X4.here hx rfl (hb hby d_charAt_7) rfl ?_
    exact kk_)
  obtain ⟨cl7, Ar7, q7, S7, M7, Hs7, G7⟩ := id V_tb
  have hin7 := inb_of (j := (2 : Int32)) S7 ⟨by decide, by decide⟩
  have hat7 : cl7.slots[((2 : Int32)).toNatClampNeg]? = some (.int ga) := Has.at Hs7 hin7 (rfl)
  have P8 : ∀ t, GG p e below T4 (mkF m 9 #[.val (.ref tb), .val (.int (2 : Int32))] [(.int ga)]) t → Steps p.tables e below s0 t := fun t kk_ => P6 t (by
    refine X4.baloadBytes hx (j := (2 : Int32)) (v := (.int ga)) (by rw [e4]; exact Ar7.1) (State.isArrayOf_alike hZ.alike Ar7.2.1) Ar7.2.2 hin7 hat7 (g := (mkF m 8 #[.val (.ref tb), .val (.int (2 : Int32))] [(.int (2 : Int32)), (.ref tb)])) rfl rfl (hb hby d_charAt_8) _ ?_
    exact kk_)
  have P9 : ∀ t, GG p e below T4 (mkF m 14 #[.val (.ref tb), .val (.int (2 : Int32))] [(.int ((ga &&& (255 : Int32)).toUInt32.toUInt16.toUInt32.toInt32))]) t → Steps p.tables e below s0 t := fun t kk_ => P8 t (by
    refine XS.sipush X4.here hx rfl (hb hby d_charAt_9) ?_
    refine XS.iand X4.here hx rfl (hb hby d_charAt_12) rfl ?_
    refine XS.i2c X4.here hx rfl (hb hby d_charAt_13) rfl ?_
    exact kk_)
  subst hs0
  obtain ⟨fs, hr, hrun, hended, hW, hsame⟩ := X4.leave (v := some (.int (nar .char ((ga &&& (255 : Int32)).toUInt32.toUInt16.toUInt32.toInt32)))) (fun h => by rw [Bd.returns] at h; cases h)
  refine ⟨_, _, P9 _ ?_, hrun, hended, _, _, rfl, ?_, ⟨_, rfl⟩, hW, hsame.mono (by decide) (by decide)⟩
  · show GG p e below T4 (mkF m 14 #[.val (.ref tb), .val (.int (2 : Int32))] [(.int ((ga &&& (255 : Int32)).toUInt32.toUInt16.toUInt32.toInt32))]) _
    exact retN X4 hx (t := .char) Bd.returns (by simp) (hb hby d_charAt_14) hr
  · show Q_lCh2 Z tb kb ga G3 v0 v1 v3 h0 n0 _ T4.heap _
    rw [e4]
    exact ⟨rfl, N4, rfl⟩
theorem ef_uCh2 (m : MethodId) (x0 : Addr) : entryFrame m #[(.ref x0), (.int (2 : Int32))] 2 = mkF m 0 #[.val (.ref x0), .val (.int (2 : Int32))] [] := by first | (simp [entryFrame, mkF, argsToLocals, Value.category]; done) | rfl
def Q_uCh2 (Z : State) (tb : Addr) (kb : ClassId) (ga : Int32) (gb : Int32) (G3 : Value) (v0 : Value) (v1 : Value) (v2 : Value) (v3 : Value) (v6 : Value) (v7 : Value) (h0 : Heap) (n0 : Nat) (v : Option Value) (h : Heap) (L : List Loc) : Prop := v = some (.int (nar .char (nar .char ((((ga &&& (255 : Int32)) <<< ((0 : Int32) &&& 31)) ||| ((gb &&& (255 : Int32)) <<< ((8 : Int32) &&& 31))).toUInt32.toUInt16.toUInt32.toInt32)))) ∧ Fr n0 L ∧ h = h0
set_option maxRecDepth 65536 in
set_option maxHeartbeats 40000000 in
theorem rm_uCh2 (l : Launch) (Z : State) (a0 : Array Value) (hw : ∀ d ∈ tables_1, d.before a0 Z = true) (ws : List Jvm.Cond) (tb : Addr) (kb : ClassId) (ga : Int32) (gb : Int32) (G3 : Value) (v0 : Value) (v1 : Value) (v2 : Value) (v3 : Value) (v6 : Value) (v7 : Value) (h0 : Heap) (n0 : Nat) (Z0 : n0 ≤ h0.size) (V_tb : Arv Z h0 tb kb .byte (8 : Int32) [v0, v1, v2, v3, (.int ga), (.int gb), v6, v7] (.int (0 : Int32))) (rG3 : G3.isRef = true) (S_SIOOBE_FORMATTER : Sta Z Z.heap "jdk/internal/util/Preconditions" "SIOOBE_FORMATTER" "Ljava/util/function/BiFunction;" G3) (S__assertionsDisabled : Sta Z Z.heap "java/lang/StringUTF16" "$assertionsDisabled" "Z" (.int (1 : Int32))) (S_HI_BYTE_SHIFT : Sta Z Z.heap "java/lang/StringUTF16" "HI_BYTE_SHIFT" "I" (.int (0 : Int32))) (S_LO_BYTE_SHIFT : Sta Z Z.heap "java/lang/StringUTF16" "LO_BYTE_SHIFT" "I" (.int (8 : Int32))) (OL : Old Z n0 h0) :
    MetFree l (⟨"java/lang/StringUTF16", "charAt", "([BI)C"⟩ : MethodName) (head1 (Jvm.Cond.code (⟨"java/lang/StringUTF16", "charAt", "([BI)C"⟩ : MethodName) jdk_52_method_83_code 2 (some .char) :: ws) ({ frames := 3, cells := 0, slots := 0, locals := 40 } : Room)) (fun a U => a = #[(.ref tb), (.int (2 : Int32))] ∧ Z.Warmed39 U.vm ∧ U.heap = h0) (fun _ _ _ _ _ => True) (fun _ U o U' => ∃ v L, o = .returned v ∧ Q_uCh2 Z tb kb ga gb G3 v0 v1 v2 v3 v6 v7 h0 n0 v U'.heap L ∧ FrameEnd U o U' L ({ frames := 3, cells := 0, slots := 0, locals := 40 } : Room).cells ({ frames := 3, cells := 0, slots := 0, locals := 40 } : Room).slots) := by
  refine MetFree.of_bodySF (plainFor_of_name pn_1) hisR ?_
  intro p e s m args below meth c s₁ Bd hml0 hP hK
  obtain ⟨rfl, hZ, hh⟩ := hP
  have hx := Bd.exec
  have hby := Bd.bytes
  have hml : c.maxLocals = 2 := hml0
  have hown : s.vm.findClass "java/lang/StringUTF16" = some m.cls := findClass_of_methodNamed Bd.named
  have hnm := (name_of_methodNamed Bd.named Bd.method).1
  have X0 : Stand p l e ({ frames := 3, cells := 0, slots := 0, locals := 40 } : Room) s m #[(.ref tb), (.int (2 : Int32))] below meth c s₁ [] 0 0 := Stand.of_body Bd
  have e0 : s₁.heap = h0 := by rw [← hh, Bd.state]; rfl
  have N0 := Fr.nil n0
  obtain ⟨s0, hs0⟩ : ∃ z, z = (s₁.setTop (entryFrame m #[(.ref tb), (.int (2 : Int32))] 2)) := ⟨_, rfl⟩
  have P0 : ∀ t, GG p e below s₁ (mkF m 0 #[.val (.ref tb), .val (.int (2 : Int32))] []) t → Steps p.tables e below s0 t := fun t kk_ => by rw [hs0]; exact castTop (ef_uCh2 m tb) kk_
  have P1 : ∀ t, GG p e below s₁ (mkF m 2 #[.val (.ref tb), .val (.int (2 : Int32))] [(.ref tb), (.int (2 : Int32))]) t → Steps p.tables e below s0 t := fun t kk_ => P0 t (by
    refine XS.iloadN X0.here hx rfl (hb hby d_charAt2_0) rfl ?_
    refine XS.aloadN X0.here hx rfl (hb hby d_charAt2_1) rfl rfl ?_
    exact kk_)
  obtain ⟨_, _, ⟨T2, L2, k2, n2⟩, -, X2, ⟨Lc2, hQ2, l2, y2, z2⟩, st2⟩ := Jvm.LawKit.callS X0 hx (y := mn_13) hown (mw hZ hw 81 rfl) (mw hZ hw 82 rfl) (mw hZ hw 22 rfl) (mw hZ hw 83 rfl) (by decide) (backOf (W := 0) (rm_uCk l Z a0 hw [] (2 : Int32) tb kb [v0, v1, v2, v3, (.int ga), (.int gb), v6, v7] G3 h0 n0 (Nat.le_trans Z0 (Nat.le_refl h0.size)) V_tb (by decide) (by decide) rG3 S_SIOOBE_FORMATTER OL) hZ (ww hw 83 rfl) (ww hw 22 rfl) (by decide) (by decide)) (g := (mkF m 2 #[.val (.ref tb), .val (.int (2 : Int32))] [(.ref tb), (.int (2 : Int32))])) rfl (by rw [hml]; rfl) (argsL := [(.int (2 : Int32)), (.ref tb)]) (rest := []) (lenOf pd_12 rfl) rfl (by show 2 * 0 + _ ≤ _; exact Nat.le_of_eq rfl) (hb hby d_charAt2_2) (fun _ _ => ⟨rfl, e0, (by decide : 0 + 0 ≤ _), (by decide : 0 + 0 ≤ _)⟩)
  dsimp only [Pt.U, Pt.locs, Pt.cells, Pt.slots] at X2 l2 y2 z2 st2 hQ2
  subst l2 y2 z2
  obtain ⟨rfl, N2q, e2⟩ := hQ2
  have N2 := Fr.app N0 N2q
  have P3 : ∀ t, GG p e below T2 (mkF m 5 #[.val (.ref tb), .val (.int (2 : Int32))] []) t → Steps p.tables e below s0 t := fun t kk_ => P1 t (st2 _ kk_)
  have P4 : ∀ t, GG p e below T2 (mkF m 7 #[.val (.ref tb), .val (.int (2 : Int32))] [(.int (2 : Int32)), (.ref tb)]) t → Steps p.tables e below s0 t := fun t kk_ => P3 t (by
    refine XS.aloadN X2.here hx rfl (hb hby d_charAt2_5) rfl rfl ?_
    refine XS.iloadN X2.here hx rfl (hb hby d_charAt2_6) rfl ?_
    exact kk_)
  obtain ⟨_, _, ⟨T5, L5, k5, n5⟩, -, X5, ⟨Lc5, hQ5, l5, y5, z5⟩, st5⟩ := Jvm.LawKit.callS X2 hx (y := mn_5) hown (mw hZ hw 44 rfl) (mw hZ hw 45 rfl) (mw hZ hw 22 rfl) (mw hZ hw 46 rfl) (by decide) (backOf (W := 0) (rm_get2 l Z a0 hw [] tb kb ga gb v0 v1 v2 v3 v6 v7 h0 n0 (Nat.le_trans Z0 (Nat.le_refl h0.size)) V_tb S__assertionsDisabled S_HI_BYTE_SHIFT S_LO_BYTE_SHIFT OL) hZ (ww hw 46 rfl) (ww hw 22 rfl) (by decide) (by decide)) (g := (mkF m 7 #[.val (.ref tb), .val (.int (2 : Int32))] [(.int (2 : Int32)), (.ref tb)])) rfl (by rw [hml]; rfl) (argsL := [(.ref tb), (.int (2 : Int32))]) (rest := []) (lenOf pd_5 rfl) rfl (by show 2 * 0 + _ ≤ _; exact Nat.le_of_eq rfl) (hb hby d_charAt2_7) (fun _ _ => ⟨rfl, e2, (by decide : 0 + 0 ≤ _), (by decide : 0 + 0 ≤ _)⟩)
  dsimp only [Pt.U, Pt.locs, Pt.cells, Pt.slots] at X5 l5 y5 z5 st5 hQ5
  subst l5 y5 z5
  obtain ⟨rfl, N5q, e5⟩ := hQ5
  have N5 := Fr.app N2 N5q
  have P6 : ∀ t, GG p e below T5 (mkF m 10 #[.val (.ref tb), .val (.int (2 : Int32))] [(.int (nar .char ((((ga &&& (255 : Int32)) <<< ((0 : Int32) &&& 31)) ||| ((gb &&& (255 : Int32)) <<< ((8 : Int32) &&& 31))).toUInt32.toUInt16.toUInt32.toInt32)))]) t → Steps p.tables e below s0 t := fun t kk_ => P4 t (st5 _ kk_)
  subst hs0
  obtain ⟨fs, hr, hrun, hended, hW, hsame⟩ := X5.leave (v := some (.int (nar .char (nar .char ((((ga &&& (255 : Int32)) <<< ((0 : Int32) &&& 31)) ||| ((gb &&& (255 : Int32)) <<< ((8 : Int32) &&& 31))).toUInt32.toUInt16.toUInt32.toInt32))))) (fun h => by rw [Bd.returns] at h; cases h)
  refine ⟨_, _, P6 _ ?_, hrun, hended, _, _, rfl, ?_, ⟨_, rfl⟩, hW, hsame.mono (by decide) (by decide)⟩
  · show GG p e below T5 (mkF m 10 #[.val (.ref tb), .val (.int (2 : Int32))] [(.int (nar .char ((((ga &&& (255 : Int32)) <<< ((0 : Int32) &&& 31)) ||| ((gb &&& (255 : Int32)) <<< ((8 : Int32) &&& 31))).toUInt32.toUInt16.toUInt32.toInt32)))]) _
    exact retN X5 hx (t := .char) Bd.returns (by simp) (hb hby d_charAt2_10) hr
  · show Q_uCh2 Z tb kb ga gb G3 v0 v1 v2 v3 v6 v7 h0 n0 _ T5.heap _
    rw [e5]
    exact ⟨rfl, N5, rfl⟩
theorem ef_sCh2 (m : MethodId) (x0 : Addr) : entryFrame m #[(.ref x0), (.int (2 : Int32))] 2 = mkF m 0 #[.val (.ref x0), .val (.int (2 : Int32))] [] := by first | (simp [entryFrame, mkF, argsToLocals, Value.category]; done) | rfl
def Q_sCh2 (Z : State) (xs : Addr) (tb : Addr) (kb : ClassId) (cd : Int32) (nB : Int32) (vs : List Value) (c0 : Int32) (c1 : Int32) (c2 : Int32) (c3 : Int32) (G1 : Int32) (G3 : Value) (h0 : Heap) (n0 : Nat) (v : Option Value) (h : Heap) (L : List Loc) : Prop := v = some (.int c2) ∧ Fr n0 L ∧ h = h0
set_option maxRecDepth 65536 in
set_option maxHeartbeats 40000000 in
theorem rm_sCh2 (l : Launch) (Z : State) (a0 : Array Value) (hw : ∀ d ∈ tables_1, d.before a0 Z = true) (ws : List Jvm.Cond) (xs : Addr) (tb : Addr) (kb : ClassId) (cd : Int32) (nB : Int32) (vs : List Value) (c0 : Int32) (c1 : Int32) (c2 : Int32) (c3 : Int32) (G1 : Int32) (G3 : Value) (h0 : Heap) (n0 : Nat) (Z0 : n0 ≤ h0.size) (E_xs : Exa Z h0 xs "java/lang/String") (F_value_xs : Fld Z h0 xs "java/lang/String" "value" "[B" (.ref tb)) (F_coder_xs : Fld Z h0 xs "java/lang/String" "coder" "B" (.int cd)) (V_tb : Arv Z h0 tb kb .byte nB vs (.int (0 : Int32))) (S_COMPACT_STRINGS : Sta Z Z.heap "java/lang/String" "COMPACT_STRINGS" "Z" (.int G1)) (S__assertionsDisabled : Sta Z Z.heap "java/lang/StringUTF16" "$assertionsDisabled" "Z" (.int (1 : Int32))) (S_HI_BYTE_SHIFT : Sta Z Z.heap "java/lang/StringUTF16" "HI_BYTE_SHIFT" "I" (.int (0 : Int32))) (S_LO_BYTE_SHIFT : Sta Z Z.heap "java/lang/StringUTF16" "LO_BYTE_SHIFT" "I" (.int (8 : Int32))) (S_SIOOBE_FORMATTER : Sta Z Z.heap "jdk/internal/util/Preconditions" "SIOOBE_FORMATTER" "Ljava/util/function/BiFunction;" G3) (OL : Old Z n0 h0) (hz : ¬ G1 = 0) (rG3 : G3.isRef = true) (s4 : Str4 c0 c1 c2 c3 cd nB vs) (ic0 : isC c0) (ic1 : isC c1) (ic2 : isC c2) (ic3 : isC c3) :
    MetFree l (⟨"java/lang/String", "charAt", "(I)C"⟩ : MethodName) (head1 (Jvm.Cond.code (⟨"java/lang/String", "charAt", "(I)C"⟩ : MethodName) jdk_42_method_56_code 2 (some .char) :: ws) ({ frames := 4, cells := 0, slots := 0, locals := 53 } : Room)) (fun a U => a = #[(.ref xs), (.int (2 : Int32))] ∧ Z.Warmed39 U.vm ∧ U.heap = h0) (fun _ _ _ _ _ => True) (fun _ U o U' => ∃ v L, o = .returned v ∧ Q_sCh2 Z xs tb kb cd nB vs c0 c1 c2 c3 G1 G3 h0 n0 v U'.heap L ∧ FrameEnd U o U' L ({ frames := 4, cells := 0, slots := 0, locals := 53 } : Room).cells ({ frames := 4, cells := 0, slots := 0, locals := 53 } : Room).slots) := by
  refine MetFree.of_bodySF (plainFor_of_name pn_2) hisR ?_
  intro p e s m args below meth c s₁ Bd hml0 hP hK
  obtain ⟨rfl, hZ, hh⟩ := hP
  have hx := Bd.exec
  have hby := Bd.bytes
  have hml : c.maxLocals = 2 := hml0
  have hown : s.vm.findClass "java/lang/String" = some m.cls := findClass_of_methodNamed Bd.named
  have hnm := (name_of_methodNamed Bd.named Bd.method).1
  have X0 : Stand p l e ({ frames := 4, cells := 0, slots := 0, locals := 53 } : Room) s m #[(.ref xs), (.int (2 : Int32))] below meth c s₁ [] 0 0 := Stand.of_body Bd
  have e0 : s₁.heap = h0 := by rw [← hh, Bd.state]; rfl
  have N0 := Fr.nil n0
  obtain ⟨s0, hs0⟩ : ∃ z, z = (s₁.setTop (entryFrame m #[(.ref xs), (.int (2 : Int32))] 2)) := ⟨_, rfl⟩
  have P0 : ∀ t, GG p e below s₁ (mkF m 0 #[.val (.ref xs), .val (.int (2 : Int32))] []) t → Steps p.tables e below s0 t := fun t kk_ => by rw [hs0]; exact castTop (ef_sCh2 m xs) kk_
  rcases s4 with hcase | hcase
  ·
    obtain ⟨rfl, rfl, rfl, hla⟩ := hcase
    have P1 : ∀ t, GG p e below s₁ (mkF m 1 #[.val (.ref xs), .val (.int (2 : Int32))] [(.ref xs)]) t → Steps p.tables e below s0 t := fun t kk_ => P0 t (by
      refine XS.aloadN X0.here hx rfl (hb hby d_charAt3_0) rfl rfl ?_
      exact kk_)
    obtain ⟨cq2, kq2, q2a, q2b, q2c⟩ := isOf hZ e0 E_xs
    obtain ⟨_, _, ⟨T2, L2, k2, n2⟩, -, X2, ⟨Lc2, hQ2, l2, y2, z2⟩, st2⟩ := X0.virtualBack hx (y := mn_14) (z := mn_14) hown (mw hZ hw 73 rfl) (mw hZ hw 74 rfl) (notFace_of_selects (args := #[]) (mw hZ hw 76 rfl)) (mw hZ hw 76 rfl) (mw hZ hw 75 rfl) (by decide) (backOf (W := 0) (rm_isLat0 l Z a0 hw [] xs G1 h0 n0 (Nat.le_trans Z0 (Nat.le_refl h0.size)) F_coder_xs S_COMPACT_STRINGS OL hz) hZ (ww hw 77 rfl) (ww hw 8 rfl) (by decide) (by decide)) q2a q2c (g := (mkF m 1 #[.val (.ref xs), .val (.int (2 : Int32))] [(.ref xs)])) rfl (by rw [hml]; rfl) (Steps.refl _) (argsL := []) (rest := []) (lenOf pd_13 rfl) rfl (by show 2 * 0 + _ ≤ _; exact Nat.le_of_eq rfl) (hb hby d_charAt3_1) (fun _ _ => ⟨rfl, e0, (by decide : 0 + 0 ≤ _), (by decide : 0 + 0 ≤ _)⟩)
    dsimp only [Pt.U, Pt.locs, Pt.cells, Pt.slots] at X2 l2 y2 z2 st2 hQ2
    subst l2 y2 z2
    obtain ⟨rfl, N2q, e2⟩ := hQ2
    have N2 := Fr.app N0 N2q
    have P3 : ∀ t, GG p e below T2 (mkF m 4 #[.val (.ref xs), .val (.int (2 : Int32))] [(.int (1 : Int32))]) t → Steps p.tables e below s0 t := fun t kk_ => P1 t (st2.trans kk_)
    have P4 : ∀ t, GG p e below T2 (mkF m 8 #[.val (.ref xs), .val (.int (2 : Int32))] [(.ref xs)]) t → Steps p.tables e below s0 t := fun t kk_ => P3 t (by
      refine XS.ifNo X2.here hx rfl (hb hby d_charAt3_4) rfl ((if0 _ _).trans (feq ((by decide) : ¬ ((1 : Int32) = (0 : Int32)))).1) ?_
      refine XS.aloadN X2.here hx rfl (hb hby d_charAt3_7) rfl rfl ?_
      exact kk_)
    obtain ⟨T5, X5, e5, st5⟩ := getF X2 hx hZ hown (host := "") (Or.inl (ww hw 52 rfl)) Via.refl e2 F_value_xs (g := (mkF m 8 #[.val (.ref xs), .val (.int (2 : Int32))] [(.ref xs)])) rfl rfl (hb hby d_charAt3_8)
    have P6 : ∀ t, GG p e below T5 (mkF m 11 #[.val (.ref xs), .val (.int (2 : Int32))] [(.ref tb)]) t → Steps p.tables e below s0 t := fun t kk_ => P4 t (st5 _ kk_)
    have P7 : ∀ t, GG p e below T5 (mkF m 12 #[.val (.ref xs), .val (.int (2 : Int32))] [(.int (2 : Int32)), (.ref tb)]) t → Steps p.tables e below s0 t := fun t kk_ => P6 t (by
      refine XS.iloadN X5.here hx rfl (hb hby d_charAt3_11) rfl ?_
      exact kk_)
    obtain ⟨_, _, ⟨T8, L8, k8, n8⟩, -, X8, ⟨Lc8, hQ8, l8, y8, z8⟩, st8⟩ := Jvm.LawKit.callS X5 hx (y := mn_15) hown (mw hZ hw 108 rfl) (mw hZ hw 109 rfl) (mw hZ hw 110 rfl) (mw hZ hw 111 rfl) (by decide) (backOf (W := 0) (rm_lCh2 l Z a0 hw [] tb kb (nar .byte (c2.toInt8.toInt32)) G3 (.int (nar .byte (c0.toInt8.toInt32))) (.int (nar .byte (c1.toInt8.toInt32))) (.int (nar .byte (c3.toInt8.toInt32))) h0 n0 (Nat.le_trans Z0 (Nat.le_refl h0.size)) V_tb rG3 S_SIOOBE_FORMATTER OL) hZ (ww hw 111 rfl) (ww hw 110 rfl) (by decide) (by decide)) (g := (mkF m 12 #[.val (.ref xs), .val (.int (2 : Int32))] [(.int (2 : Int32)), (.ref tb)])) rfl (by rw [hml]; rfl) (argsL := [(.ref tb), (.int (2 : Int32))]) (rest := []) (lenOf pd_5 rfl) rfl (by show 2 * 0 + _ ≤ _; exact Nat.le_of_eq rfl) (hb hby d_charAt3_12) (fun _ _ => ⟨rfl, e5, (by decide : 0 + 0 ≤ _), (by decide : 0 + 0 ≤ _)⟩)
    dsimp only [Pt.U, Pt.locs, Pt.cells, Pt.slots] at X8 l8 y8 z8 st8 hQ8
    subst l8 y8 z8
    obtain ⟨rfl, N8q, e8⟩ := hQ8
    have N8 := Fr.app N2 N8q
    have P9 : ∀ t, GG p e below T8 (mkF m 15 #[.val (.ref xs), .val (.int (2 : Int32))] [(.int (nar .char ((((nar .byte (c2.toInt8.toInt32)) &&& (255 : Int32))).toUInt32.toUInt16.toUInt32.toInt32)))]) t → Steps p.tables e below s0 t := fun t kk_ => P7 t (st8 _ kk_)
    subst hs0
    obtain ⟨fs, hr, hrun, hended, hW, hsame⟩ := X8.leave (v := some (.int (nar .char (nar .char ((((nar .byte (c2.toInt8.toInt32)) &&& (255 : Int32))).toUInt32.toUInt16.toUInt32.toInt32))))) (fun h => by rw [Bd.returns] at h; cases h)
    refine ⟨_, _, P9 _ ?_, hrun, hended, _, _, rfl, ?_, ⟨_, rfl⟩, hW, hsame.mono (by decide) (by decide)⟩
    · show GG p e below T8 (mkF m 15 #[.val (.ref xs), .val (.int (2 : Int32))] [(.int (nar .char ((((nar .byte (c2.toInt8.toInt32)) &&& (255 : Int32))).toUInt32.toUInt16.toUInt32.toInt32)))]) _
      exact retN X8 hx (t := .char) Bd.returns (by simp) (hb hby d_charAt3_15) hr
    · show Q_sCh2 Z xs tb kb (0 : Int32) (4 : Int32) [(.int (nar .byte (c0.toInt8.toInt32))), (.int (nar .byte (c1.toInt8.toInt32))), (.int (nar .byte (c2.toInt8.toInt32))), (.int (nar .byte (c3.toInt8.toInt32)))] c0 c1 c2 c3 G1 G3 h0 n0 _ T8.heap _
      rw [e8]
      exact ⟨congrArg (fun z => some (Value.int z)) (own_lat ic2 hla.2.2.1), N8, rfl⟩
  ·
    obtain ⟨rfl, rfl, rfl⟩ := hcase
    have P10 : ∀ t, GG p e below s₁ (mkF m 1 #[.val (.ref xs), .val (.int (2 : Int32))] [(.ref xs)]) t → Steps p.tables e below s0 t := fun t kk_ => P0 t (by
      refine XS.aloadN X0.here hx rfl (hb hby d_charAt3_0) rfl rfl ?_
      exact kk_)
    obtain ⟨cq11, kq11, q11a, q11b, q11c⟩ := isOf hZ e0 E_xs
    obtain ⟨_, _, ⟨T11, L11, k11, n11⟩, -, X11, ⟨Lc11, hQ11, l11, y11, z11⟩, st11⟩ := X0.virtualBack hx (y := mn_14) (z := mn_14) hown (mw hZ hw 73 rfl) (mw hZ hw 74 rfl) (notFace_of_selects (args := #[]) (mw hZ hw 76 rfl)) (mw hZ hw 76 rfl) (mw hZ hw 75 rfl) (by decide) (backOf (W := 0) (rm_isLat1 l Z a0 hw [] xs G1 h0 n0 (Nat.le_trans Z0 (Nat.le_refl h0.size)) F_coder_xs S_COMPACT_STRINGS OL hz) hZ (ww hw 77 rfl) (ww hw 8 rfl) (by decide) (by decide)) q11a q11c (g := (mkF m 1 #[.val (.ref xs), .val (.int (2 : Int32))] [(.ref xs)])) rfl (by rw [hml]; rfl) (Steps.refl _) (argsL := []) (rest := []) (lenOf pd_13 rfl) rfl (by show 2 * 0 + _ ≤ _; exact Nat.le_of_eq rfl) (hb hby d_charAt3_1) (fun _ _ => ⟨rfl, e0, (by decide : 0 + 0 ≤ _), (by decide : 0 + 0 ≤ _)⟩)
    dsimp only [Pt.U, Pt.locs, Pt.cells, Pt.slots] at X11 l11 y11 z11 st11 hQ11
    subst l11 y11 z11
    obtain ⟨rfl, N11q, e11⟩ := hQ11
    have N11 := Fr.app N0 N11q
    have P12 : ∀ t, GG p e below T11 (mkF m 4 #[.val (.ref xs), .val (.int (2 : Int32))] [(.int (0 : Int32))]) t → Steps p.tables e below s0 t := fun t kk_ => P10 t (st11.trans kk_)
    have P13 : ∀ t, GG p e below T11 (mkF m 17 #[.val (.ref xs), .val (.int (2 : Int32))] [(.ref xs)]) t → Steps p.tables e below s0 t := fun t kk_ => P12 t (by
      refine XS.ifYes X11.here hx rfl (pc0 := 4) (pc' := 16) rfl (hb hby d_charAt3_4) rfl ((if0 _ _).trans (teq ((by decide) : (0 : Int32) = (0 : Int32))).1) (by decide) (by decide) ?_
      refine XS.aloadN X11.here hx rfl (hb hby d_charAt3_16) rfl rfl ?_
      exact kk_)
    obtain ⟨T14, X14, e14, st14⟩ := getF X11 hx hZ hown (host := "") (Or.inl (ww hw 52 rfl)) Via.refl e11 F_value_xs (g := (mkF m 17 #[.val (.ref xs), .val (.int (2 : Int32))] [(.ref xs)])) rfl rfl (hb hby d_charAt3_17)
    have P15 : ∀ t, GG p e below T14 (mkF m 20 #[.val (.ref xs), .val (.int (2 : Int32))] [(.ref tb)]) t → Steps p.tables e below s0 t := fun t kk_ => P13 t (st14 _ kk_)
    have P16 : ∀ t, GG p e below T14 (mkF m 21 #[.val (.ref xs), .val (.int (2 : Int32))] [(.int (2 : Int32)), (.ref tb)]) t → Steps p.tables e below s0 t := fun t kk_ => P15 t (by
      refine XS.iloadN X14.here hx rfl (hb hby d_charAt3_20) rfl ?_
      exact kk_)
    obtain ⟨_, _, ⟨T17, L17, k17, n17⟩, -, X17, ⟨Lc17, hQ17, l17, y17, z17⟩, st17⟩ := Jvm.LawKit.callS X14 hx (y := mn_16) hown (mw hZ hw 78 rfl) (mw hZ hw 79 rfl) (mw hZ hw 22 rfl) (mw hZ hw 80 rfl) (by decide) (backOf (W := 0) (rm_uCh2 l Z a0 hw [] tb kb (nar .byte ((c2 >>> ((0 : Int32) &&& 31)).toInt8.toInt32)) (nar .byte ((c2 >>> ((8 : Int32) &&& 31)).toInt8.toInt32)) G3 (.int (nar .byte ((c0 >>> ((0 : Int32) &&& 31)).toInt8.toInt32))) (.int (nar .byte ((c0 >>> ((8 : Int32) &&& 31)).toInt8.toInt32))) (.int (nar .byte ((c1 >>> ((0 : Int32) &&& 31)).toInt8.toInt32))) (.int (nar .byte ((c1 >>> ((8 : Int32) &&& 31)).toInt8.toInt32))) (.int (nar .byte ((c3 >>> ((0 : Int32) &&& 31)).toInt8.toInt32))) (.int (nar .byte ((c3 >>> ((8 : Int32) &&& 31)).toInt8.toInt32))) h0 n0 (Nat.le_trans Z0 (Nat.le_refl h0.size)) V_tb rG3 S_SIOOBE_FORMATTER S__assertionsDisabled S_HI_BYTE_SHIFT S_LO_BYTE_SHIFT OL) hZ (ww hw 80 rfl) (ww hw 22 rfl) (by decide) (by decide)) (g := (mkF m 21 #[.val (.ref xs), .val (.int (2 : Int32))] [(.int (2 : Int32)), (.ref tb)])) rfl (by rw [hml]; rfl) (argsL := [(.ref tb), (.int (2 : Int32))]) (rest := []) (lenOf pd_5 rfl) rfl (by show 2 * 0 + _ ≤ _; exact Nat.le_of_eq rfl) (hb hby d_charAt3_21) (fun _ _ => ⟨rfl, e14, (by decide : 0 + 0 ≤ _), (by decide : 0 + 0 ≤ _)⟩)
    dsimp only [Pt.U, Pt.locs, Pt.cells, Pt.slots] at X17 l17 y17 z17 st17 hQ17
    subst l17 y17 z17
    obtain ⟨rfl, N17q, e17⟩ := hQ17
    have N17 := Fr.app N11 N17q
    have P18 : ∀ t, GG p e below T17 (mkF m 24 #[.val (.ref xs), .val (.int (2 : Int32))] [(.int (nar .char (nar .char (((((nar .byte ((c2 >>> ((0 : Int32) &&& 31)).toInt8.toInt32)) &&& (255 : Int32)) <<< ((0 : Int32) &&& 31)) ||| (((nar .byte ((c2 >>> ((8 : Int32) &&& 31)).toInt8.toInt32)) &&& (255 : Int32)) <<< ((8 : Int32) &&& 31))).toUInt32.toUInt16.toUInt32.toInt32))))]) t → Steps p.tables e below s0 t := fun t kk_ => P16 t (st17 _ kk_)
    subst hs0
    obtain ⟨fs, hr, hrun, hended, hW, hsame⟩ := X17.leave (v := some (.int (nar .char (nar .char (nar .char (((((nar .byte ((c2 >>> ((0 : Int32) &&& 31)).toInt8.toInt32)) &&& (255 : Int32)) <<< ((0 : Int32) &&& 31)) ||| (((nar .byte ((c2 >>> ((8 : Int32) &&& 31)).toInt8.toInt32)) &&& (255 : Int32)) <<< ((8 : Int32) &&& 31))).toUInt32.toUInt16.toUInt32.toInt32)))))) (fun h => by rw [Bd.returns] at h; cases h)
    refine ⟨_, _, P18 _ ?_, hrun, hended, _, _, rfl, ?_, ⟨_, rfl⟩, hW, hsame.mono (by decide) (by decide)⟩
    · show GG p e below T17 (mkF m 24 #[.val (.ref xs), .val (.int (2 : Int32))] [(.int (nar .char (nar .char (((((nar .byte ((c2 >>> ((0 : Int32) &&& 31)).toInt8.toInt32)) &&& (255 : Int32)) <<< ((0 : Int32) &&& 31)) ||| (((nar .byte ((c2 >>> ((8 : Int32) &&& 31)).toInt8.toInt32)) &&& (255 : Int32)) <<< ((8 : Int32) &&& 31))).toUInt32.toUInt16.toUInt32.toInt32))))]) _
      exact retN X17 hx (t := .char) Bd.returns (by simp) (hb hby d_charAt3_24) hr
    · show Q_sCh2 Z xs tb kb (1 : Int32) (8 : Int32) [(.int (nar .byte ((c0 >>> ((0 : Int32) &&& 31)).toInt8.toInt32))), (.int (nar .byte ((c0 >>> ((8 : Int32) &&& 31)).toInt8.toInt32))), (.int (nar .byte ((c1 >>> ((0 : Int32) &&& 31)).toInt8.toInt32))), (.int (nar .byte ((c1 >>> ((8 : Int32) &&& 31)).toInt8.toInt32))), (.int (nar .byte ((c2 >>> ((0 : Int32) &&& 31)).toInt8.toInt32))), (.int (nar .byte ((c2 >>> ((8 : Int32) &&& 31)).toInt8.toInt32))), (.int (nar .byte ((c3 >>> ((0 : Int32) &&& 31)).toInt8.toInt32))), (.int (nar .byte ((c3 >>> ((8 : Int32) &&& 31)).toInt8.toInt32)))] c0 c1 c2 c3 G1 G3 h0 n0 _ T17.heap _
      rw [e17]
      exact ⟨congrArg (fun z => some (Value.int z)) (own_wide ic2), N17, rfl⟩
theorem ef_lCh3 (m : MethodId) (x0 : Addr) : entryFrame m #[(.ref x0), (.int (3 : Int32))] 2 = mkF m 0 #[.val (.ref x0), .val (.int (3 : Int32))] [] := by first | (simp [entryFrame, mkF, argsToLocals, Value.category]; done) | rfl
def Q_lCh3 (Z : State) (tb : Addr) (kb : ClassId) (ga : Int32) (G3 : Value) (v0 : Value) (v1 : Value) (v2 : Value) (h0 : Heap) (n0 : Nat) (v : Option Value) (h : Heap) (L : List Loc) : Prop := v = some (.int (nar .char (((ga &&& (255 : Int32))).toUInt32.toUInt16.toUInt32.toInt32))) ∧ Fr n0 L ∧ h = h0
set_option maxRecDepth 65536 in
set_option maxHeartbeats 40000000 in
theorem rm_lCh3 (l : Launch) (Z : State) (a0 : Array Value) (hw : ∀ d ∈ tables_1, d.before a0 Z = true) (ws : List Jvm.Cond) (tb : Addr) (kb : ClassId) (ga : Int32) (G3 : Value) (v0 : Value) (v1 : Value) (v2 : Value) (h0 : Heap) (n0 : Nat) (Z0 : n0 ≤ h0.size) (V_tb : Arv Z h0 tb kb .byte (4 : Int32) [v0, v1, v2, (.int ga)] (.int (0 : Int32))) (rG3 : G3.isRef = true) (S_SIOOBE_FORMATTER : Sta Z Z.heap "jdk/internal/util/Preconditions" "SIOOBE_FORMATTER" "Ljava/util/function/BiFunction;" G3) (OL : Old Z n0 h0) :
    MetFree l (⟨"java/lang/StringLatin1", "charAt", "([BI)C"⟩ : MethodName) (head1 (Jvm.Cond.code (⟨"java/lang/StringLatin1", "charAt", "([BI)C"⟩ : MethodName) jdk_43_method_2_code 2 (some .char) :: ws) ({ frames := 2, cells := 0, slots := 0, locals := 27 } : Room)) (fun a U => a = #[(.ref tb), (.int (3 : Int32))] ∧ Z.Warmed39 U.vm ∧ U.heap = h0) (fun _ _ _ _ _ => True) (fun _ U o U' => ∃ v L, o = .returned v ∧ Q_lCh3 Z tb kb ga G3 v0 v1 v2 h0 n0 v U'.heap L ∧ FrameEnd U o U' L ({ frames := 2, cells := 0, slots := 0, locals := 27 } : Room).cells ({ frames := 2, cells := 0, slots := 0, locals := 27 } : Room).slots) := by
  refine MetFree.of_bodySF (plainFor_of_name pn_4) hisR ?_
  intro p e s m args below meth c s₁ Bd hml0 hP hK
  obtain ⟨rfl, hZ, hh⟩ := hP
  have hx := Bd.exec
  have hby := Bd.bytes
  have hml : c.maxLocals = 2 := hml0
  have hown : s.vm.findClass "java/lang/StringLatin1" = some m.cls := findClass_of_methodNamed Bd.named
  have hnm := (name_of_methodNamed Bd.named Bd.method).1
  have X0 : Stand p l e ({ frames := 2, cells := 0, slots := 0, locals := 27 } : Room) s m #[(.ref tb), (.int (3 : Int32))] below meth c s₁ [] 0 0 := Stand.of_body Bd
  have e0 : s₁.heap = h0 := by rw [← hh, Bd.state]; rfl
  have N0 := Fr.nil n0
  obtain ⟨s0, hs0⟩ : ∃ z, z = (s₁.setTop (entryFrame m #[(.ref tb), (.int (3 : Int32))] 2)) := ⟨_, rfl⟩
  have P0 : ∀ t, GG p e below s₁ (mkF m 0 #[.val (.ref tb), .val (.int (3 : Int32))] []) t → Steps p.tables e below s0 t := fun t kk_ => by rw [hs0]; exact castTop (ef_lCh3 m tb) kk_
  have P1 : ∀ t, GG p e below s₁ (mkF m 2 #[.val (.ref tb), .val (.int (3 : Int32))] [(.ref tb), (.int (3 : Int32))]) t → Steps p.tables e below s0 t := fun t kk_ => P0 t (by
    refine XS.iloadN X0.here hx rfl (hb hby d_charAt_0) rfl ?_
    refine XS.aloadN X0.here hx rfl (hb hby d_charAt_1) rfl rfl ?_
    exact kk_)
  obtain ⟨cl2, Ar2, -, S2, M2, -, -⟩ := id V_tb
  have P3 : ∀ t, GG p e below s₁ (mkF m 3 #[.val (.ref tb), .val (.int (3 : Int32))] [(.int (4 : Int32)), (.int (3 : Int32))]) t → Steps p.tables e below s0 t := fun t kk_ => P1 t (by
    refine X0.arraylength hx (by rw [e0]; exact Ar2.1) (State.isArrayOf_alike hZ.alike Ar2.2.1) (g := (mkF m 2 #[.val (.ref tb), .val (.int (3 : Int32))] [(.ref tb), (.int (3 : Int32))])) rfl rfl (hb hby d_charAt_2) _ ?_
    rw [len_of S2 M2]
    exact kk_)
  obtain ⟨_, _, ⟨T4, L4, k4, n4⟩, -, X4, ⟨Lc4, hQ4, l4, y4, z4⟩, st4⟩ := Jvm.LawKit.callS X0 hx (y := mn_12) hown (mw hZ hw 112 rfl) (mw hZ hw 88 rfl) (mw hZ hw 8 rfl) (mw hZ hw 89 rfl) (by decide) (backOf (W := 0) (rm_ckS l Z a0 hw [] (3 : Int32) (4 : Int32) G3 h0 n0 (Nat.le_trans Z0 (Nat.le_refl h0.size)) (by decide) (by decide) rG3 S_SIOOBE_FORMATTER OL) hZ (ww hw 89 rfl) (ww hw 8 rfl) (by decide) (by decide)) (g := (mkF m 3 #[.val (.ref tb), .val (.int (3 : Int32))] [(.int (4 : Int32)), (.int (3 : Int32))])) rfl (by rw [hml]; rfl) (argsL := [(.int (3 : Int32)), (.int (4 : Int32))]) (rest := []) (lenOf pd_11 rfl) rfl (by show 2 * 0 + _ ≤ _; exact Nat.le_of_eq rfl) (hb hby d_charAt_3) (fun _ _ => ⟨rfl, e0, (by decide : 0 + 0 ≤ _), (by decide : 0 + 0 ≤ _)⟩)
  dsimp only [Pt.U, Pt.locs, Pt.cells, Pt.slots] at X4 l4 y4 z4 st4 hQ4
  subst l4 y4 z4
  obtain ⟨rfl, N4q, e4⟩ := hQ4
  have N4 := Fr.app N0 N4q
  have P5 : ∀ t, GG p e below T4 (mkF m 6 #[.val (.ref tb), .val (.int (3 : Int32))] []) t → Steps p.tables e below s0 t := fun t kk_ => P3 t (st4 _ kk_)
  have P6 : ∀ t, GG p e below T4 (mkF m 8 #[.val (.ref tb), .val (.int (3 : Int32))] [(.int (3 : Int32)), (.ref tb)]) t → Steps p.tables e below s0 t := fun t kk_ => P5 t (by
    refine XS.aloadN X4.here hx rfl (hb hby d_charAt_6) rfl rfl ?_
    refine XS.iloadN X4.here hx rfl (hb hby d_charAt_7) rfl ?_
    exact kk_)
  obtain ⟨cl7, Ar7, q7, S7, M7, Hs7, G7⟩ := id V_tb
  have hin7 := inb_of (j := (3 : Int32)) S7 ⟨by decide, by decide⟩
  have hat7 : cl7.slots[((3 : Int32)).toNatClampNeg]? = some (.int ga) := Has.at Hs7 hin7 (rfl)
  have P8 : ∀ t, GG p e below T4 (mkF m 9 #[.val (.ref tb), .val (.int (3 : Int32))] [(.int ga)]) t → Steps p.tables e below s0 t := fun t kk_ => P6 t (by
    refine X4.baloadBytes hx (j := (3 : Int32)) (v := (.int ga)) (by rw [e4]; exact Ar7.1) (State.isArrayOf_alike hZ.alike Ar7.2.1) Ar7.2.2 hin7 hat7 (g := (mkF m 8 #[.val (.ref tb), .val (.int (3 : Int32))] [(.int (3 : Int32)), (.ref tb)])) rfl rfl (hb hby d_charAt_8) _ ?_
    exact kk_)
  have P9 : ∀ t, GG p e below T4 (mkF m 14 #[.val (.ref tb), .val (.int (3 : Int32))] [(.int ((ga &&& (255 : Int32)).toUInt32.toUInt16.toUInt32.toInt32))]) t → Steps p.tables e below s0 t := fun t kk_ => P8 t (by
    refine XS.sipush X4.here hx rfl (hb hby d_charAt_9) ?_
    refine XS.iand X4.here hx rfl (hb hby d_charAt_12) rfl ?_
    refine XS.i2c X4.here hx rfl (hb hby d_charAt_13) rfl ?_
    exact kk_)
  subst hs0
  obtain ⟨fs, hr, hrun, hended, hW, hsame⟩ := X4.leave (v := some (.int (nar .char ((ga &&& (255 : Int32)).toUInt32.toUInt16.toUInt32.toInt32)))) (fun h => by rw [Bd.returns] at h; cases h)
  refine ⟨_, _, P9 _ ?_, hrun, hended, _, _, rfl, ?_, ⟨_, rfl⟩, hW, hsame.mono (by decide) (by decide)⟩
  · show GG p e below T4 (mkF m 14 #[.val (.ref tb), .val (.int (3 : Int32))] [(.int ((ga &&& (255 : Int32)).toUInt32.toUInt16.toUInt32.toInt32))]) _
    exact retN X4 hx (t := .char) Bd.returns (by simp) (hb hby d_charAt_14) hr
  · show Q_lCh3 Z tb kb ga G3 v0 v1 v2 h0 n0 _ T4.heap _
    rw [e4]
    exact ⟨rfl, N4, rfl⟩
theorem ef_uCh3 (m : MethodId) (x0 : Addr) : entryFrame m #[(.ref x0), (.int (3 : Int32))] 2 = mkF m 0 #[.val (.ref x0), .val (.int (3 : Int32))] [] := by first | (simp [entryFrame, mkF, argsToLocals, Value.category]; done) | rfl
def Q_uCh3 (Z : State) (tb : Addr) (kb : ClassId) (ga : Int32) (gb : Int32) (G3 : Value) (v0 : Value) (v1 : Value) (v2 : Value) (v3 : Value) (v4 : Value) (v5 : Value) (h0 : Heap) (n0 : Nat) (v : Option Value) (h : Heap) (L : List Loc) : Prop := v = some (.int (nar .char (nar .char ((((ga &&& (255 : Int32)) <<< ((0 : Int32) &&& 31)) ||| ((gb &&& (255 : Int32)) <<< ((8 : Int32) &&& 31))).toUInt32.toUInt16.toUInt32.toInt32)))) ∧ Fr n0 L ∧ h = h0
set_option maxRecDepth 65536 in
set_option maxHeartbeats 40000000 in
theorem rm_uCh3 (l : Launch) (Z : State) (a0 : Array Value) (hw : ∀ d ∈ tables_1, d.before a0 Z = true) (ws : List Jvm.Cond) (tb : Addr) (kb : ClassId) (ga : Int32) (gb : Int32) (G3 : Value) (v0 : Value) (v1 : Value) (v2 : Value) (v3 : Value) (v4 : Value) (v5 : Value) (h0 : Heap) (n0 : Nat) (Z0 : n0 ≤ h0.size) (V_tb : Arv Z h0 tb kb .byte (8 : Int32) [v0, v1, v2, v3, v4, v5, (.int ga), (.int gb)] (.int (0 : Int32))) (rG3 : G3.isRef = true) (S_SIOOBE_FORMATTER : Sta Z Z.heap "jdk/internal/util/Preconditions" "SIOOBE_FORMATTER" "Ljava/util/function/BiFunction;" G3) (S__assertionsDisabled : Sta Z Z.heap "java/lang/StringUTF16" "$assertionsDisabled" "Z" (.int (1 : Int32))) (S_HI_BYTE_SHIFT : Sta Z Z.heap "java/lang/StringUTF16" "HI_BYTE_SHIFT" "I" (.int (0 : Int32))) (S_LO_BYTE_SHIFT : Sta Z Z.heap "java/lang/StringUTF16" "LO_BYTE_SHIFT" "I" (.int (8 : Int32))) (OL : Old Z n0 h0) :
    MetFree l (⟨"java/lang/StringUTF16", "charAt", "([BI)C"⟩ : MethodName) (head1 (Jvm.Cond.code (⟨"java/lang/StringUTF16", "charAt", "([BI)C"⟩ : MethodName) jdk_52_method_83_code 2 (some .char) :: ws) ({ frames := 3, cells := 0, slots := 0, locals := 40 } : Room)) (fun a U => a = #[(.ref tb), (.int (3 : Int32))] ∧ Z.Warmed39 U.vm ∧ U.heap = h0) (fun _ _ _ _ _ => True) (fun _ U o U' => ∃ v L, o = .returned v ∧ Q_uCh3 Z tb kb ga gb G3 v0 v1 v2 v3 v4 v5 h0 n0 v U'.heap L ∧ FrameEnd U o U' L ({ frames := 3, cells := 0, slots := 0, locals := 40 } : Room).cells ({ frames := 3, cells := 0, slots := 0, locals := 40 } : Room).slots) := by
  refine MetFree.of_bodySF (plainFor_of_name pn_1) hisR ?_
  intro p e s m args below meth c s₁ Bd hml0 hP hK
  obtain ⟨rfl, hZ, hh⟩ := hP
  have hx := Bd.exec
  have hby := Bd.bytes
  have hml : c.maxLocals = 2 := hml0
  have hown : s.vm.findClass "java/lang/StringUTF16" = some m.cls := findClass_of_methodNamed Bd.named
  have hnm := (name_of_methodNamed Bd.named Bd.method).1
  have X0 : Stand p l e ({ frames := 3, cells := 0, slots := 0, locals := 40 } : Room) s m #[(.ref tb), (.int (3 : Int32))] below meth c s₁ [] 0 0 := Stand.of_body Bd
  have e0 : s₁.heap = h0 := by rw [← hh, Bd.state]; rfl
  have N0 := Fr.nil n0
  obtain ⟨s0, hs0⟩ : ∃ z, z = (s₁.setTop (entryFrame m #[(.ref tb), (.int (3 : Int32))] 2)) := ⟨_, rfl⟩
  have P0 : ∀ t, GG p e below s₁ (mkF m 0 #[.val (.ref tb), .val (.int (3 : Int32))] []) t → Steps p.tables e below s0 t := fun t kk_ => by rw [hs0]; exact castTop (ef_uCh3 m tb) kk_
  have P1 : ∀ t, GG p e below s₁ (mkF m 2 #[.val (.ref tb), .val (.int (3 : Int32))] [(.ref tb), (.int (3 : Int32))]) t → Steps p.tables e below s0 t := fun t kk_ => P0 t (by
    refine XS.iloadN X0.here hx rfl (hb hby d_charAt2_0) rfl ?_
    refine XS.aloadN X0.here hx rfl (hb hby d_charAt2_1) rfl rfl ?_
    exact kk_)
  obtain ⟨_, _, ⟨T2, L2, k2, n2⟩, -, X2, ⟨Lc2, hQ2, l2, y2, z2⟩, st2⟩ := Jvm.LawKit.callS X0 hx (y := mn_13) hown (mw hZ hw 81 rfl) (mw hZ hw 82 rfl) (mw hZ hw 22 rfl) (mw hZ hw 83 rfl) (by decide) (backOf (W := 0) (rm_uCk l Z a0 hw [] (3 : Int32) tb kb [v0, v1, v2, v3, v4, v5, (.int ga), (.int gb)] G3 h0 n0 (Nat.le_trans Z0 (Nat.le_refl h0.size)) V_tb (by decide) (by decide) rG3 S_SIOOBE_FORMATTER OL) hZ (ww hw 83 rfl) (ww hw 22 rfl) (by decide) (by decide)) (g := (mkF m 2 #[.val (.ref tb), .val (.int (3 : Int32))] [(.ref tb), (.int (3 : Int32))])) rfl (by rw [hml]; rfl) (argsL := [(.int (3 : Int32)), (.ref tb)]) (rest := []) (lenOf pd_12 rfl) rfl (by show 2 * 0 + _ ≤ _; exact Nat.le_of_eq rfl) (hb hby d_charAt2_2) (fun _ _ => ⟨rfl, e0, (by decide : 0 + 0 ≤ _), (by decide : 0 + 0 ≤ _)⟩)
  dsimp only [Pt.U, Pt.locs, Pt.cells, Pt.slots] at X2 l2 y2 z2 st2 hQ2
  subst l2 y2 z2
  obtain ⟨rfl, N2q, e2⟩ := hQ2
  have N2 := Fr.app N0 N2q
  have P3 : ∀ t, GG p e below T2 (mkF m 5 #[.val (.ref tb), .val (.int (3 : Int32))] []) t → Steps p.tables e below s0 t := fun t kk_ => P1 t (st2 _ kk_)
  have P4 : ∀ t, GG p e below T2 (mkF m 7 #[.val (.ref tb), .val (.int (3 : Int32))] [(.int (3 : Int32)), (.ref tb)]) t → Steps p.tables e below s0 t := fun t kk_ => P3 t (by
    refine XS.aloadN X2.here hx rfl (hb hby d_charAt2_5) rfl rfl ?_
    refine XS.iloadN X2.here hx rfl (hb hby d_charAt2_6) rfl ?_
    exact kk_)
  obtain ⟨_, _, ⟨T5, L5, k5, n5⟩, -, X5, ⟨Lc5, hQ5, l5, y5, z5⟩, st5⟩ := Jvm.LawKit.callS X2 hx (y := mn_5) hown (mw hZ hw 44 rfl) (mw hZ hw 45 rfl) (mw hZ hw 22 rfl) (mw hZ hw 46 rfl) (by decide) (backOf (W := 0) (rm_get3 l Z a0 hw [] tb kb ga gb v0 v1 v2 v3 v4 v5 h0 n0 (Nat.le_trans Z0 (Nat.le_refl h0.size)) V_tb S__assertionsDisabled S_HI_BYTE_SHIFT S_LO_BYTE_SHIFT OL) hZ (ww hw 46 rfl) (ww hw 22 rfl) (by decide) (by decide)) (g := (mkF m 7 #[.val (.ref tb), .val (.int (3 : Int32))] [(.int (3 : Int32)), (.ref tb)])) rfl (by rw [hml]; rfl) (argsL := [(.ref tb), (.int (3 : Int32))]) (rest := []) (lenOf pd_5 rfl) rfl (by show 2 * 0 + _ ≤ _; exact Nat.le_of_eq rfl) (hb hby d_charAt2_7) (fun _ _ => ⟨rfl, e2, (by decide : 0 + 0 ≤ _), (by decide : 0 + 0 ≤ _)⟩)
  dsimp only [Pt.U, Pt.locs, Pt.cells, Pt.slots] at X5 l5 y5 z5 st5 hQ5
  subst l5 y5 z5
  obtain ⟨rfl, N5q, e5⟩ := hQ5
  have N5 := Fr.app N2 N5q
  have P6 : ∀ t, GG p e below T5 (mkF m 10 #[.val (.ref tb), .val (.int (3 : Int32))] [(.int (nar .char ((((ga &&& (255 : Int32)) <<< ((0 : Int32) &&& 31)) ||| ((gb &&& (255 : Int32)) <<< ((8 : Int32) &&& 31))).toUInt32.toUInt16.toUInt32.toInt32)))]) t → Steps p.tables e below s0 t := fun t kk_ => P4 t (st5 _ kk_)
  subst hs0
  obtain ⟨fs, hr, hrun, hended, hW, hsame⟩ := X5.leave (v := some (.int (nar .char (nar .char ((((ga &&& (255 : Int32)) <<< ((0 : Int32) &&& 31)) ||| ((gb &&& (255 : Int32)) <<< ((8 : Int32) &&& 31))).toUInt32.toUInt16.toUInt32.toInt32))))) (fun h => by rw [Bd.returns] at h; cases h)
  refine ⟨_, _, P6 _ ?_, hrun, hended, _, _, rfl, ?_, ⟨_, rfl⟩, hW, hsame.mono (by decide) (by decide)⟩
  · show GG p e below T5 (mkF m 10 #[.val (.ref tb), .val (.int (3 : Int32))] [(.int (nar .char ((((ga &&& (255 : Int32)) <<< ((0 : Int32) &&& 31)) ||| ((gb &&& (255 : Int32)) <<< ((8 : Int32) &&& 31))).toUInt32.toUInt16.toUInt32.toInt32)))]) _
    exact retN X5 hx (t := .char) Bd.returns (by simp) (hb hby d_charAt2_10) hr
  · show Q_uCh3 Z tb kb ga gb G3 v0 v1 v2 v3 v4 v5 h0 n0 _ T5.heap _
    rw [e5]
    exact ⟨rfl, N5, rfl⟩
theorem ef_sCh3 (m : MethodId) (x0 : Addr) : entryFrame m #[(.ref x0), (.int (3 : Int32))] 2 = mkF m 0 #[.val (.ref x0), .val (.int (3 : Int32))] [] := by first | (simp [entryFrame, mkF, argsToLocals, Value.category]; done) | rfl
def Q_sCh3 (Z : State) (xs : Addr) (tb : Addr) (kb : ClassId) (cd : Int32) (nB : Int32) (vs : List Value) (c0 : Int32) (c1 : Int32) (c2 : Int32) (c3 : Int32) (G1 : Int32) (G3 : Value) (h0 : Heap) (n0 : Nat) (v : Option Value) (h : Heap) (L : List Loc) : Prop := v = some (.int c3) ∧ Fr n0 L ∧ h = h0
set_option maxRecDepth 65536 in
set_option maxHeartbeats 40000000 in
theorem rm_sCh3 (l : Launch) (Z : State) (a0 : Array Value) (hw : ∀ d ∈ tables_1, d.before a0 Z = true) (ws : List Jvm.Cond) (xs : Addr) (tb : Addr) (kb : ClassId) (cd : Int32) (nB : Int32) (vs : List Value) (c0 : Int32) (c1 : Int32) (c2 : Int32) (c3 : Int32) (G1 : Int32) (G3 : Value) (h0 : Heap) (n0 : Nat) (Z0 : n0 ≤ h0.size) (E_xs : Exa Z h0 xs "java/lang/String") (F_value_xs : Fld Z h0 xs "java/lang/String" "value" "[B" (.ref tb)) (F_coder_xs : Fld Z h0 xs "java/lang/String" "coder" "B" (.int cd)) (V_tb : Arv Z h0 tb kb .byte nB vs (.int (0 : Int32))) (S_COMPACT_STRINGS : Sta Z Z.heap "java/lang/String" "COMPACT_STRINGS" "Z" (.int G1)) (S__assertionsDisabled : Sta Z Z.heap "java/lang/StringUTF16" "$assertionsDisabled" "Z" (.int (1 : Int32))) (S_HI_BYTE_SHIFT : Sta Z Z.heap "java/lang/StringUTF16" "HI_BYTE_SHIFT" "I" (.int (0 : Int32))) (S_LO_BYTE_SHIFT : Sta Z Z.heap "java/lang/StringUTF16" "LO_BYTE_SHIFT" "I" (.int (8 : Int32))) (S_SIOOBE_FORMATTER : Sta Z Z.heap "jdk/internal/util/Preconditions" "SIOOBE_FORMATTER" "Ljava/util/function/BiFunction;" G3) (OL : Old Z n0 h0) (hz : ¬ G1 = 0) (rG3 : G3.isRef = true) (s4 : Str4 c0 c1 c2 c3 cd nB vs) (ic0 : isC c0) (ic1 : isC c1) (ic2 : isC c2) (ic3 : isC c3) :
    MetFree l (⟨"java/lang/String", "charAt", "(I)C"⟩ : MethodName) (head1 (Jvm.Cond.code (⟨"java/lang/String", "charAt", "(I)C"⟩ : MethodName) jdk_42_method_56_code 2 (some .char) :: ws) ({ frames := 4, cells := 0, slots := 0, locals := 53 } : Room)) (fun a U => a = #[(.ref xs), (.int (3 : Int32))] ∧ Z.Warmed39 U.vm ∧ U.heap = h0) (fun _ _ _ _ _ => True) (fun _ U o U' => ∃ v L, o = .returned v ∧ Q_sCh3 Z xs tb kb cd nB vs c0 c1 c2 c3 G1 G3 h0 n0 v U'.heap L ∧ FrameEnd U o U' L ({ frames := 4, cells := 0, slots := 0, locals := 53 } : Room).cells ({ frames := 4, cells := 0, slots := 0, locals := 53 } : Room).slots) := by
  refine MetFree.of_bodySF (plainFor_of_name pn_2) hisR ?_
  intro p e s m args below meth c s₁ Bd hml0 hP hK
  obtain ⟨rfl, hZ, hh⟩ := hP
  have hx := Bd.exec
  have hby := Bd.bytes
  have hml : c.maxLocals = 2 := hml0
  have hown : s.vm.findClass "java/lang/String" = some m.cls := findClass_of_methodNamed Bd.named
  have hnm := (name_of_methodNamed Bd.named Bd.method).1
  have X0 : Stand p l e ({ frames := 4, cells := 0, slots := 0, locals := 53 } : Room) s m #[(.ref xs), (.int (3 : Int32))] below meth c s₁ [] 0 0 := Stand.of_body Bd
  have e0 : s₁.heap = h0 := by rw [← hh, Bd.state]; rfl
  have N0 := Fr.nil n0
  obtain ⟨s0, hs0⟩ : ∃ z, z = (s₁.setTop (entryFrame m #[(.ref xs), (.int (3 : Int32))] 2)) := ⟨_, rfl⟩
  have P0 : ∀ t, GG p e below s₁ (mkF m 0 #[.val (.ref xs), .val (.int (3 : Int32))] []) t → Steps p.tables e below s0 t := fun t kk_ => by rw [hs0]; exact castTop (ef_sCh3 m xs) kk_
  rcases s4 with hcase | hcase
  ·
    obtain ⟨rfl, rfl, rfl, hla⟩ := hcase
    have P1 : ∀ t, GG p e below s₁ (mkF m 1 #[.val (.ref xs), .val (.int (3 : Int32))] [(.ref xs)]) t → Steps p.tables e below s0 t := fun t kk_ => P0 t (by
      refine XS.aloadN X0.here hx rfl (hb hby d_charAt3_0) rfl rfl ?_
      exact kk_)
    obtain ⟨cq2, kq2, q2a, q2b, q2c⟩ := isOf hZ e0 E_xs
    obtain ⟨_, _, ⟨T2, L2, k2, n2⟩, -, X2, ⟨Lc2, hQ2, l2, y2, z2⟩, st2⟩ := X0.virtualBack hx (y := mn_14) (z := mn_14) hown (mw hZ hw 73 rfl) (mw hZ hw 74 rfl) (notFace_of_selects (args := #[]) (mw hZ hw 76 rfl)) (mw hZ hw 76 rfl) (mw hZ hw 75 rfl) (by decide) (backOf (W := 0) (rm_isLat0 l Z a0 hw [] xs G1 h0 n0 (Nat.le_trans Z0 (Nat.le_refl h0.size)) F_coder_xs S_COMPACT_STRINGS OL hz) hZ (ww hw 77 rfl) (ww hw 8 rfl) (by decide) (by decide)) q2a q2c (g := (mkF m 1 #[.val (.ref xs), .val (.int (3 : Int32))] [(.ref xs)])) rfl (by rw [hml]; rfl) (Steps.refl _) (argsL := []) (rest := []) (lenOf pd_13 rfl) rfl (by show 2 * 0 + _ ≤ _; exact Nat.le_of_eq rfl) (hb hby d_charAt3_1) (fun _ _ => ⟨rfl, e0, (by decide : 0 + 0 ≤ _), (by decide : 0 + 0 ≤ _)⟩)
    dsimp only [Pt.U, Pt.locs, Pt.cells, Pt.slots] at X2 l2 y2 z2 st2 hQ2
    subst l2 y2 z2
    obtain ⟨rfl, N2q, e2⟩ := hQ2
    have N2 := Fr.app N0 N2q
    have P3 : ∀ t, GG p e below T2 (mkF m 4 #[.val (.ref xs), .val (.int (3 : Int32))] [(.int (1 : Int32))]) t → Steps p.tables e below s0 t := fun t kk_ => P1 t (st2.trans kk_)
    have P4 : ∀ t, GG p e below T2 (mkF m 8 #[.val (.ref xs), .val (.int (3 : Int32))] [(.ref xs)]) t → Steps p.tables e below s0 t := fun t kk_ => P3 t (by
      refine XS.ifNo X2.here hx rfl (hb hby d_charAt3_4) rfl ((if0 _ _).trans (feq ((by decide) : ¬ ((1 : Int32) = (0 : Int32)))).1) ?_
      refine XS.aloadN X2.here hx rfl (hb hby d_charAt3_7) rfl rfl ?_
      exact kk_)
    obtain ⟨T5, X5, e5, st5⟩ := getF X2 hx hZ hown (host := "") (Or.inl (ww hw 52 rfl)) Via.refl e2 F_value_xs (g := (mkF m 8 #[.val (.ref xs), .val (.int (3 : Int32))] [(.ref xs)])) rfl rfl (hb hby d_charAt3_8)
    have P6 : ∀ t, GG p e below T5 (mkF m 11 #[.val (.ref xs), .val (.int (3 : Int32))] [(.ref tb)]) t → Steps p.tables e below s0 t := fun t kk_ => P4 t (st5 _ kk_)
    have P7 : ∀ t, GG p e below T5 (mkF m 12 #[.val (.ref xs), .val (.int (3 : Int32))] [(.int (3 : Int32)), (.ref tb)]) t → Steps p.tables e below s0 t := fun t kk_ => P6 t (by
      refine XS.iloadN X5.here hx rfl (hb hby d_charAt3_11) rfl ?_
      exact kk_)
    obtain ⟨_, _, ⟨T8, L8, k8, n8⟩, -, X8, ⟨Lc8, hQ8, l8, y8, z8⟩, st8⟩ := Jvm.LawKit.callS X5 hx (y := mn_15) hown (mw hZ hw 108 rfl) (mw hZ hw 109 rfl) (mw hZ hw 110 rfl) (mw hZ hw 111 rfl) (by decide) (backOf (W := 0) (rm_lCh3 l Z a0 hw [] tb kb (nar .byte (c3.toInt8.toInt32)) G3 (.int (nar .byte (c0.toInt8.toInt32))) (.int (nar .byte (c1.toInt8.toInt32))) (.int (nar .byte (c2.toInt8.toInt32))) h0 n0 (Nat.le_trans Z0 (Nat.le_refl h0.size)) V_tb rG3 S_SIOOBE_FORMATTER OL) hZ (ww hw 111 rfl) (ww hw 110 rfl) (by decide) (by decide)) (g := (mkF m 12 #[.val (.ref xs), .val (.int (3 : Int32))] [(.int (3 : Int32)), (.ref tb)])) rfl (by rw [hml]; rfl) (argsL := [(.ref tb), (.int (3 : Int32))]) (rest := []) (lenOf pd_5 rfl) rfl (by show 2 * 0 + _ ≤ _; exact Nat.le_of_eq rfl) (hb hby d_charAt3_12) (fun _ _ => ⟨rfl, e5, (by decide : 0 + 0 ≤ _), (by decide : 0 + 0 ≤ _)⟩)
    dsimp only [Pt.U, Pt.locs, Pt.cells, Pt.slots] at X8 l8 y8 z8 st8 hQ8
    subst l8 y8 z8
    obtain ⟨rfl, N8q, e8⟩ := hQ8
    have N8 := Fr.app N2 N8q
    have P9 : ∀ t, GG p e below T8 (mkF m 15 #[.val (.ref xs), .val (.int (3 : Int32))] [(.int (nar .char ((((nar .byte (c3.toInt8.toInt32)) &&& (255 : Int32))).toUInt32.toUInt16.toUInt32.toInt32)))]) t → Steps p.tables e below s0 t := fun t kk_ => P7 t (st8 _ kk_)
    subst hs0
    obtain ⟨fs, hr, hrun, hended, hW, hsame⟩ := X8.leave (v := some (.int (nar .char (nar .char ((((nar .byte (c3.toInt8.toInt32)) &&& (255 : Int32))).toUInt32.toUInt16.toUInt32.toInt32))))) (fun h => by rw [Bd.returns] at h; cases h)
    refine ⟨_, _, P9 _ ?_, hrun, hended, _, _, rfl, ?_, ⟨_, rfl⟩, hW, hsame.mono (by decide) (by decide)⟩
    · show GG p e below T8 (mkF m 15 #[.val (.ref xs), .val (.int (3 : Int32))] [(.int (nar .char ((((nar .byte (c3.toInt8.toInt32)) &&& (255 : Int32))).toUInt32.toUInt16.toUInt32.toInt32)))]) _
      exact retN X8 hx (t := .char) Bd.returns (by simp) (hb hby d_charAt3_15) hr
    · show Q_sCh3 Z xs tb kb (0 : Int32) (4 : Int32) [(.int (nar .byte (c0.toInt8.toInt32))), (.int (nar .byte (c1.toInt8.toInt32))), (.int (nar .byte (c2.toInt8.toInt32))), (.int (nar .byte (c3.toInt8.toInt32)))] c0 c1 c2 c3 G1 G3 h0 n0 _ T8.heap _
      rw [e8]
      exact ⟨congrArg (fun z => some (Value.int z)) (own_lat ic3 hla.2.2.2), N8, rfl⟩
  ·
    obtain ⟨rfl, rfl, rfl⟩ := hcase
    have P10 : ∀ t, GG p e below s₁ (mkF m 1 #[.val (.ref xs), .val (.int (3 : Int32))] [(.ref xs)]) t → Steps p.tables e below s0 t := fun t kk_ => P0 t (by
      refine XS.aloadN X0.here hx rfl (hb hby d_charAt3_0) rfl rfl ?_
      exact kk_)
    obtain ⟨cq11, kq11, q11a, q11b, q11c⟩ := isOf hZ e0 E_xs
    obtain ⟨_, _, ⟨T11, L11, k11, n11⟩, -, X11, ⟨Lc11, hQ11, l11, y11, z11⟩, st11⟩ := X0.virtualBack hx (y := mn_14) (z := mn_14) hown (mw hZ hw 73 rfl) (mw hZ hw 74 rfl) (notFace_of_selects (args := #[]) (mw hZ hw 76 rfl)) (mw hZ hw 76 rfl) (mw hZ hw 75 rfl) (by decide) (backOf (W := 0) (rm_isLat1 l Z a0 hw [] xs G1 h0 n0 (Nat.le_trans Z0 (Nat.le_refl h0.size)) F_coder_xs S_COMPACT_STRINGS OL hz) hZ (ww hw 77 rfl) (ww hw 8 rfl) (by decide) (by decide)) q11a q11c (g := (mkF m 1 #[.val (.ref xs), .val (.int (3 : Int32))] [(.ref xs)])) rfl (by rw [hml]; rfl) (Steps.refl _) (argsL := []) (rest := []) (lenOf pd_13 rfl) rfl (by show 2 * 0 + _ ≤ _; exact Nat.le_of_eq rfl) (hb hby d_charAt3_1) (fun _ _ => ⟨rfl, e0, (by decide : 0 + 0 ≤ _), (by decide : 0 + 0 ≤ _)⟩)
    dsimp only [Pt.U, Pt.locs, Pt.cells, Pt.slots] at X11 l11 y11 z11 st11 hQ11
    subst l11 y11 z11
    obtain ⟨rfl, N11q, e11⟩ := hQ11
    have N11 := Fr.app N0 N11q
    have P12 : ∀ t, GG p e below T11 (mkF m 4 #[.val (.ref xs), .val (.int (3 : Int32))] [(.int (0 : Int32))]) t → Steps p.tables e below s0 t := fun t kk_ => P10 t (st11.trans kk_)
    have P13 : ∀ t, GG p e below T11 (mkF m 17 #[.val (.ref xs), .val (.int (3 : Int32))] [(.ref xs)]) t → Steps p.tables e below s0 t := fun t kk_ => P12 t (by
      refine XS.ifYes X11.here hx rfl (pc0 := 4) (pc' := 16) rfl (hb hby d_charAt3_4) rfl ((if0 _ _).trans (teq ((by decide) : (0 : Int32) = (0 : Int32))).1) (by decide) (by decide) ?_
      refine XS.aloadN X11.here hx rfl (hb hby d_charAt3_16) rfl rfl ?_
      exact kk_)
    obtain ⟨T14, X14, e14, st14⟩ := getF X11 hx hZ hown (host := "") (Or.inl (ww hw 52 rfl)) Via.refl e11 F_value_xs (g := (mkF m 17 #[.val (.ref xs), .val (.int (3 : Int32))] [(.ref xs)])) rfl rfl (hb hby d_charAt3_17)
    have P15 : ∀ t, GG p e below T14 (mkF m 20 #[.val (.ref xs), .val (.int (3 : Int32))] [(.ref tb)]) t → Steps p.tables e below s0 t := fun t kk_ => P13 t (st14 _ kk_)
    have P16 : ∀ t, GG p e below T14 (mkF m 21 #[.val (.ref xs), .val (.int (3 : Int32))] [(.int (3 : Int32)), (.ref tb)]) t → Steps p.tables e below s0 t := fun t kk_ => P15 t (by
      refine XS.iloadN X14.here hx rfl (hb hby d_charAt3_20) rfl ?_
      exact kk_)
    obtain ⟨_, _, ⟨T17, L17, k17, n17⟩, -, X17, ⟨Lc17, hQ17, l17, y17, z17⟩, st17⟩ := Jvm.LawKit.callS X14 hx (y := mn_16) hown (mw hZ hw 78 rfl) (mw hZ hw 79 rfl) (mw hZ hw 22 rfl) (mw hZ hw 80 rfl) (by decide) (backOf (W := 0) (rm_uCh3 l Z a0 hw [] tb kb (nar .byte ((c3 >>> ((0 : Int32) &&& 31)).toInt8.toInt32)) (nar .byte ((c3 >>> ((8 : Int32) &&& 31)).toInt8.toInt32)) G3 (.int (nar .byte ((c0 >>> ((0 : Int32) &&& 31)).toInt8.toInt32))) (.int (nar .byte ((c0 >>> ((8 : Int32) &&& 31)).toInt8.toInt32))) (.int (nar .byte ((c1 >>> ((0 : Int32) &&& 31)).toInt8.toInt32))) (.int (nar .byte ((c1 >>> ((8 : Int32) &&& 31)).toInt8.toInt32))) (.int (nar .byte ((c2 >>> ((0 : Int32) &&& 31)).toInt8.toInt32))) (.int (nar .byte ((c2 >>> ((8 : Int32) &&& 31)).toInt8.toInt32))) h0 n0 (Nat.le_trans Z0 (Nat.le_refl h0.size)) V_tb rG3 S_SIOOBE_FORMATTER S__assertionsDisabled S_HI_BYTE_SHIFT S_LO_BYTE_SHIFT OL) hZ (ww hw 80 rfl) (ww hw 22 rfl) (by decide) (by decide)) (g := (mkF m 21 #[.val (.ref xs), .val (.int (3 : Int32))] [(.int (3 : Int32)), (.ref tb)])) rfl (by rw [hml]; rfl) (argsL := [(.ref tb), (.int (3 : Int32))]) (rest := []) (lenOf pd_5 rfl) rfl (by show 2 * 0 + _ ≤ _; exact Nat.le_of_eq rfl) (hb hby d_charAt3_21) (fun _ _ => ⟨rfl, e14, (by decide : 0 + 0 ≤ _), (by decide : 0 + 0 ≤ _)⟩)
    dsimp only [Pt.U, Pt.locs, Pt.cells, Pt.slots] at X17 l17 y17 z17 st17 hQ17
    subst l17 y17 z17
    obtain ⟨rfl, N17q, e17⟩ := hQ17
    have N17 := Fr.app N11 N17q
    have P18 : ∀ t, GG p e below T17 (mkF m 24 #[.val (.ref xs), .val (.int (3 : Int32))] [(.int (nar .char (nar .char (((((nar .byte ((c3 >>> ((0 : Int32) &&& 31)).toInt8.toInt32)) &&& (255 : Int32)) <<< ((0 : Int32) &&& 31)) ||| (((nar .byte ((c3 >>> ((8 : Int32) &&& 31)).toInt8.toInt32)) &&& (255 : Int32)) <<< ((8 : Int32) &&& 31))).toUInt32.toUInt16.toUInt32.toInt32))))]) t → Steps p.tables e below s0 t := fun t kk_ => P16 t (st17 _ kk_)
    subst hs0
    obtain ⟨fs, hr, hrun, hended, hW, hsame⟩ := X17.leave (v := some (.int (nar .char (nar .char (nar .char (((((nar .byte ((c3 >>> ((0 : Int32) &&& 31)).toInt8.toInt32)) &&& (255 : Int32)) <<< ((0 : Int32) &&& 31)) ||| (((nar .byte ((c3 >>> ((8 : Int32) &&& 31)).toInt8.toInt32)) &&& (255 : Int32)) <<< ((8 : Int32) &&& 31))).toUInt32.toUInt16.toUInt32.toInt32)))))) (fun h => by rw [Bd.returns] at h; cases h)
    refine ⟨_, _, P18 _ ?_, hrun, hended, _, _, rfl, ?_, ⟨_, rfl⟩, hW, hsame.mono (by decide) (by decide)⟩
    · show GG p e below T17 (mkF m 24 #[.val (.ref xs), .val (.int (3 : Int32))] [(.int (nar .char (nar .char (((((nar .byte ((c3 >>> ((0 : Int32) &&& 31)).toInt8.toInt32)) &&& (255 : Int32)) <<< ((0 : Int32) &&& 31)) ||| (((nar .byte ((c3 >>> ((8 : Int32) &&& 31)).toInt8.toInt32)) &&& (255 : Int32)) <<< ((8 : Int32) &&& 31))).toUInt32.toUInt16.toUInt32.toInt32))))]) _
      exact retN X17 hx (t := .char) Bd.returns (by simp) (hb hby d_charAt3_24) hr
    · show Q_sCh3 Z xs tb kb (1 : Int32) (8 : Int32) [(.int (nar .byte ((c0 >>> ((0 : Int32) &&& 31)).toInt8.toInt32))), (.int (nar .byte ((c0 >>> ((8 : Int32) &&& 31)).toInt8.toInt32))), (.int (nar .byte ((c1 >>> ((0 : Int32) &&& 31)).toInt8.toInt32))), (.int (nar .byte ((c1 >>> ((8 : Int32) &&& 31)).toInt8.toInt32))), (.int (nar .byte ((c2 >>> ((0 : Int32) &&& 31)).toInt8.toInt32))), (.int (nar .byte ((c2 >>> ((8 : Int32) &&& 31)).toInt8.toInt32))), (.int (nar .byte ((c3 >>> ((0 : Int32) &&& 31)).toInt8.toInt32))), (.int (nar .byte ((c3 >>> ((8 : Int32) &&& 31)).toInt8.toInt32)))] c0 c1 c2 c3 G1 G3 h0 n0 _ T17.heap _
      rw [e17]
      exact ⟨congrArg (fun z => some (Value.int z)) (own_wide ic3), N17, rfl⟩
theorem ef_mat1 (m : MethodId) (x0 : Int32) : entryFrame m #[(.int x0), (.int (1 : Int32))] 2 = mkF m 0 #[.val (.int x0), .val (.int (1 : Int32))] [] := by first | (simp [entryFrame, mkF, argsToLocals, Value.category]; done) | rfl
theorem d_matches_0 : decode method_3_code 0 = .ok (.iload_n 1, 1) := by decide +kernel
theorem d_matches_1 : decode method_3_code 1 = .ok (.ifCond .eq 15, 3) := by decide +kernel
theorem d_matches_4 : decode method_3_code 4 = .ok (.iload_n 0, 1) := by decide +kernel
theorem d_matches_5 : decode method_3_code 5 = .ok (.bipush 34, 2) := by decide +kernel
theorem d_matches_7 : decode method_3_code 7 = .ok (.if_icmp .ne 7, 3) := by decide +kernel
theorem d_matches_10 : decode method_3_code 10 = .ok (.iconst 1, 1) := by decide +kernel
theorem d_matches_11 : decode method_3_code 11 = .ok (.goto 4, 3) := by decide +kernel
theorem d_matches_15 : decode method_3_code 15 = .ok (.ireturn, 1) := by decide +kernel
theorem d_matches_14 : decode method_3_code 14 = .ok (.iconst 0, 1) := by decide +kernel
def Q_mat1 (Z : State) (cc : Int32) (h0 : Heap) (n0 : Nat) (v : Option Value) (h : Heap) (L : List Loc) : Prop := ∃ (r : Int32), v = some (.int r) ∧ Fr n0 L ∧ h = h0 ∧ ((r = 1 ∧ cc = 34) ∨ (r = 0 ∧ ¬ cc = 34))
set_option maxRecDepth 65536 in
set_option maxHeartbeats 40000000 in
theorem rm_mat1 (l : Launch) (Z : State) (a0 : Array Value) (hw : ∀ d ∈ tables_1, d.before a0 Z = true) (ws : List Jvm.Cond) (cc : Int32) (h0 : Heap) (n0 : Nat) (Z0 : n0 ≤ h0.size) :
    MetFree l (⟨"com/example/planscribe/planscribe/terms/QuotesClosingPinLaw", "matches", "(CZ)Z"⟩ : MethodName) (head1 (Jvm.Cond.code (⟨"com/example/planscribe/planscribe/terms/QuotesClosingPinLaw", "matches", "(CZ)Z"⟩ : MethodName) method_3_code 2 (some .boolean) :: ws) ({ frames := 0, cells := 0, slots := 0, locals := 0 } : Room)) (fun a U => a = #[(.int cc), (.int (1 : Int32))] ∧ Z.Warmed39 U.vm ∧ U.heap = h0) (fun _ _ _ _ _ => True) (fun _ U o U' => ∃ v L, o = .returned v ∧ Q_mat1 Z cc h0 n0 v U'.heap L ∧ FrameEnd U o U' L ({ frames := 0, cells := 0, slots := 0, locals := 0 } : Room).cells ({ frames := 0, cells := 0, slots := 0, locals := 0 } : Room).slots) := by
  refine MetFree.of_bodySF (plainFor_of_name pn_0) hisR ?_
  intro p e s m args below meth c s₁ Bd hml0 hP hK
  obtain ⟨rfl, hZ, hh⟩ := hP
  have hx := Bd.exec
  have hby := Bd.bytes
  have hml : c.maxLocals = 2 := hml0
  have hown : s.vm.findClass "com/example/planscribe/planscribe/terms/QuotesClosingPinLaw" = some m.cls := findClass_of_methodNamed Bd.named
  have hnm := (name_of_methodNamed Bd.named Bd.method).1
  have X0 : Stand p l e ({ frames := 0, cells := 0, slots := 0, locals := 0 } : Room) s m #[(.int cc), (.int (1 : Int32))] below meth c s₁ [] 0 0 := Stand.of_body Bd
  have e0 : s₁.heap = h0 := by rw [← hh, Bd.state]; rfl
  have N0 := Fr.nil n0
  obtain ⟨s0, hs0⟩ : ∃ z, z = (s₁.setTop (entryFrame m #[(.int cc), (.int (1 : Int32))] 2)) := ⟨_, rfl⟩
  have P0 : ∀ t, GG p e below s₁ (mkF m 0 #[.val (.int cc), .val (.int (1 : Int32))] []) t → Steps p.tables e below s0 t := fun t kk_ => by rw [hs0]; exact castTop (ef_mat1 m cc) kk_
  have P1 : ∀ t, GG p e below s₁ (mkF m 7 #[.val (.int cc), .val (.int (1 : Int32))] [(.int (34 : Int32)), (.int cc)]) t → Steps p.tables e below s0 t := fun t kk_ => P0 t (by
    refine XS.iloadN X0.here hx rfl (hb hby d_matches_0) rfl ?_
    refine XS.ifNo X0.here hx rfl (hb hby d_matches_1) rfl ((if0 _ _).trans (feq ((by decide) : ¬ ((1 : Int32) = (0 : Int32)))).1) ?_
    refine XS.iloadN X0.here hx rfl (hb hby d_matches_4) rfl ?_
    refine XS.bipush X0.here hx rfl (hb hby d_matches_5) ?_
    exact kk_)
  by_cases hc7_2 : cc = (34 : Int32)
  ·
    have P3 : ∀ t, GG p e below s₁ (mkF m 15 #[.val (.int cc), .val (.int (1 : Int32))] [(.int (1 : Int32))]) t → Steps p.tables e below s0 t := fun t kk_ => P1 t (by
      refine XS.icmpNo X0.here hx rfl (hb hby d_matches_7) rfl (teq (hc7_2 : cc = (34 : Int32))).2 ?_
      refine XS.iconst X0.here hx rfl (hb hby d_matches_10) ?_
      refine XS.goto X0.here hx rfl (pc0 := 11) (pc' := 15) rfl (hb hby d_matches_11) (by decide) (by decide) ?_
      exact kk_)
    subst hs0
    obtain ⟨fs, hr, hrun, hended, hW, hsame⟩ := X0.leave (v := some (.int (nar .boolean (1 : Int32)))) (fun h => by rw [Bd.returns] at h; cases h)
    refine ⟨_, _, P3 _ ?_, hrun, hended, _, _, rfl, ?_, ⟨_, rfl⟩, hW, hsame.mono (by decide) (by decide)⟩
    · show GG p e below s₁ (mkF m 15 #[.val (.int cc), .val (.int (1 : Int32))] [(.int (1 : Int32))]) _
      exact retN X0 hx (t := .boolean) Bd.returns (by simp) (hb hby d_matches_15) hr
    · show Q_mat1 Z cc h0 n0 _ s₁.heap _
      rw [e0]
      exact ⟨(1 : Int32), rfl, N0, rfl, Or.inl ⟨rfl, hc7_2⟩⟩
  ·
    have P4 : ∀ t, GG p e below s₁ (mkF m 15 #[.val (.int cc), .val (.int (1 : Int32))] [(.int (0 : Int32))]) t → Steps p.tables e below s0 t := fun t kk_ => P1 t (by
      refine XS.icmpYes X0.here hx rfl (pc0 := 7) (pc' := 14) rfl (hb hby d_matches_7) rfl (feq (hc7_2 : ¬ (cc = (34 : Int32)))).2 (by decide) (by decide) ?_
      refine XS.iconst X0.here hx rfl (hb hby d_matches_14) ?_
      exact kk_)
    subst hs0
    obtain ⟨fs, hr, hrun, hended, hW, hsame⟩ := X0.leave (v := some (.int (nar .boolean (0 : Int32)))) (fun h => by rw [Bd.returns] at h; cases h)
    refine ⟨_, _, P4 _ ?_, hrun, hended, _, _, rfl, ?_, ⟨_, rfl⟩, hW, hsame.mono (by decide) (by decide)⟩
    · show GG p e below s₁ (mkF m 15 #[.val (.int cc), .val (.int (1 : Int32))] [(.int (0 : Int32))]) _
      exact retN X0 hx (t := .boolean) Bd.returns (by simp) (hb hby d_matches_15) hr
    · show Q_mat1 Z cc h0 n0 _ s₁.heap _
      rw [e0]
      exact ⟨(0 : Int32), rfl, N0, rfl, Or.inr ⟨rfl, hc7_2⟩⟩
theorem ef_stp1 (m : MethodId) (x0 : Int32) : entryFrame m #[(.int x0), (.int (1 : Int32))] 2 = mkF m 0 #[.val (.int x0), .val (.int (1 : Int32))] [] := by first | (simp [entryFrame, mkF, argsToLocals, Value.category]; done) | rfl
theorem d_stops_0 : decode method_4_code 0 = .ok (.iload_n 0, 1) := by decide +kernel
theorem d_stops_1 : decode method_4_code 1 = .ok (.iload_n 1, 1) := by decide +kernel
theorem pd_14 : parseMethodDescriptor "(CZ)Z" = some ⟨[.char, .boolean], some .boolean⟩ := by decide +kernel
theorem d_stops_2 : decode method_4_code 2 = .ok (.invokestatic 8, 3) := by decide +kernel
abbrev mn_17 : MethodName := ⟨"com/example/planscribe/planscribe/terms/QuotesClosingPinLaw", "matches", "(CZ)Z"⟩
theorem d_stops_5 : decode method_4_code 5 = .ok (.ifCond .eq 5, 3) := by decide +kernel
theorem d_stops_8 : decode method_4_code 8 = .ok (.iconst 1, 1) := by decide +kernel
theorem d_stops_9 : decode method_4_code 9 = .ok (.ireturn, 1) := by decide +kernel
theorem d_stops_10 : decode method_4_code 10 = .ok (.iload_n 1, 1) := by decide +kernel
theorem d_stops_11 : decode method_4_code 11 = .ok (.ifCond .ne 14, 3) := by decide +kernel
theorem d_stops_25 : decode method_4_code 25 = .ok (.iconst 0, 1) := by decide +kernel
theorem d_stops_26 : decode method_4_code 26 = .ok (.ireturn, 1) := by decide +kernel
def Q_stp1 (Z : State) (cc : Int32) (h0 : Heap) (n0 : Nat) (v : Option Value) (h : Heap) (L : List Loc) : Prop := ∃ (r : Int32), v = some (.int r) ∧ Fr n0 L ∧ h = h0 ∧ ((r = 1 ∧ cc = 34) ∨ (r = 0 ∧ ¬ cc = 34))
set_option maxRecDepth 65536 in
set_option maxHeartbeats 40000000 in
theorem rm_stp1 (l : Launch) (Z : State) (a0 : Array Value) (hw : ∀ d ∈ tables_1, d.before a0 Z = true) (ws : List Jvm.Cond) (cc : Int32) (h0 : Heap) (n0 : Nat) (Z0 : n0 ≤ h0.size) :
    MetFree l (⟨"com/example/planscribe/planscribe/terms/QuotesClosingPinLaw", "stops", "(CZ)Z"⟩ : MethodName) (head1 (Jvm.Cond.code (⟨"com/example/planscribe/planscribe/terms/QuotesClosingPinLaw", "stops", "(CZ)Z"⟩ : MethodName) method_4_code 2 (some .boolean) :: ws) ({ frames := 1, cells := 0, slots := 0, locals := 13 } : Room)) (fun a U => a = #[(.int cc), (.int (1 : Int32))] ∧ Z.Warmed39 U.vm ∧ U.heap = h0) (fun _ _ _ _ _ => True) (fun _ U o U' => ∃ v L, o = .returned v ∧ Q_stp1 Z cc h0 n0 v U'.heap L ∧ FrameEnd U o U' L ({ frames := 1, cells := 0, slots := 0, locals := 13 } : Room).cells ({ frames := 1, cells := 0, slots := 0, locals := 13 } : Room).slots) := by
  refine MetFree.of_bodySF (plainFor_of_name pn_0) hisR ?_
  intro p e s m args below meth c s₁ Bd hml0 hP hK
  obtain ⟨rfl, hZ, hh⟩ := hP
  have hx := Bd.exec
  have hby := Bd.bytes
  have hml : c.maxLocals = 2 := hml0
  have hown : s.vm.findClass "com/example/planscribe/planscribe/terms/QuotesClosingPinLaw" = some m.cls := findClass_of_methodNamed Bd.named
  have hnm := (name_of_methodNamed Bd.named Bd.method).1
  have X0 : Stand p l e ({ frames := 1, cells := 0, slots := 0, locals := 13 } : Room) s m #[(.int cc), (.int (1 : Int32))] below meth c s₁ [] 0 0 := Stand.of_body Bd
  have e0 : s₁.heap = h0 := by rw [← hh, Bd.state]; rfl
  have N0 := Fr.nil n0
  obtain ⟨s0, hs0⟩ : ∃ z, z = (s₁.setTop (entryFrame m #[(.int cc), (.int (1 : Int32))] 2)) := ⟨_, rfl⟩
  have P0 : ∀ t, GG p e below s₁ (mkF m 0 #[.val (.int cc), .val (.int (1 : Int32))] []) t → Steps p.tables e below s0 t := fun t kk_ => by rw [hs0]; exact castTop (ef_stp1 m cc) kk_
  have P1 : ∀ t, GG p e below s₁ (mkF m 2 #[.val (.int cc), .val (.int (1 : Int32))] [(.int (1 : Int32)), (.int cc)]) t → Steps p.tables e below s0 t := fun t kk_ => P0 t (by
    refine XS.iloadN X0.here hx rfl (hb hby d_stops_0) rfl ?_
    refine XS.iloadN X0.here hx rfl (hb hby d_stops_1) rfl ?_
    exact kk_)
  obtain ⟨_, _, ⟨T2, L2, k2, n2⟩, -, X2, ⟨Lc2, hQ2, l2, y2, z2⟩, st2⟩ := Jvm.LawKit.callS X0 hx (y := mn_17) hown (mw hZ hw 57 rfl) (mw hZ hw 58 rfl) (mw hZ hw 3 rfl) (mw hZ hw 59 rfl) (by decide) (backOf (W := 0) (rm_mat1 l Z a0 hw [] cc h0 n0 (Nat.le_trans Z0 (Nat.le_refl h0.size))) hZ (ww hw 59 rfl) (ww hw 3 rfl) (by decide) (by decide)) (g := (mkF m 2 #[.val (.int cc), .val (.int (1 : Int32))] [(.int (1 : Int32)), (.int cc)])) rfl (by rw [hml]; rfl) (argsL := [(.int cc), (.int (1 : Int32))]) (rest := []) (lenOf pd_14 rfl) rfl (by show 2 * 0 + _ ≤ _; exact Nat.le_of_eq rfl) (hb hby d_stops_2) (fun _ _ => ⟨rfl, e0, (by decide : 0 + 0 ≤ _), (by decide : 0 + 0 ≤ _)⟩)
  dsimp only [Pt.U, Pt.locs, Pt.cells, Pt.slots] at X2 l2 y2 z2 st2 hQ2
  subst l2 y2 z2
  obtain ⟨r_2, rfl, N2q, e2, po2_0⟩ := hQ2
  have N2 := Fr.app N0 N2q
  have P3 : ∀ t, GG p e below T2 (mkF m 5 #[.val (.int cc), .val (.int (1 : Int32))] [(.int r_2)]) t → Steps p.tables e below s0 t := fun t kk_ => P1 t (st2 _ kk_)
  have res_2 := po2_0
  rcases res_2 with hcase | hcase
  ·
    obtain ⟨rfl, hm⟩ := hcase
    have P4 : ∀ t, GG p e below T2 (mkF m 9 #[.val (.int cc), .val (.int (1 : Int32))] [(.int (1 : Int32))]) t → Steps p.tables e below s0 t := fun t kk_ => P3 t (by
      refine XS.ifNo X2.here hx rfl (hb hby d_stops_5) rfl ((if0 _ _).trans (feq ((by decide) : ¬ ((1 : Int32) = (0 : Int32)))).1) ?_
      refine XS.iconst X2.here hx rfl (hb hby d_stops_8) ?_
      exact kk_)
    subst hs0
    obtain ⟨fs, hr, hrun, hended, hW, hsame⟩ := X2.leave (v := some (.int (nar .boolean (1 : Int32)))) (fun h => by rw [Bd.returns] at h; cases h)
    refine ⟨_, _, P4 _ ?_, hrun, hended, _, _, rfl, ?_, ⟨_, rfl⟩, hW, hsame.mono (by decide) (by decide)⟩
    · show GG p e below T2 (mkF m 9 #[.val (.int cc), .val (.int (1 : Int32))] [(.int (1 : Int32))]) _
      exact retN X2 hx (t := .boolean) Bd.returns (by simp) (hb hby d_stops_9) hr
    · show Q_stp1 Z cc h0 n0 _ T2.heap _
      rw [e2]
      exact ⟨(1 : Int32), rfl, N2, rfl, Or.inl ⟨rfl, hm⟩⟩
  ·
    obtain ⟨rfl, hm⟩ := hcase
    have P5 : ∀ t, GG p e below T2 (mkF m 26 #[.val (.int cc), .val (.int (1 : Int32))] [(.int (0 : Int32))]) t → Steps p.tables e below s0 t := fun t kk_ => P3 t (by
      refine XS.ifYes X2.here hx rfl (pc0 := 5) (pc' := 10) rfl (hb hby d_stops_5) rfl ((if0 _ _).trans (teq ((by decide) : (0 : Int32) = (0 : Int32))).1) (by decide) (by decide) ?_
      refine XS.iloadN X2.here hx rfl (hb hby d_stops_10) rfl ?_
      refine XS.ifYes X2.here hx rfl (pc0 := 11) (pc' := 25) rfl (hb hby d_stops_11) rfl ((if0 _ _).trans (feq ((by decide) : ¬ ((1 : Int32) = (0 : Int32)))).2) (by decide) (by decide) ?_
      refine XS.iconst X2.here hx rfl (hb hby d_stops_25) ?_
      exact kk_)
    subst hs0
    obtain ⟨fs, hr, hrun, hended, hW, hsame⟩ := X2.leave (v := some (.int (nar .boolean (0 : Int32)))) (fun h => by rw [Bd.returns] at h; cases h)
    refine ⟨_, _, P5 _ ?_, hrun, hended, _, _, rfl, ?_, ⟨_, rfl⟩, hW, hsame.mono (by decide) (by decide)⟩
    · show GG p e below T2 (mkF m 26 #[.val (.int cc), .val (.int (1 : Int32))] [(.int (0 : Int32))]) _
      exact retN X2 hx (t := .boolean) Bd.returns (by simp) (hb hby d_stops_26) hr
    · show Q_stp1 Z cc h0 n0 _ T2.heap _
      rw [e2]
      exact ⟨(0 : Int32), rfl, N2, rfl, Or.inr ⟨rfl, hm⟩⟩
theorem ef_mat0 (m : MethodId) (x0 : Int32) : entryFrame m #[(.int x0), (.int (0 : Int32))] 2 = mkF m 0 #[.val (.int x0), .val (.int (0 : Int32))] [] := by first | (simp [entryFrame, mkF, argsToLocals, Value.category]; done) | rfl
theorem d_matches_16 : decode method_3_code 16 = .ok (.iload_n 0, 1) := by decide +kernel
theorem d_matches_17 : decode method_3_code 17 = .ok (.sipush 8221, 3) := by decide +kernel
theorem d_matches_20 : decode method_3_code 20 = .ok (.if_icmp .ne 7, 3) := by decide +kernel
theorem d_matches_23 : decode method_3_code 23 = .ok (.iconst 1, 1) := by decide +kernel
theorem d_matches_24 : decode method_3_code 24 = .ok (.goto 4, 3) := by decide +kernel
theorem d_matches_28 : decode method_3_code 28 = .ok (.ireturn, 1) := by decide +kernel
theorem d_matches_27 : decode method_3_code 27 = .ok (.iconst 0, 1) := by decide +kernel
def Q_mat0 (Z : State) (cc : Int32) (h0 : Heap) (n0 : Nat) (v : Option Value) (h : Heap) (L : List Loc) : Prop := ∃ (r : Int32), v = some (.int r) ∧ Fr n0 L ∧ h = h0 ∧ ((r = 1 ∧ cc = 8221) ∨ (r = 0 ∧ ¬ cc = 8221))
set_option maxRecDepth 65536 in
set_option maxHeartbeats 40000000 in
theorem rm_mat0 (l : Launch) (Z : State) (a0 : Array Value) (hw : ∀ d ∈ tables_1, d.before a0 Z = true) (ws : List Jvm.Cond) (cc : Int32) (h0 : Heap) (n0 : Nat) (Z0 : n0 ≤ h0.size) :
    MetFree l (⟨"com/example/planscribe/planscribe/terms/QuotesClosingPinLaw", "matches", "(CZ)Z"⟩ : MethodName) (head1 (Jvm.Cond.code (⟨"com/example/planscribe/planscribe/terms/QuotesClosingPinLaw", "matches", "(CZ)Z"⟩ : MethodName) method_3_code 2 (some .boolean) :: ws) ({ frames := 0, cells := 0, slots := 0, locals := 0 } : Room)) (fun a U => a = #[(.int cc), (.int (0 : Int32))] ∧ Z.Warmed39 U.vm ∧ U.heap = h0) (fun _ _ _ _ _ => True) (fun _ U o U' => ∃ v L, o = .returned v ∧ Q_mat0 Z cc h0 n0 v U'.heap L ∧ FrameEnd U o U' L ({ frames := 0, cells := 0, slots := 0, locals := 0 } : Room).cells ({ frames := 0, cells := 0, slots := 0, locals := 0 } : Room).slots) := by
  refine MetFree.of_bodySF (plainFor_of_name pn_0) hisR ?_
  intro p e s m args below meth c s₁ Bd hml0 hP hK
  obtain ⟨rfl, hZ, hh⟩ := hP
  have hx := Bd.exec
  have hby := Bd.bytes
  have hml : c.maxLocals = 2 := hml0
  have hown : s.vm.findClass "com/example/planscribe/planscribe/terms/QuotesClosingPinLaw" = some m.cls := findClass_of_methodNamed Bd.named
  have hnm := (name_of_methodNamed Bd.named Bd.method).1
  have X0 : Stand p l e ({ frames := 0, cells := 0, slots := 0, locals := 0 } : Room) s m #[(.int cc), (.int (0 : Int32))] below meth c s₁ [] 0 0 := Stand.of_body Bd
  have e0 : s₁.heap = h0 := by rw [← hh, Bd.state]; rfl
  have N0 := Fr.nil n0
  obtain ⟨s0, hs0⟩ : ∃ z, z = (s₁.setTop (entryFrame m #[(.int cc), (.int (0 : Int32))] 2)) := ⟨_, rfl⟩
  have P0 : ∀ t, GG p e below s₁ (mkF m 0 #[.val (.int cc), .val (.int (0 : Int32))] []) t → Steps p.tables e below s0 t := fun t kk_ => by rw [hs0]; exact castTop (ef_mat0 m cc) kk_
  have P1 : ∀ t, GG p e below s₁ (mkF m 20 #[.val (.int cc), .val (.int (0 : Int32))] [(.int (8221 : Int32)), (.int cc)]) t → Steps p.tables e below s0 t := fun t kk_ => P0 t (by
    refine XS.iloadN X0.here hx rfl (hb hby d_matches_0) rfl ?_
    refine XS.ifYes X0.here hx rfl (pc0 := 1) (pc' := 16) rfl (hb hby d_matches_1) rfl ((if0 _ _).trans (teq ((by decide) : (0 : Int32) = (0 : Int32))).1) (by decide) (by decide) ?_
    refine XS.iloadN X0.here hx rfl (hb hby d_matches_16) rfl ?_
    refine XS.sipush X0.here hx rfl (hb hby d_matches_17) ?_
    exact kk_)
  by_cases hc20_2 : cc = (8221 : Int32)
  ·
    have P3 : ∀ t, GG p e below s₁ (mkF m 28 #[.val (.int cc), .val (.int (0 : Int32))] [(.int (1 : Int32))]) t → Steps p.tables e below s0 t := fun t kk_ => P1 t (by
      refine XS.icmpNo X0.here hx rfl (hb hby d_matches_20) rfl (teq (hc20_2 : cc = (8221 : Int32))).2 ?_
      refine XS.iconst X0.here hx rfl (hb hby d_matches_23) ?_
      refine XS.goto X0.here hx rfl (pc0 := 24) (pc' := 28) rfl (hb hby d_matches_24) (by decide) (by decide) ?_
      exact kk_)
    subst hs0
    obtain ⟨fs, hr, hrun, hended, hW, hsame⟩ := X0.leave (v := some (.int (nar .boolean (1 : Int32)))) (fun h => by rw [Bd.returns] at h; cases h)
    refine ⟨_, _, P3 _ ?_, hrun, hended, _, _, rfl, ?_, ⟨_, rfl⟩, hW, hsame.mono (by decide) (by decide)⟩
    · show GG p e below s₁ (mkF m 28 #[.val (.int cc), .val (.int (0 : Int32))] [(.int (1 : Int32))]) _
      exact retN X0 hx (t := .boolean) Bd.returns (by simp) (hb hby d_matches_28) hr
    · show Q_mat0 Z cc h0 n0 _ s₁.heap _
      rw [e0]
      exact ⟨(1 : Int32), rfl, N0, rfl, Or.inl ⟨rfl, hc20_2⟩⟩
  ·
    have P4 : ∀ t, GG p e below s₁ (mkF m 28 #[.val (.int cc), .val (.int (0 : Int32))] [(.int (0 : Int32))]) t → Steps p.tables e below s0 t := fun t kk_ => P1 t (by
      refine XS.icmpYes X0.here hx rfl (pc0 := 20) (pc' := 27) rfl (hb hby d_matches_20) rfl (feq (hc20_2 : ¬ (cc = (8221 : Int32)))).2 (by decide) (by decide) ?_
      refine XS.iconst X0.here hx rfl (hb hby d_matches_27) ?_
      exact kk_)
    subst hs0
    obtain ⟨fs, hr, hrun, hended, hW, hsame⟩ := X0.leave (v := some (.int (nar .boolean (0 : Int32)))) (fun h => by rw [Bd.returns] at h; cases h)
    refine ⟨_, _, P4 _ ?_, hrun, hended, _, _, rfl, ?_, ⟨_, rfl⟩, hW, hsame.mono (by decide) (by decide)⟩
    · show GG p e below s₁ (mkF m 28 #[.val (.int cc), .val (.int (0 : Int32))] [(.int (0 : Int32))]) _
      exact retN X0 hx (t := .boolean) Bd.returns (by simp) (hb hby d_matches_28) hr
    · show Q_mat0 Z cc h0 n0 _ s₁.heap _
      rw [e0]
      exact ⟨(0 : Int32), rfl, N0, rfl, Or.inr ⟨rfl, hc20_2⟩⟩
theorem ef_stp0 (m : MethodId) (x0 : Int32) : entryFrame m #[(.int x0), (.int (0 : Int32))] 2 = mkF m 0 #[.val (.int x0), .val (.int (0 : Int32))] [] := by first | (simp [entryFrame, mkF, argsToLocals, Value.category]; done) | rfl
theorem d_stops_14 : decode method_4_code 14 = .ok (.iload_n 0, 1) := by decide +kernel
theorem d_stops_15 : decode method_4_code 15 = .ok (.sipush 8220, 3) := by decide +kernel
theorem d_stops_18 : decode method_4_code 18 = .ok (.if_icmp .ne 7, 3) := by decide +kernel
theorem d_stops_21 : decode method_4_code 21 = .ok (.iconst 1, 1) := by decide +kernel
theorem d_stops_22 : decode method_4_code 22 = .ok (.goto 4, 3) := by decide +kernel
def Q_stp0 (Z : State) (cc : Int32) (h0 : Heap) (n0 : Nat) (v : Option Value) (h : Heap) (L : List Loc) : Prop := ∃ (r : Int32), v = some (.int r) ∧ Fr n0 L ∧ h = h0 ∧ ((r = 1 ∧ (cc = 8221 ∨ cc = 8220)) ∨ (r = 0 ∧ (¬ cc = 8221 ∧ ¬ cc = 8220)))
set_option maxRecDepth 65536 in
set_option maxHeartbeats 40000000 in
theorem rm_stp0 (l : Launch) (Z : State) (a0 : Array Value) (hw : ∀ d ∈ tables_1, d.before a0 Z = true) (ws : List Jvm.Cond) (cc : Int32) (h0 : Heap) (n0 : Nat) (Z0 : n0 ≤ h0.size) :
    MetFree l (⟨"com/example/planscribe/planscribe/terms/QuotesClosingPinLaw", "stops", "(CZ)Z"⟩ : MethodName) (head1 (Jvm.Cond.code (⟨"com/example/planscribe/planscribe/terms/QuotesClosingPinLaw", "stops", "(CZ)Z"⟩ : MethodName) method_4_code 2 (some .boolean) :: ws) ({ frames := 1, cells := 0, slots := 0, locals := 13 } : Room)) (fun a U => a = #[(.int cc), (.int (0 : Int32))] ∧ Z.Warmed39 U.vm ∧ U.heap = h0) (fun _ _ _ _ _ => True) (fun _ U o U' => ∃ v L, o = .returned v ∧ Q_stp0 Z cc h0 n0 v U'.heap L ∧ FrameEnd U o U' L ({ frames := 1, cells := 0, slots := 0, locals := 13 } : Room).cells ({ frames := 1, cells := 0, slots := 0, locals := 13 } : Room).slots) := by
  refine MetFree.of_bodySF (plainFor_of_name pn_0) hisR ?_
  intro p e s m args below meth c s₁ Bd hml0 hP hK
  obtain ⟨rfl, hZ, hh⟩ := hP
  have hx := Bd.exec
  have hby := Bd.bytes
  have hml : c.maxLocals = 2 := hml0
  have hown : s.vm.findClass "com/example/planscribe/planscribe/terms/QuotesClosingPinLaw" = some m.cls := findClass_of_methodNamed Bd.named
  have hnm := (name_of_methodNamed Bd.named Bd.method).1
  have X0 : Stand p l e ({ frames := 1, cells := 0, slots := 0, locals := 13 } : Room) s m #[(.int cc), (.int (0 : Int32))] below meth c s₁ [] 0 0 := Stand.of_body Bd
  have e0 : s₁.heap = h0 := by rw [← hh, Bd.state]; rfl
  have N0 := Fr.nil n0
  obtain ⟨s0, hs0⟩ : ∃ z, z = (s₁.setTop (entryFrame m #[(.int cc), (.int (0 : Int32))] 2)) := ⟨_, rfl⟩
  have P0 : ∀ t, GG p e below s₁ (mkF m 0 #[.val (.int cc), .val (.int (0 : Int32))] []) t → Steps p.tables e below s0 t := fun t kk_ => by rw [hs0]; exact castTop (ef_stp0 m cc) kk_
  have P1 : ∀ t, GG p e below s₁ (mkF m 2 #[.val (.int cc), .val (.int (0 : Int32))] [(.int (0 : Int32)), (.int cc)]) t → Steps p.tables e below s0 t := fun t kk_ => P0 t (by
    refine XS.iloadN X0.here hx rfl (hb hby d_stops_0) rfl ?_
    refine XS.iloadN X0.here hx rfl (hb hby d_stops_1) rfl ?_
    exact kk_)
  obtain ⟨_, _, ⟨T2, L2, k2, n2⟩, -, X2, ⟨Lc2, hQ2, l2, y2, z2⟩, st2⟩ := Jvm.LawKit.callS X0 hx (y := mn_17) hown (mw hZ hw 57 rfl) (mw hZ hw 58 rfl) (mw hZ hw 3 rfl) (mw hZ hw 59 rfl) (by decide) (backOf (W := 0) (rm_mat0 l Z a0 hw [] cc h0 n0 (Nat.le_trans Z0 (Nat.le_refl h0.size))) hZ (ww hw 59 rfl) (ww hw 3 rfl) (by decide) (by decide)) (g := (mkF m 2 #[.val (.int cc), .val (.int (0 : Int32))] [(.int (0 : Int32)), (.int cc)])) rfl (by rw [hml]; rfl) (argsL := [(.int cc), (.int (0 : Int32))]) (rest := []) (lenOf pd_14 rfl) rfl (by show 2 * 0 + _ ≤ _; exact Nat.le_of_eq rfl) (hb hby d_stops_2) (fun _ _ => ⟨rfl, e0, (by decide : 0 + 0 ≤ _), (by decide : 0 + 0 ≤ _)⟩)
  dsimp only [Pt.U, Pt.locs, Pt.cells, Pt.slots] at X2 l2 y2 z2 st2 hQ2
  subst l2 y2 z2
  obtain ⟨r_2, rfl, N2q, e2, po2_0⟩ := hQ2
  have N2 := Fr.app N0 N2q
  have P3 : ∀ t, GG p e below T2 (mkF m 5 #[.val (.int cc), .val (.int (0 : Int32))] [(.int r_2)]) t → Steps p.tables e below s0 t := fun t kk_ => P1 t (st2 _ kk_)
  have res_2 := po2_0
  rcases res_2 with hcase | hcase
  ·
    obtain ⟨rfl, hm⟩ := hcase
    have P4 : ∀ t, GG p e below T2 (mkF m 9 #[.val (.int cc), .val (.int (0 : Int32))] [(.int (1 : Int32))]) t → Steps p.tables e below s0 t := fun t kk_ => P3 t (by
      refine XS.ifNo X2.here hx rfl (hb hby d_stops_5) rfl ((if0 _ _).trans (feq ((by decide) : ¬ ((1 : Int32) = (0 : Int32)))).1) ?_
      refine XS.iconst X2.here hx rfl (hb hby d_stops_8) ?_
      exact kk_)
    subst hs0
    obtain ⟨fs, hr, hrun, hended, hW, hsame⟩ := X2.leave (v := some (.int (nar .boolean (1 : Int32)))) (fun h => by rw [Bd.returns] at h; cases h)
    refine ⟨_, _, P4 _ ?_, hrun, hended, _, _, rfl, ?_, ⟨_, rfl⟩, hW, hsame.mono (by decide) (by decide)⟩
    · show GG p e below T2 (mkF m 9 #[.val (.int cc), .val (.int (0 : Int32))] [(.int (1 : Int32))]) _
      exact retN X2 hx (t := .boolean) Bd.returns (by simp) (hb hby d_stops_9) hr
    · show Q_stp0 Z cc h0 n0 _ T2.heap _
      rw [e2]
      exact ⟨(1 : Int32), rfl, N2, rfl, Or.inl ⟨rfl, Or.inl hm⟩⟩
  ·
    obtain ⟨rfl, hm⟩ := hcase
    have P5 : ∀ t, GG p e below T2 (mkF m 18 #[.val (.int cc), .val (.int (0 : Int32))] [(.int (8220 : Int32)), (.int cc)]) t → Steps p.tables e below s0 t := fun t kk_ => P3 t (by
      refine XS.ifYes X2.here hx rfl (pc0 := 5) (pc' := 10) rfl (hb hby d_stops_5) rfl ((if0 _ _).trans (teq ((by decide) : (0 : Int32) = (0 : Int32))).1) (by decide) (by decide) ?_
      refine XS.iloadN X2.here hx rfl (hb hby d_stops_10) rfl ?_
      refine XS.ifNo X2.here hx rfl (hb hby d_stops_11) rfl ((if0 _ _).trans (teq ((by decide) : (0 : Int32) = (0 : Int32))).2) ?_
      refine XS.iloadN X2.here hx rfl (hb hby d_stops_14) rfl ?_
      refine XS.sipush X2.here hx rfl (hb hby d_stops_15) ?_
      exact kk_)
    by_cases hc18_6 : cc = (8220 : Int32)
    ·
      have P7 : ∀ t, GG p e below T2 (mkF m 26 #[.val (.int cc), .val (.int (0 : Int32))] [(.int (1 : Int32))]) t → Steps p.tables e below s0 t := fun t kk_ => P5 t (by
        refine XS.icmpNo X2.here hx rfl (hb hby d_stops_18) rfl (teq (hc18_6 : cc = (8220 : Int32))).2 ?_
        refine XS.iconst X2.here hx rfl (hb hby d_stops_21) ?_
        refine XS.goto X2.here hx rfl (pc0 := 22) (pc' := 26) rfl (hb hby d_stops_22) (by decide) (by decide) ?_
        exact kk_)
      subst hs0
      obtain ⟨fs, hr, hrun, hended, hW, hsame⟩ := X2.leave (v := some (.int (nar .boolean (1 : Int32)))) (fun h => by rw [Bd.returns] at h; cases h)
      refine ⟨_, _, P7 _ ?_, hrun, hended, _, _, rfl, ?_, ⟨_, rfl⟩, hW, hsame.mono (by decide) (by decide)⟩
      · show GG p e below T2 (mkF m 26 #[.val (.int cc), .val (.int (0 : Int32))] [(.int (1 : Int32))]) _
        exact retN X2 hx (t := .boolean) Bd.returns (by simp) (hb hby d_stops_26) hr
      · show Q_stp0 Z cc h0 n0 _ T2.heap _
        rw [e2]
        exact ⟨(1 : Int32), rfl, N2, rfl, Or.inl ⟨rfl, Or.inr hc18_6⟩⟩
    ·
      have P8 : ∀ t, GG p e below T2 (mkF m 26 #[.val (.int cc), .val (.int (0 : Int32))] [(.int (0 : Int32))]) t → Steps p.tables e below s0 t := fun t kk_ => P5 t (by
        refine XS.icmpYes X2.here hx rfl (pc0 := 18) (pc' := 25) rfl (hb hby d_stops_18) rfl (feq (hc18_6 : ¬ (cc = (8220 : Int32)))).2 (by decide) (by decide) ?_
        refine XS.iconst X2.here hx rfl (hb hby d_stops_25) ?_
        exact kk_)
      subst hs0
      obtain ⟨fs, hr, hrun, hended, hW, hsame⟩ := X2.leave (v := some (.int (nar .boolean (0 : Int32)))) (fun h => by rw [Bd.returns] at h; cases h)
      refine ⟨_, _, P8 _ ?_, hrun, hended, _, _, rfl, ?_, ⟨_, rfl⟩, hW, hsame.mono (by decide) (by decide)⟩
      · show GG p e below T2 (mkF m 26 #[.val (.int cc), .val (.int (0 : Int32))] [(.int (0 : Int32))]) _
        exact retN X2 hx (t := .boolean) Bd.returns (by simp) (hb hby d_stops_26) hr
      · show Q_stp0 Z cc h0 n0 _ T2.heap _
        rw [e2]
        exact ⟨(0 : Int32), rfl, N2, rfl, Or.inr ⟨rfl, hm, hc18_6⟩⟩
theorem ef_clo0 (m : MethodId) (x0 : Addr) : entryFrame m #[(.ref x0), (.int (0 : Int32))] 5 = mkF m 0 #[.val (.ref x0), .val (.int (0 : Int32)), .unset, .unset, .unset] [] := by first | (simp [entryFrame, mkF, argsToLocals, Value.category]; done) | rfl
theorem pn_5 : plainName "com/example/planscribe/planscribe/terms/Quotes" = true := by first | (simp [plainName, overriddenIn]; done) | decide +kernel
theorem d_closing_0 : decode prog_75_method_3_code 0 = .ok (.aload_n 0, 1) := by decide +kernel
theorem d_closing_1 : decode prog_75_method_3_code 1 = .ok (.iload_n 1, 1) := by decide +kernel
theorem pd_15 : parseMethodDescriptor "(I)C" = some ⟨[.int], some .char⟩ := by decide +kernel
theorem d_closing_2 : decode prog_75_method_3_code 2 = .ok (.invokeinterface 13 2, 5) := by decide +kernel
abbrev mn_18 : MethodName := ⟨"java/lang/CharSequence", "charAt", "(I)C"⟩
abbrev mn_19 : MethodName := ⟨"java/lang/String", "charAt", "(I)C"⟩
theorem d_closing_7 : decode prog_75_method_3_code 7 = .ok (.bipush 34, 2) := by decide +kernel
theorem d_closing_9 : decode prog_75_method_3_code 9 = .ok (.if_icmp .ne 7, 3) := by decide +kernel
theorem d_closing_12 : decode prog_75_method_3_code 12 = .ok (.iconst 1, 1) := by decide +kernel
theorem d_closing_13 : decode prog_75_method_3_code 13 = .ok (.goto 4, 3) := by decide +kernel
theorem d_closing_17 : decode prog_75_method_3_code 17 = .ok (.istore_n 2, 1) := by decide +kernel
theorem d_closing_18 : decode prog_75_method_3_code 18 = .ok (.iload_n 1, 1) := by decide +kernel
theorem d_closing_19 : decode prog_75_method_3_code 19 = .ok (.iconst 1, 1) := by decide +kernel
theorem d_closing_20 : decode prog_75_method_3_code 20 = .ok (.iadd, 1) := by decide +kernel
theorem d_closing_21 : decode prog_75_method_3_code 21 = .ok (.istore_n 3, 1) := by decide +kernel
theorem d_closing_22 : decode prog_75_method_3_code 22 = .ok (.iload_n 3, 1) := by decide +kernel
theorem d_closing_23 : decode prog_75_method_3_code 23 = .ok (.aload_n 0, 1) := by decide +kernel
theorem pd_16 : parseMethodDescriptor "()I" = some ⟨[], some .int⟩ := by decide +kernel
theorem d_closing_24 : decode prog_75_method_3_code 24 = .ok (.invokeinterface 7 1, 5) := by decide +kernel
abbrev mn_20 : MethodName := ⟨"java/lang/CharSequence", "length", "()I"⟩
abbrev mn_21 : MethodName := ⟨"java/lang/String", "length", "()I"⟩
theorem d_closing_29 : decode prog_75_method_3_code 29 = .ok (.if_icmp .ge 56, 3) := by decide +kernel
theorem d_closing_32 : decode prog_75_method_3_code 32 = .ok (.aload_n 0, 1) := by decide +kernel
theorem d_closing_33 : decode prog_75_method_3_code 33 = .ok (.iload_n 3, 1) := by decide +kernel
theorem d_closing_34 : decode prog_75_method_3_code 34 = .ok (.invokeinterface 13 2, 5) := by decide +kernel
theorem d_closing_39 : decode prog_75_method_3_code 39 = .ok (.istore 4, 2) := by decide +kernel
theorem d_closing_41 : decode prog_75_method_3_code 41 = .ok (.iload_n 2, 1) := by decide +kernel
theorem d_closing_42 : decode prog_75_method_3_code 42 = .ok (.ifCond .eq 13, 3) := by decide +kernel
theorem d_closing_45 : decode prog_75_method_3_code 45 = .ok (.iload 4, 2) := by decide +kernel
theorem d_closing_47 : decode prog_75_method_3_code 47 = .ok (.bipush 34, 2) := by decide +kernel
theorem d_closing_49 : decode prog_75_method_3_code 49 = .ok (.if_icmp .ne 16, 3) := by decide +kernel
theorem d_closing_52 : decode prog_75_method_3_code 52 = .ok (.goto 11, 3) := by decide +kernel
theorem d_closing_63 : decode prog_75_method_3_code 63 = .ok (.iload_n 3, 1) := by decide +kernel
theorem d_closing_64 : decode prog_75_method_3_code 64 = .ok (.ireturn, 1) := by decide +kernel
theorem d_closing_65 : decode prog_75_method_3_code 65 = .ok (.iload_n 2, 1) := by decide +kernel
theorem d_closing_66 : decode prog_75_method_3_code 66 = .ok (.ifCond .ne 13, 3) := by decide +kernel
theorem d_closing_79 : decode prog_75_method_3_code 79 = .ok (.iinc 3 1, 3) := by decide +kernel
theorem d_closing_82 : decode prog_75_method_3_code 82 = .ok (.goto (-60), 3) := by decide +kernel
theorem d_closing_85 : decode prog_75_method_3_code 85 = .ok (.iconst (-1), 1) := by decide +kernel
theorem d_closing_86 : decode prog_75_method_3_code 86 = .ok (.ireturn, 1) := by decide +kernel
theorem d_closing_16 : decode prog_75_method_3_code 16 = .ok (.iconst 0, 1) := by decide +kernel
theorem d_closing_55 : decode prog_75_method_3_code 55 = .ok (.iload 4, 2) := by decide +kernel
theorem d_closing_57 : decode prog_75_method_3_code 57 = .ok (.sipush 8221, 3) := by decide +kernel
theorem d_closing_60 : decode prog_75_method_3_code 60 = .ok (.if_icmp .ne 5, 3) := by decide +kernel
theorem d_closing_69 : decode prog_75_method_3_code 69 = .ok (.iload 4, 2) := by decide +kernel
theorem d_closing_71 : decode prog_75_method_3_code 71 = .ok (.sipush 8220, 3) := by decide +kernel
theorem d_closing_74 : decode prog_75_method_3_code 74 = .ok (.if_icmp .ne 5, 3) := by decide +kernel
theorem d_closing_77 : decode prog_75_method_3_code 77 = .ok (.iconst (-1), 1) := by decide +kernel
theorem d_closing_78 : decode prog_75_method_3_code 78 = .ok (.ireturn, 1) := by decide +kernel
def Q_clo0 (Z : State) (xs : Addr) (tb : Addr) (kb : ClassId) (cd : Int32) (nB : Int32) (vs : List Value) (c0 : Int32) (c1 : Int32) (c2 : Int32) (c3 : Int32) (G1 : Int32) (G3 : Value) (h0 : Heap) (n0 : Nat) (v : Option Value) (h : Heap) (L : List Loc) : Prop := ∃ (r : Int32), v = some (.int r) ∧ Fr n0 L ∧ h = h0 ∧ (r = clo (decide (c0 = 34)) [((1 : Int32), c1), ((2 : Int32), c2), ((3 : Int32), c3)])
set_option maxRecDepth 65536 in
set_option maxHeartbeats 40000000 in
theorem rm_clo0 (l : Launch) (Z : State) (a0 : Array Value) (hw : ∀ d ∈ tables_1, d.before a0 Z = true) (ws : List Jvm.Cond) (xs : Addr) (tb : Addr) (kb : ClassId) (cd : Int32) (nB : Int32) (vs : List Value) (c0 : Int32) (c1 : Int32) (c2 : Int32) (c3 : Int32) (G1 : Int32) (G3 : Value) (h0 : Heap) (n0 : Nat) (Z0 : n0 ≤ h0.size) (E_xs : Exa Z h0 xs "java/lang/String") (F_value_xs : Fld Z h0 xs "java/lang/String" "value" "[B" (.ref tb)) (F_coder_xs : Fld Z h0 xs "java/lang/String" "coder" "B" (.int cd)) (V_tb : Arv Z h0 tb kb .byte nB vs (.int (0 : Int32))) (S_COMPACT_STRINGS : Sta Z Z.heap "java/lang/String" "COMPACT_STRINGS" "Z" (.int G1)) (S__assertionsDisabled : Sta Z Z.heap "java/lang/StringUTF16" "$assertionsDisabled" "Z" (.int (1 : Int32))) (S_HI_BYTE_SHIFT : Sta Z Z.heap "java/lang/StringUTF16" "HI_BYTE_SHIFT" "I" (.int (0 : Int32))) (S_LO_BYTE_SHIFT : Sta Z Z.heap "java/lang/StringUTF16" "LO_BYTE_SHIFT" "I" (.int (8 : Int32))) (S_SIOOBE_FORMATTER : Sta Z Z.heap "jdk/internal/util/Preconditions" "SIOOBE_FORMATTER" "Ljava/util/function/BiFunction;" G3) (OL : Old Z n0 h0) (hz : ¬ G1 = 0) (rG3 : G3.isRef = true) (s4 : Str4 c0 c1 c2 c3 cd nB vs) (ic0 : isC c0) (ic1 : isC c1) (ic2 : isC c2) (ic3 : isC c3) :
    MetFree l (⟨"com/example/planscribe/planscribe/terms/Quotes", "closing", "(Ljava/lang/CharSequence;I)I"⟩ : MethodName) (head1 (Jvm.Cond.code (⟨"com/example/planscribe/planscribe/terms/Quotes", "closing", "(Ljava/lang/CharSequence;I)I"⟩ : MethodName) prog_75_method_3_code 5 (some .int) :: ws) ({ frames := 5, cells := 0, slots := 0, locals := 66 } : Room)) (fun a U => a = #[(.ref xs), (.int (0 : Int32))] ∧ Z.Warmed39 U.vm ∧ U.heap = h0) (fun _ _ _ _ _ => True) (fun _ U o U' => ∃ v L, o = .returned v ∧ Q_clo0 Z xs tb kb cd nB vs c0 c1 c2 c3 G1 G3 h0 n0 v U'.heap L ∧ FrameEnd U o U' L ({ frames := 5, cells := 0, slots := 0, locals := 66 } : Room).cells ({ frames := 5, cells := 0, slots := 0, locals := 66 } : Room).slots) := by
  refine MetFree.of_bodySF (plainFor_of_name pn_5) hisR ?_
  intro p e s m args below meth c s₁ Bd hml0 hP hK
  obtain ⟨rfl, hZ, hh⟩ := hP
  have hx := Bd.exec
  have hby := Bd.bytes
  have hml : c.maxLocals = 5 := hml0
  have hown : s.vm.findClass "com/example/planscribe/planscribe/terms/Quotes" = some m.cls := findClass_of_methodNamed Bd.named
  have hnm := (name_of_methodNamed Bd.named Bd.method).1
  have X0 : Stand p l e ({ frames := 5, cells := 0, slots := 0, locals := 66 } : Room) s m #[(.ref xs), (.int (0 : Int32))] below meth c s₁ [] 0 0 := Stand.of_body Bd
  have e0 : s₁.heap = h0 := by rw [← hh, Bd.state]; rfl
  have N0 := Fr.nil n0
  obtain ⟨s0, hs0⟩ : ∃ z, z = (s₁.setTop (entryFrame m #[(.ref xs), (.int (0 : Int32))] 5)) := ⟨_, rfl⟩
  have P0 : ∀ t, GG p e below s₁ (mkF m 0 #[.val (.ref xs), .val (.int (0 : Int32)), .unset, .unset, .unset] []) t → Steps p.tables e below s0 t := fun t kk_ => by rw [hs0]; exact castTop (ef_clo0 m xs) kk_
  have P1 : ∀ t, GG p e below s₁ (mkF m 2 #[.val (.ref xs), .val (.int (0 : Int32)), .unset, .unset, .unset] [(.int (0 : Int32)), (.ref xs)]) t → Steps p.tables e below s0 t := fun t kk_ => P0 t (by
    refine XS.aloadN X0.here hx rfl (hb hby d_closing_0) rfl rfl ?_
    refine XS.iloadN X0.here hx rfl (hb hby d_closing_1) rfl ?_
    exact kk_)
  obtain ⟨cq2, kq2, q2a, q2b, q2c⟩ := isOf hZ e0 E_xs
  obtain ⟨_, _, ⟨T2, L2, k2, n2⟩, -, X2, ⟨Lc2, hQ2, l2, y2, z2⟩, st2⟩ := X0.interfaceBack hx (xi := mn_18) (y := mn_19) hown (mw hZ hw 64 rfl) (mw hZ hw 65 rfl) (mw hZ hw 66 rfl) (mw hZ hw 67 rfl) (mw hZ hw 68 rfl) (mw hZ hw 69 rfl) (mw hZ hw 70 rfl) (mw hZ hw 71 rfl) (by decide) (backOf (W := 0) (rm_sCh0 l Z a0 hw [] xs tb kb cd nB vs c0 c1 c2 c3 G1 G3 h0 n0 (Nat.le_trans Z0 (Nat.le_refl h0.size)) E_xs F_value_xs F_coder_xs V_tb S_COMPACT_STRINGS S__assertionsDisabled S_HI_BYTE_SHIFT S_LO_BYTE_SHIFT S_SIOOBE_FORMATTER OL hz rG3 s4 ic0 ic1 ic2 ic3) hZ (ww hw 72 rfl) (ww hw 8 rfl) (by decide) (by decide)) q2a q2b q2c (g := (mkF m 2 #[.val (.ref xs), .val (.int (0 : Int32)), .unset, .unset, .unset] [(.int (0 : Int32)), (.ref xs)])) rfl (by rw [hml]; rfl) (Steps.refl _) (argsL := [(.int (0 : Int32))]) (rest := []) (lenOf pd_15 rfl) rfl (by show 2 * 0 + _ ≤ _; exact Nat.le_of_eq rfl) (hb hby d_closing_2) (fun _ _ => ⟨rfl, e0, (by decide : 0 + 0 ≤ _), (by decide : 0 + 0 ≤ _)⟩)
  dsimp only [Pt.U, Pt.locs, Pt.cells, Pt.slots] at X2 l2 y2 z2 st2 hQ2
  subst l2 y2 z2
  obtain ⟨rfl, N2q, e2⟩ := hQ2
  have N2 := Fr.app N0 N2q
  have P3 : ∀ t, GG p e below T2 (mkF m 7 #[.val (.ref xs), .val (.int (0 : Int32)), .unset, .unset, .unset] [(.int c0)]) t → Steps p.tables e below s0 t := fun t kk_ => P1 t (st2.trans kk_)
  have P4 : ∀ t, GG p e below T2 (mkF m 9 #[.val (.ref xs), .val (.int (0 : Int32)), .unset, .unset, .unset] [(.int (34 : Int32)), (.int c0)]) t → Steps p.tables e below s0 t := fun t kk_ => P3 t (by
    refine XS.bipush X2.here hx rfl (hb hby d_closing_7) ?_
    exact kk_)
  by_cases hc9_5 : c0 = (34 : Int32)
  ·
    have P6 : ∀ t, GG p e below T2 (mkF m 24 #[.val (.ref xs), .val (.int (0 : Int32)), .val (.int (1 : Int32)), .val (.int (1 : Int32)), .unset] [(.ref xs), (.int (1 : Int32))]) t → Steps p.tables e below s0 t := fun t kk_ => P4 t (by
      refine XS.icmpNo X2.here hx rfl (hb hby d_closing_9) rfl (teq (hc9_5 : c0 = (34 : Int32))).2 ?_
      refine XS.iconst X2.here hx rfl (hb hby d_closing_12) ?_
      refine XS.goto X2.here hx rfl (pc0 := 13) (pc' := 17) rfl (hb hby d_closing_13) (by decide) (by decide) ?_
      refine XS.istoreN X2.here hx rfl (hb hby d_closing_17) rfl (l' := #[.val (.ref xs), .val (.int (0 : Int32)), .val (.int (1 : Int32)), .unset, .unset]) rfl ?_
      refine XS.iloadN X2.here hx rfl (hb hby d_closing_18) rfl ?_
      refine XS.iconst X2.here hx rfl (hb hby d_closing_19) ?_
      refine XS.iadd X2.here hx rfl (hb hby d_closing_20) rfl ?_
      refine XS.istoreN X2.here hx rfl (hb hby d_closing_21) rfl (l' := #[.val (.ref xs), .val (.int (0 : Int32)), .val (.int (1 : Int32)), .val (.int (1 : Int32)), .unset]) rfl ?_
      refine XS.iloadN X2.here hx rfl (hb hby d_closing_22) rfl ?_
      refine XS.aloadN X2.here hx rfl (hb hby d_closing_23) rfl rfl ?_
      exact kk_)
    obtain ⟨cq7, kq7, q7a, q7b, q7c⟩ := isOf hZ e2 E_xs
    obtain ⟨_, _, ⟨T7, L7, k7, n7⟩, -, X7, ⟨Lc7, hQ7, l7, y7, z7⟩, st7⟩ := X2.interfaceBack hx (xi := mn_20) (y := mn_21) hown (mw hZ hw 95 rfl) (mw hZ hw 96 rfl) (mw hZ hw 97 rfl) (mw hZ hw 98 rfl) (mw hZ hw 99 rfl) (mw hZ hw 100 rfl) (mw hZ hw 101 rfl) (mw hZ hw 71 rfl) (by decide) (backOf (W := 1) (rm_len4 l Z a0 hw [] xs tb kb cd nB vs c0 c1 c2 c3 G1 h0 n0 (Nat.le_trans Z0 (Nat.le_refl h0.size)) E_xs F_value_xs F_coder_xs V_tb S_COMPACT_STRINGS OL hz s4) hZ (ww hw 102 rfl) (ww hw 8 rfl) (by decide) (by decide)) q7a q7b q7c (g := (mkF m 24 #[.val (.ref xs), .val (.int (0 : Int32)), .val (.int (1 : Int32)), .val (.int (1 : Int32)), .unset] [(.ref xs), (.int (1 : Int32))])) rfl (by rw [hml]; rfl) (Steps.refl _) (argsL := []) (rest := [(.int (1 : Int32))]) (lenOf pd_16 rfl) rfl (by show 2 * 0 + _ ≤ _; exact Nat.le_of_eq rfl) (hb hby d_closing_24) (fun _ _ => ⟨rfl, e2, (by decide : 0 + 0 ≤ _), (by decide : 0 + 0 ≤ _)⟩)
    dsimp only [Pt.U, Pt.locs, Pt.cells, Pt.slots] at X7 l7 y7 z7 st7 hQ7
    subst l7 y7 z7
    obtain ⟨rfl, N7q, e7⟩ := hQ7
    have N7 := Fr.app N2 N7q
    have P8 : ∀ t, GG p e below T7 (mkF m 29 #[.val (.ref xs), .val (.int (0 : Int32)), .val (.int (1 : Int32)), .val (.int (1 : Int32)), .unset] [(.int (4 : Int32)), (.int (1 : Int32))]) t → Steps p.tables e below s0 t := fun t kk_ => P6 t (st7.trans kk_)
    have P9 : ∀ t, GG p e below T7 (mkF m 34 #[.val (.ref xs), .val (.int (0 : Int32)), .val (.int (1 : Int32)), .val (.int (1 : Int32)), .unset] [(.int (1 : Int32)), (.ref xs)]) t → Steps p.tables e below s0 t := fun t kk_ => P8 t (by
      refine XS.icmpNo X7.here hx rfl (hb hby d_closing_29) rfl (tlt ((by decide) : (1 : Int32) < (4 : Int32))).2.1 ?_
      refine XS.aloadN X7.here hx rfl (hb hby d_closing_32) rfl rfl ?_
      refine XS.iloadN X7.here hx rfl (hb hby d_closing_33) rfl ?_
      exact kk_)
    obtain ⟨cq10, kq10, q10a, q10b, q10c⟩ := isOf hZ e7 E_xs
    obtain ⟨_, _, ⟨T10, L10, k10, n10⟩, -, X10, ⟨Lc10, hQ10, l10, y10, z10⟩, st10⟩ := X7.interfaceBack hx (xi := mn_18) (y := mn_19) hown (mw hZ hw 64 rfl) (mw hZ hw 65 rfl) (mw hZ hw 66 rfl) (mw hZ hw 67 rfl) (mw hZ hw 68 rfl) (mw hZ hw 69 rfl) (mw hZ hw 70 rfl) (mw hZ hw 71 rfl) (by decide) (backOf (W := 0) (rm_sCh1 l Z a0 hw [] xs tb kb cd nB vs c0 c1 c2 c3 G1 G3 h0 n0 (Nat.le_trans Z0 (Nat.le_refl h0.size)) E_xs F_value_xs F_coder_xs V_tb S_COMPACT_STRINGS S__assertionsDisabled S_HI_BYTE_SHIFT S_LO_BYTE_SHIFT S_SIOOBE_FORMATTER OL hz rG3 s4 ic0 ic1 ic2 ic3) hZ (ww hw 72 rfl) (ww hw 8 rfl) (by decide) (by decide)) q10a q10b q10c (g := (mkF m 34 #[.val (.ref xs), .val (.int (0 : Int32)), .val (.int (1 : Int32)), .val (.int (1 : Int32)), .unset] [(.int (1 : Int32)), (.ref xs)])) rfl (by rw [hml]; rfl) (Steps.refl _) (argsL := [(.int (1 : Int32))]) (rest := []) (lenOf pd_15 rfl) rfl (by show 2 * 0 + _ ≤ _; exact Nat.le_of_eq rfl) (hb hby d_closing_34) (fun _ _ => ⟨rfl, e7, (by decide : 0 + 0 ≤ _), (by decide : 0 + 0 ≤ _)⟩)
    dsimp only [Pt.U, Pt.locs, Pt.cells, Pt.slots] at X10 l10 y10 z10 st10 hQ10
    subst l10 y10 z10
    obtain ⟨rfl, N10q, e10⟩ := hQ10
    have N10 := Fr.app N7 N10q
    have P11 : ∀ t, GG p e below T10 (mkF m 39 #[.val (.ref xs), .val (.int (0 : Int32)), .val (.int (1 : Int32)), .val (.int (1 : Int32)), .unset] [(.int c1)]) t → Steps p.tables e below s0 t := fun t kk_ => P9 t (st10.trans kk_)
    have P12 : ∀ t, GG p e below T10 (mkF m 49 #[.val (.ref xs), .val (.int (0 : Int32)), .val (.int (1 : Int32)), .val (.int (1 : Int32)), .val (.int c1)] [(.int (34 : Int32)), (.int c1)]) t → Steps p.tables e below s0 t := fun t kk_ => P11 t (by
      refine XS.istore X10.here hx rfl (hb hby d_closing_39) rfl (l' := #[.val (.ref xs), .val (.int (0 : Int32)), .val (.int (1 : Int32)), .val (.int (1 : Int32)), .val (.int c1)]) rfl ?_
      refine XS.iloadN X10.here hx rfl (hb hby d_closing_41) rfl ?_
      refine XS.ifNo X10.here hx rfl (hb hby d_closing_42) rfl ((if0 _ _).trans (feq ((by decide) : ¬ ((1 : Int32) = (0 : Int32)))).1) ?_
      refine XS.iload X10.here hx rfl (hb hby d_closing_45) rfl ?_
      refine XS.bipush X10.here hx rfl (hb hby d_closing_47) ?_
      exact kk_)
    by_cases hc49_13 : c1 = (34 : Int32)
    ·
      have P14 : ∀ t, GG p e below T10 (mkF m 64 #[.val (.ref xs), .val (.int (0 : Int32)), .val (.int (1 : Int32)), .val (.int (1 : Int32)), .val (.int c1)] [(.int (1 : Int32))]) t → Steps p.tables e below s0 t := fun t kk_ => P12 t (by
        refine XS.icmpNo X10.here hx rfl (hb hby d_closing_49) rfl (teq (hc49_13 : c1 = (34 : Int32))).2 ?_
        refine XS.goto X10.here hx rfl (pc0 := 52) (pc' := 63) rfl (hb hby d_closing_52) (by decide) (by decide) ?_
        refine XS.iloadN X10.here hx rfl (hb hby d_closing_63) rfl ?_
        exact kk_)
      subst hs0
      obtain ⟨fs, hr, hrun, hended, hW, hsame⟩ := X10.leave (v := some (.int (1 : Int32))) (fun h => by rw [Bd.returns] at h; cases h)
      refine ⟨_, _, P14 _ ?_, hrun, hended, _, _, rfl, ?_, ⟨_, rfl⟩, hW, hsame.mono (by decide) (by decide)⟩
      · show GG p e below T10 (mkF m 64 #[.val (.ref xs), .val (.int (0 : Int32)), .val (.int (1 : Int32)), .val (.int (1 : Int32)), .val (.int c1)] [(.int (1 : Int32))]) _
        exact retI X10 hx Bd.returns (hb hby d_closing_64) hr
      · show Q_clo0 Z xs tb kb cd nB vs c0 c1 c2 c3 G1 G3 h0 n0 _ T10.heap _
        rw [e10]
        exact ⟨(1 : Int32), rfl, N10, rfl, (by simp [clo, hc9_5, hc49_13])⟩
    ·
      have P15 : ∀ t, GG p e below T10 (mkF m 24 #[.val (.ref xs), .val (.int (0 : Int32)), .val (.int (1 : Int32)), .val (.int (2 : Int32)), .val (.int c1)] [(.ref xs), (.int (2 : Int32))]) t → Steps p.tables e below s0 t := fun t kk_ => P12 t (by
        refine XS.icmpYes X10.here hx rfl (pc0 := 49) (pc' := 65) rfl (hb hby d_closing_49) rfl (feq (hc49_13 : ¬ (c1 = (34 : Int32)))).2 (by decide) (by decide) ?_
        refine XS.iloadN X10.here hx rfl (hb hby d_closing_65) rfl ?_
        refine XS.ifYes X10.here hx rfl (pc0 := 66) (pc' := 79) rfl (hb hby d_closing_66) rfl ((if0 _ _).trans (feq ((by decide) : ¬ ((1 : Int32) = (0 : Int32)))).2) (by decide) (by decide) ?_
        refine XS.iinc X10.here hx rfl (hb hby d_closing_79) rfl (l' := #[.val (.ref xs), .val (.int (0 : Int32)), .val (.int (1 : Int32)), .val (.int (2 : Int32)), .val (.int c1)]) rfl ?_
        refine XS.goto X10.here hx rfl (pc0 := 82) (pc' := 22) rfl (hb hby d_closing_82) (by decide) (by decide) ?_
        refine XS.iloadN X10.here hx rfl (hb hby d_closing_22) rfl ?_
        refine XS.aloadN X10.here hx rfl (hb hby d_closing_23) rfl rfl ?_
        exact kk_)
      obtain ⟨cq16, kq16, q16a, q16b, q16c⟩ := isOf hZ e10 E_xs
      obtain ⟨_, _, ⟨T16, L16, k16, n16⟩, -, X16, ⟨Lc16, hQ16, l16, y16, z16⟩, st16⟩ := X10.interfaceBack hx (xi := mn_20) (y := mn_21) hown (mw hZ hw 95 rfl) (mw hZ hw 96 rfl) (mw hZ hw 97 rfl) (mw hZ hw 98 rfl) (mw hZ hw 99 rfl) (mw hZ hw 100 rfl) (mw hZ hw 101 rfl) (mw hZ hw 71 rfl) (by decide) (backOf (W := 1) (rm_len4 l Z a0 hw [] xs tb kb cd nB vs c0 c1 c2 c3 G1 h0 n0 (Nat.le_trans Z0 (Nat.le_refl h0.size)) E_xs F_value_xs F_coder_xs V_tb S_COMPACT_STRINGS OL hz s4) hZ (ww hw 102 rfl) (ww hw 8 rfl) (by decide) (by decide)) q16a q16b q16c (g := (mkF m 24 #[.val (.ref xs), .val (.int (0 : Int32)), .val (.int (1 : Int32)), .val (.int (2 : Int32)), .val (.int c1)] [(.ref xs), (.int (2 : Int32))])) rfl (by rw [hml]; rfl) (Steps.refl _) (argsL := []) (rest := [(.int (2 : Int32))]) (lenOf pd_16 rfl) rfl (by show 2 * 0 + _ ≤ _; exact Nat.le_of_eq rfl) (hb hby d_closing_24) (fun _ _ => ⟨rfl, e10, (by decide : 0 + 0 ≤ _), (by decide : 0 + 0 ≤ _)⟩)
      dsimp only [Pt.U, Pt.locs, Pt.cells, Pt.slots] at X16 l16 y16 z16 st16 hQ16
      subst l16 y16 z16
      obtain ⟨rfl, N16q, e16⟩ := hQ16
      have N16 := Fr.app N10 N16q
      have P17 : ∀ t, GG p e below T16 (mkF m 29 #[.val (.ref xs), .val (.int (0 : Int32)), .val (.int (1 : Int32)), .val (.int (2 : Int32)), .val (.int c1)] [(.int (4 : Int32)), (.int (2 : Int32))]) t → Steps p.tables e below s0 t := fun t kk_ => P15 t (st16.trans kk_)
      have P18 : ∀ t, GG p e below T16 (mkF m 34 #[.val (.ref xs), .val (.int (0 : Int32)), .val (.int (1 : Int32)), .val (.int (2 : Int32)), .val (.int c1)] [(.int (2 : Int32)), (.ref xs)]) t → Steps p.tables e below s0 t := fun t kk_ => P17 t (by
        refine XS.icmpNo X16.here hx rfl (hb hby d_closing_29) rfl (tlt ((by decide) : (2 : Int32) < (4 : Int32))).2.1 ?_
        refine XS.aloadN X16.here hx rfl (hb hby d_closing_32) rfl rfl ?_
        refine XS.iloadN X16.here hx rfl (hb hby d_closing_33) rfl ?_
        exact kk_)
      obtain ⟨cq19, kq19, q19a, q19b, q19c⟩ := isOf hZ e16 E_xs
      obtain ⟨_, _, ⟨T19, L19, k19, n19⟩, -, X19, ⟨Lc19, hQ19, l19, y19, z19⟩, st19⟩ := X16.interfaceBack hx (xi := mn_18) (y := mn_19) hown (mw hZ hw 64 rfl) (mw hZ hw 65 rfl) (mw hZ hw 66 rfl) (mw hZ hw 67 rfl) (mw hZ hw 68 rfl) (mw hZ hw 69 rfl) (mw hZ hw 70 rfl) (mw hZ hw 71 rfl) (by decide) (backOf (W := 0) (rm_sCh2 l Z a0 hw [] xs tb kb cd nB vs c0 c1 c2 c3 G1 G3 h0 n0 (Nat.le_trans Z0 (Nat.le_refl h0.size)) E_xs F_value_xs F_coder_xs V_tb S_COMPACT_STRINGS S__assertionsDisabled S_HI_BYTE_SHIFT S_LO_BYTE_SHIFT S_SIOOBE_FORMATTER OL hz rG3 s4 ic0 ic1 ic2 ic3) hZ (ww hw 72 rfl) (ww hw 8 rfl) (by decide) (by decide)) q19a q19b q19c (g := (mkF m 34 #[.val (.ref xs), .val (.int (0 : Int32)), .val (.int (1 : Int32)), .val (.int (2 : Int32)), .val (.int c1)] [(.int (2 : Int32)), (.ref xs)])) rfl (by rw [hml]; rfl) (Steps.refl _) (argsL := [(.int (2 : Int32))]) (rest := []) (lenOf pd_15 rfl) rfl (by show 2 * 0 + _ ≤ _; exact Nat.le_of_eq rfl) (hb hby d_closing_34) (fun _ _ => ⟨rfl, e16, (by decide : 0 + 0 ≤ _), (by decide : 0 + 0 ≤ _)⟩)
      dsimp only [Pt.U, Pt.locs, Pt.cells, Pt.slots] at X19 l19 y19 z19 st19 hQ19
      subst l19 y19 z19
      obtain ⟨rfl, N19q, e19⟩ := hQ19
      have N19 := Fr.app N16 N19q
      have P20 : ∀ t, GG p e below T19 (mkF m 39 #[.val (.ref xs), .val (.int (0 : Int32)), .val (.int (1 : Int32)), .val (.int (2 : Int32)), .val (.int c1)] [(.int c2)]) t → Steps p.tables e below s0 t := fun t kk_ => P18 t (st19.trans kk_)
      have P21 : ∀ t, GG p e below T19 (mkF m 49 #[.val (.ref xs), .val (.int (0 : Int32)), .val (.int (1 : Int32)), .val (.int (2 : Int32)), .val (.int c2)] [(.int (34 : Int32)), (.int c2)]) t → Steps p.tables e below s0 t := fun t kk_ => P20 t (by
        refine XS.istore X19.here hx rfl (hb hby d_closing_39) rfl (l' := #[.val (.ref xs), .val (.int (0 : Int32)), .val (.int (1 : Int32)), .val (.int (2 : Int32)), .val (.int c2)]) rfl ?_
        refine XS.iloadN X19.here hx rfl (hb hby d_closing_41) rfl ?_
        refine XS.ifNo X19.here hx rfl (hb hby d_closing_42) rfl ((if0 _ _).trans (feq ((by decide) : ¬ ((1 : Int32) = (0 : Int32)))).1) ?_
        refine XS.iload X19.here hx rfl (hb hby d_closing_45) rfl ?_
        refine XS.bipush X19.here hx rfl (hb hby d_closing_47) ?_
        exact kk_)
      by_cases hc49_22 : c2 = (34 : Int32)
      ·
        have P23 : ∀ t, GG p e below T19 (mkF m 64 #[.val (.ref xs), .val (.int (0 : Int32)), .val (.int (1 : Int32)), .val (.int (2 : Int32)), .val (.int c2)] [(.int (2 : Int32))]) t → Steps p.tables e below s0 t := fun t kk_ => P21 t (by
          refine XS.icmpNo X19.here hx rfl (hb hby d_closing_49) rfl (teq (hc49_22 : c2 = (34 : Int32))).2 ?_
          refine XS.goto X19.here hx rfl (pc0 := 52) (pc' := 63) rfl (hb hby d_closing_52) (by decide) (by decide) ?_
          refine XS.iloadN X19.here hx rfl (hb hby d_closing_63) rfl ?_
          exact kk_)
        subst hs0
        obtain ⟨fs, hr, hrun, hended, hW, hsame⟩ := X19.leave (v := some (.int (2 : Int32))) (fun h => by rw [Bd.returns] at h; cases h)
        refine ⟨_, _, P23 _ ?_, hrun, hended, _, _, rfl, ?_, ⟨_, rfl⟩, hW, hsame.mono (by decide) (by decide)⟩
        · show GG p e below T19 (mkF m 64 #[.val (.ref xs), .val (.int (0 : Int32)), .val (.int (1 : Int32)), .val (.int (2 : Int32)), .val (.int c2)] [(.int (2 : Int32))]) _
          exact retI X19 hx Bd.returns (hb hby d_closing_64) hr
        · show Q_clo0 Z xs tb kb cd nB vs c0 c1 c2 c3 G1 G3 h0 n0 _ T19.heap _
          rw [e19]
          exact ⟨(2 : Int32), rfl, N19, rfl, (by simp [clo, hc9_5, hc49_13, hc49_22])⟩
      ·
        have P24 : ∀ t, GG p e below T19 (mkF m 24 #[.val (.ref xs), .val (.int (0 : Int32)), .val (.int (1 : Int32)), .val (.int (3 : Int32)), .val (.int c2)] [(.ref xs), (.int (3 : Int32))]) t → Steps p.tables e below s0 t := fun t kk_ => P21 t (by
          refine XS.icmpYes X19.here hx rfl (pc0 := 49) (pc' := 65) rfl (hb hby d_closing_49) rfl (feq (hc49_22 : ¬ (c2 = (34 : Int32)))).2 (by decide) (by decide) ?_
          refine XS.iloadN X19.here hx rfl (hb hby d_closing_65) rfl ?_
          refine XS.ifYes X19.here hx rfl (pc0 := 66) (pc' := 79) rfl (hb hby d_closing_66) rfl ((if0 _ _).trans (feq ((by decide) : ¬ ((1 : Int32) = (0 : Int32)))).2) (by decide) (by decide) ?_
          refine XS.iinc X19.here hx rfl (hb hby d_closing_79) rfl (l' := #[.val (.ref xs), .val (.int (0 : Int32)), .val (.int (1 : Int32)), .val (.int (3 : Int32)), .val (.int c2)]) rfl ?_
          refine XS.goto X19.here hx rfl (pc0 := 82) (pc' := 22) rfl (hb hby d_closing_82) (by decide) (by decide) ?_
          refine XS.iloadN X19.here hx rfl (hb hby d_closing_22) rfl ?_
          refine XS.aloadN X19.here hx rfl (hb hby d_closing_23) rfl rfl ?_
          exact kk_)
        obtain ⟨cq25, kq25, q25a, q25b, q25c⟩ := isOf hZ e19 E_xs
        obtain ⟨_, _, ⟨T25, L25, k25, n25⟩, -, X25, ⟨Lc25, hQ25, l25, y25, z25⟩, st25⟩ := X19.interfaceBack hx (xi := mn_20) (y := mn_21) hown (mw hZ hw 95 rfl) (mw hZ hw 96 rfl) (mw hZ hw 97 rfl) (mw hZ hw 98 rfl) (mw hZ hw 99 rfl) (mw hZ hw 100 rfl) (mw hZ hw 101 rfl) (mw hZ hw 71 rfl) (by decide) (backOf (W := 1) (rm_len4 l Z a0 hw [] xs tb kb cd nB vs c0 c1 c2 c3 G1 h0 n0 (Nat.le_trans Z0 (Nat.le_refl h0.size)) E_xs F_value_xs F_coder_xs V_tb S_COMPACT_STRINGS OL hz s4) hZ (ww hw 102 rfl) (ww hw 8 rfl) (by decide) (by decide)) q25a q25b q25c (g := (mkF m 24 #[.val (.ref xs), .val (.int (0 : Int32)), .val (.int (1 : Int32)), .val (.int (3 : Int32)), .val (.int c2)] [(.ref xs), (.int (3 : Int32))])) rfl (by rw [hml]; rfl) (Steps.refl _) (argsL := []) (rest := [(.int (3 : Int32))]) (lenOf pd_16 rfl) rfl (by show 2 * 0 + _ ≤ _; exact Nat.le_of_eq rfl) (hb hby d_closing_24) (fun _ _ => ⟨rfl, e19, (by decide : 0 + 0 ≤ _), (by decide : 0 + 0 ≤ _)⟩)
        dsimp only [Pt.U, Pt.locs, Pt.cells, Pt.slots] at X25 l25 y25 z25 st25 hQ25
        subst l25 y25 z25
        obtain ⟨rfl, N25q, e25⟩ := hQ25
        have N25 := Fr.app N19 N25q
        have P26 : ∀ t, GG p e below T25 (mkF m 29 #[.val (.ref xs), .val (.int (0 : Int32)), .val (.int (1 : Int32)), .val (.int (3 : Int32)), .val (.int c2)] [(.int (4 : Int32)), (.int (3 : Int32))]) t → Steps p.tables e below s0 t := fun t kk_ => P24 t (st25.trans kk_)
        have P27 : ∀ t, GG p e below T25 (mkF m 34 #[.val (.ref xs), .val (.int (0 : Int32)), .val (.int (1 : Int32)), .val (.int (3 : Int32)), .val (.int c2)] [(.int (3 : Int32)), (.ref xs)]) t → Steps p.tables e below s0 t := fun t kk_ => P26 t (by
          refine XS.icmpNo X25.here hx rfl (hb hby d_closing_29) rfl (tlt ((by decide) : (3 : Int32) < (4 : Int32))).2.1 ?_
          refine XS.aloadN X25.here hx rfl (hb hby d_closing_32) rfl rfl ?_
          refine XS.iloadN X25.here hx rfl (hb hby d_closing_33) rfl ?_
          exact kk_)
        obtain ⟨cq28, kq28, q28a, q28b, q28c⟩ := isOf hZ e25 E_xs
        obtain ⟨_, _, ⟨T28, L28, k28, n28⟩, -, X28, ⟨Lc28, hQ28, l28, y28, z28⟩, st28⟩ := X25.interfaceBack hx (xi := mn_18) (y := mn_19) hown (mw hZ hw 64 rfl) (mw hZ hw 65 rfl) (mw hZ hw 66 rfl) (mw hZ hw 67 rfl) (mw hZ hw 68 rfl) (mw hZ hw 69 rfl) (mw hZ hw 70 rfl) (mw hZ hw 71 rfl) (by decide) (backOf (W := 0) (rm_sCh3 l Z a0 hw [] xs tb kb cd nB vs c0 c1 c2 c3 G1 G3 h0 n0 (Nat.le_trans Z0 (Nat.le_refl h0.size)) E_xs F_value_xs F_coder_xs V_tb S_COMPACT_STRINGS S__assertionsDisabled S_HI_BYTE_SHIFT S_LO_BYTE_SHIFT S_SIOOBE_FORMATTER OL hz rG3 s4 ic0 ic1 ic2 ic3) hZ (ww hw 72 rfl) (ww hw 8 rfl) (by decide) (by decide)) q28a q28b q28c (g := (mkF m 34 #[.val (.ref xs), .val (.int (0 : Int32)), .val (.int (1 : Int32)), .val (.int (3 : Int32)), .val (.int c2)] [(.int (3 : Int32)), (.ref xs)])) rfl (by rw [hml]; rfl) (Steps.refl _) (argsL := [(.int (3 : Int32))]) (rest := []) (lenOf pd_15 rfl) rfl (by show 2 * 0 + _ ≤ _; exact Nat.le_of_eq rfl) (hb hby d_closing_34) (fun _ _ => ⟨rfl, e25, (by decide : 0 + 0 ≤ _), (by decide : 0 + 0 ≤ _)⟩)
        dsimp only [Pt.U, Pt.locs, Pt.cells, Pt.slots] at X28 l28 y28 z28 st28 hQ28
        subst l28 y28 z28
        obtain ⟨rfl, N28q, e28⟩ := hQ28
        have N28 := Fr.app N25 N28q
        have P29 : ∀ t, GG p e below T28 (mkF m 39 #[.val (.ref xs), .val (.int (0 : Int32)), .val (.int (1 : Int32)), .val (.int (3 : Int32)), .val (.int c2)] [(.int c3)]) t → Steps p.tables e below s0 t := fun t kk_ => P27 t (st28.trans kk_)
        have P30 : ∀ t, GG p e below T28 (mkF m 49 #[.val (.ref xs), .val (.int (0 : Int32)), .val (.int (1 : Int32)), .val (.int (3 : Int32)), .val (.int c3)] [(.int (34 : Int32)), (.int c3)]) t → Steps p.tables e below s0 t := fun t kk_ => P29 t (by
          refine XS.istore X28.here hx rfl (hb hby d_closing_39) rfl (l' := #[.val (.ref xs), .val (.int (0 : Int32)), .val (.int (1 : Int32)), .val (.int (3 : Int32)), .val (.int c3)]) rfl ?_
          refine XS.iloadN X28.here hx rfl (hb hby d_closing_41) rfl ?_
          refine XS.ifNo X28.here hx rfl (hb hby d_closing_42) rfl ((if0 _ _).trans (feq ((by decide) : ¬ ((1 : Int32) = (0 : Int32)))).1) ?_
          refine XS.iload X28.here hx rfl (hb hby d_closing_45) rfl ?_
          refine XS.bipush X28.here hx rfl (hb hby d_closing_47) ?_
          exact kk_)
        by_cases hc49_31 : c3 = (34 : Int32)
        ·
          have P32 : ∀ t, GG p e below T28 (mkF m 64 #[.val (.ref xs), .val (.int (0 : Int32)), .val (.int (1 : Int32)), .val (.int (3 : Int32)), .val (.int c3)] [(.int (3 : Int32))]) t → Steps p.tables e below s0 t := fun t kk_ => P30 t (by
            refine XS.icmpNo X28.here hx rfl (hb hby d_closing_49) rfl (teq (hc49_31 : c3 = (34 : Int32))).2 ?_
            refine XS.goto X28.here hx rfl (pc0 := 52) (pc' := 63) rfl (hb hby d_closing_52) (by decide) (by decide) ?_
            refine XS.iloadN X28.here hx rfl (hb hby d_closing_63) rfl ?_
            exact kk_)
          subst hs0
          obtain ⟨fs, hr, hrun, hended, hW, hsame⟩ := X28.leave (v := some (.int (3 : Int32))) (fun h => by rw [Bd.returns] at h; cases h)
          refine ⟨_, _, P32 _ ?_, hrun, hended, _, _, rfl, ?_, ⟨_, rfl⟩, hW, hsame.mono (by decide) (by decide)⟩
          · show GG p e below T28 (mkF m 64 #[.val (.ref xs), .val (.int (0 : Int32)), .val (.int (1 : Int32)), .val (.int (3 : Int32)), .val (.int c3)] [(.int (3 : Int32))]) _
            exact retI X28 hx Bd.returns (hb hby d_closing_64) hr
          · show Q_clo0 Z xs tb kb cd nB vs c0 c1 c2 c3 G1 G3 h0 n0 _ T28.heap _
            rw [e28]
            exact ⟨(3 : Int32), rfl, N28, rfl, (by simp [clo, hc9_5, hc49_13, hc49_22, hc49_31])⟩
        ·
          have P33 : ∀ t, GG p e below T28 (mkF m 24 #[.val (.ref xs), .val (.int (0 : Int32)), .val (.int (1 : Int32)), .val (.int (4 : Int32)), .val (.int c3)] [(.ref xs), (.int (4 : Int32))]) t → Steps p.tables e below s0 t := fun t kk_ => P30 t (by
            refine XS.icmpYes X28.here hx rfl (pc0 := 49) (pc' := 65) rfl (hb hby d_closing_49) rfl (feq (hc49_31 : ¬ (c3 = (34 : Int32)))).2 (by decide) (by decide) ?_
            refine XS.iloadN X28.here hx rfl (hb hby d_closing_65) rfl ?_
            refine XS.ifYes X28.here hx rfl (pc0 := 66) (pc' := 79) rfl (hb hby d_closing_66) rfl ((if0 _ _).trans (feq ((by decide) : ¬ ((1 : Int32) = (0 : Int32)))).2) (by decide) (by decide) ?_
            refine XS.iinc X28.here hx rfl (hb hby d_closing_79) rfl (l' := #[.val (.ref xs), .val (.int (0 : Int32)), .val (.int (1 : Int32)), .val (.int (4 : Int32)), .val (.int c3)]) rfl ?_
            refine XS.goto X28.here hx rfl (pc0 := 82) (pc' := 22) rfl (hb hby d_closing_82) (by decide) (by decide) ?_
            refine XS.iloadN X28.here hx rfl (hb hby d_closing_22) rfl ?_
            refine XS.aloadN X28.here hx rfl (hb hby d_closing_23) rfl rfl ?_
            exact kk_)
          obtain ⟨cq34, kq34, q34a, q34b, q34c⟩ := isOf hZ e28 E_xs
          obtain ⟨_, _, ⟨T34, L34, k34, n34⟩, -, X34, ⟨Lc34, hQ34, l34, y34, z34⟩, st34⟩ := X28.interfaceBack hx (xi := mn_20) (y := mn_21) hown (mw hZ hw 95 rfl) (mw hZ hw 96 rfl) (mw hZ hw 97 rfl) (mw hZ hw 98 rfl) (mw hZ hw 99 rfl) (mw hZ hw 100 rfl) (mw hZ hw 101 rfl) (mw hZ hw 71 rfl) (by decide) (backOf (W := 1) (rm_len4 l Z a0 hw [] xs tb kb cd nB vs c0 c1 c2 c3 G1 h0 n0 (Nat.le_trans Z0 (Nat.le_refl h0.size)) E_xs F_value_xs F_coder_xs V_tb S_COMPACT_STRINGS OL hz s4) hZ (ww hw 102 rfl) (ww hw 8 rfl) (by decide) (by decide)) q34a q34b q34c (g := (mkF m 24 #[.val (.ref xs), .val (.int (0 : Int32)), .val (.int (1 : Int32)), .val (.int (4 : Int32)), .val (.int c3)] [(.ref xs), (.int (4 : Int32))])) rfl (by rw [hml]; rfl) (Steps.refl _) (argsL := []) (rest := [(.int (4 : Int32))]) (lenOf pd_16 rfl) rfl (by show 2 * 0 + _ ≤ _; exact Nat.le_of_eq rfl) (hb hby d_closing_24) (fun _ _ => ⟨rfl, e28, (by decide : 0 + 0 ≤ _), (by decide : 0 + 0 ≤ _)⟩)
          dsimp only [Pt.U, Pt.locs, Pt.cells, Pt.slots] at X34 l34 y34 z34 st34 hQ34
          subst l34 y34 z34
          obtain ⟨rfl, N34q, e34⟩ := hQ34
          have N34 := Fr.app N28 N34q
          have P35 : ∀ t, GG p e below T34 (mkF m 29 #[.val (.ref xs), .val (.int (0 : Int32)), .val (.int (1 : Int32)), .val (.int (4 : Int32)), .val (.int c3)] [(.int (4 : Int32)), (.int (4 : Int32))]) t → Steps p.tables e below s0 t := fun t kk_ => P33 t (st34.trans kk_)
          have P36 : ∀ t, GG p e below T34 (mkF m 86 #[.val (.ref xs), .val (.int (0 : Int32)), .val (.int (1 : Int32)), .val (.int (4 : Int32)), .val (.int c3)] [(.int (-1 : Int32))]) t → Steps p.tables e below s0 t := fun t kk_ => P35 t (by
            refine XS.icmpYes X34.here hx rfl (pc0 := 29) (pc' := 85) rfl (hb hby d_closing_29) rfl (flt ((by decide) : ¬ ((4 : Int32) < (4 : Int32)))).2.1 (by decide) (by decide) ?_
            refine XS.iconst X34.here hx rfl (hb hby d_closing_85) ?_
            exact kk_)
          subst hs0
          obtain ⟨fs, hr, hrun, hended, hW, hsame⟩ := X34.leave (v := some (.int (-1 : Int32))) (fun h => by rw [Bd.returns] at h; cases h)
          refine ⟨_, _, P36 _ ?_, hrun, hended, _, _, rfl, ?_, ⟨_, rfl⟩, hW, hsame.mono (by decide) (by decide)⟩
          · show GG p e below T34 (mkF m 86 #[.val (.ref xs), .val (.int (0 : Int32)), .val (.int (1 : Int32)), .val (.int (4 : Int32)), .val (.int c3)] [(.int (-1 : Int32))]) _
            exact retI X34 hx Bd.returns (hb hby d_closing_86) hr
          · show Q_clo0 Z xs tb kb cd nB vs c0 c1 c2 c3 G1 G3 h0 n0 _ T34.heap _
            rw [e34]
            exact ⟨(-1 : Int32), rfl, N34, rfl, (by simp [clo, hc9_5, hc49_13, hc49_22, hc49_31])⟩
  ·
    have P37 : ∀ t, GG p e below T2 (mkF m 24 #[.val (.ref xs), .val (.int (0 : Int32)), .val (.int (0 : Int32)), .val (.int (1 : Int32)), .unset] [(.ref xs), (.int (1 : Int32))]) t → Steps p.tables e below s0 t := fun t kk_ => P4 t (by
      refine XS.icmpYes X2.here hx rfl (pc0 := 9) (pc' := 16) rfl (hb hby d_closing_9) rfl (feq (hc9_5 : ¬ (c0 = (34 : Int32)))).2 (by decide) (by decide) ?_
      refine XS.iconst X2.here hx rfl (hb hby d_closing_16) ?_
      refine XS.istoreN X2.here hx rfl (hb hby d_closing_17) rfl (l' := #[.val (.ref xs), .val (.int (0 : Int32)), .val (.int (0 : Int32)), .unset, .unset]) rfl ?_
      refine XS.iloadN X2.here hx rfl (hb hby d_closing_18) rfl ?_
      refine XS.iconst X2.here hx rfl (hb hby d_closing_19) ?_
      refine XS.iadd X2.here hx rfl (hb hby d_closing_20) rfl ?_
      refine XS.istoreN X2.here hx rfl (hb hby d_closing_21) rfl (l' := #[.val (.ref xs), .val (.int (0 : Int32)), .val (.int (0 : Int32)), .val (.int (1 : Int32)), .unset]) rfl ?_
      refine XS.iloadN X2.here hx rfl (hb hby d_closing_22) rfl ?_
      refine XS.aloadN X2.here hx rfl (hb hby d_closing_23) rfl rfl ?_
      exact kk_)
    obtain ⟨cq38, kq38, q38a, q38b, q38c⟩ := isOf hZ e2 E_xs
    obtain ⟨_, _, ⟨T38, L38, k38, n38⟩, -, X38, ⟨Lc38, hQ38, l38, y38, z38⟩, st38⟩ := X2.interfaceBack hx (xi := mn_20) (y := mn_21) hown (mw hZ hw 95 rfl) (mw hZ hw 96 rfl) (mw hZ hw 97 rfl) (mw hZ hw 98 rfl) (mw hZ hw 99 rfl) (mw hZ hw 100 rfl) (mw hZ hw 101 rfl) (mw hZ hw 71 rfl) (by decide) (backOf (W := 1) (rm_len4 l Z a0 hw [] xs tb kb cd nB vs c0 c1 c2 c3 G1 h0 n0 (Nat.le_trans Z0 (Nat.le_refl h0.size)) E_xs F_value_xs F_coder_xs V_tb S_COMPACT_STRINGS OL hz s4) hZ (ww hw 102 rfl) (ww hw 8 rfl) (by decide) (by decide)) q38a q38b q38c (g := (mkF m 24 #[.val (.ref xs), .val (.int (0 : Int32)), .val (.int (0 : Int32)), .val (.int (1 : Int32)), .unset] [(.ref xs), (.int (1 : Int32))])) rfl (by rw [hml]; rfl) (Steps.refl _) (argsL := []) (rest := [(.int (1 : Int32))]) (lenOf pd_16 rfl) rfl (by show 2 * 0 + _ ≤ _; exact Nat.le_of_eq rfl) (hb hby d_closing_24) (fun _ _ => ⟨rfl, e2, (by decide : 0 + 0 ≤ _), (by decide : 0 + 0 ≤ _)⟩)
    dsimp only [Pt.U, Pt.locs, Pt.cells, Pt.slots] at X38 l38 y38 z38 st38 hQ38
    subst l38 y38 z38
    obtain ⟨rfl, N38q, e38⟩ := hQ38
    have N38 := Fr.app N2 N38q
    have P39 : ∀ t, GG p e below T38 (mkF m 29 #[.val (.ref xs), .val (.int (0 : Int32)), .val (.int (0 : Int32)), .val (.int (1 : Int32)), .unset] [(.int (4 : Int32)), (.int (1 : Int32))]) t → Steps p.tables e below s0 t := fun t kk_ => P37 t (st38.trans kk_)
    have P40 : ∀ t, GG p e below T38 (mkF m 34 #[.val (.ref xs), .val (.int (0 : Int32)), .val (.int (0 : Int32)), .val (.int (1 : Int32)), .unset] [(.int (1 : Int32)), (.ref xs)]) t → Steps p.tables e below s0 t := fun t kk_ => P39 t (by
      refine XS.icmpNo X38.here hx rfl (hb hby d_closing_29) rfl (tlt ((by decide) : (1 : Int32) < (4 : Int32))).2.1 ?_
      refine XS.aloadN X38.here hx rfl (hb hby d_closing_32) rfl rfl ?_
      refine XS.iloadN X38.here hx rfl (hb hby d_closing_33) rfl ?_
      exact kk_)
    obtain ⟨cq41, kq41, q41a, q41b, q41c⟩ := isOf hZ e38 E_xs
    obtain ⟨_, _, ⟨T41, L41, k41, n41⟩, -, X41, ⟨Lc41, hQ41, l41, y41, z41⟩, st41⟩ := X38.interfaceBack hx (xi := mn_18) (y := mn_19) hown (mw hZ hw 64 rfl) (mw hZ hw 65 rfl) (mw hZ hw 66 rfl) (mw hZ hw 67 rfl) (mw hZ hw 68 rfl) (mw hZ hw 69 rfl) (mw hZ hw 70 rfl) (mw hZ hw 71 rfl) (by decide) (backOf (W := 0) (rm_sCh1 l Z a0 hw [] xs tb kb cd nB vs c0 c1 c2 c3 G1 G3 h0 n0 (Nat.le_trans Z0 (Nat.le_refl h0.size)) E_xs F_value_xs F_coder_xs V_tb S_COMPACT_STRINGS S__assertionsDisabled S_HI_BYTE_SHIFT S_LO_BYTE_SHIFT S_SIOOBE_FORMATTER OL hz rG3 s4 ic0 ic1 ic2 ic3) hZ (ww hw 72 rfl) (ww hw 8 rfl) (by decide) (by decide)) q41a q41b q41c (g := (mkF m 34 #[.val (.ref xs), .val (.int (0 : Int32)), .val (.int (0 : Int32)), .val (.int (1 : Int32)), .unset] [(.int (1 : Int32)), (.ref xs)])) rfl (by rw [hml]; rfl) (Steps.refl _) (argsL := [(.int (1 : Int32))]) (rest := []) (lenOf pd_15 rfl) rfl (by show 2 * 0 + _ ≤ _; exact Nat.le_of_eq rfl) (hb hby d_closing_34) (fun _ _ => ⟨rfl, e38, (by decide : 0 + 0 ≤ _), (by decide : 0 + 0 ≤ _)⟩)
    dsimp only [Pt.U, Pt.locs, Pt.cells, Pt.slots] at X41 l41 y41 z41 st41 hQ41
    subst l41 y41 z41
    obtain ⟨rfl, N41q, e41⟩ := hQ41
    have N41 := Fr.app N38 N41q
    have P42 : ∀ t, GG p e below T41 (mkF m 39 #[.val (.ref xs), .val (.int (0 : Int32)), .val (.int (0 : Int32)), .val (.int (1 : Int32)), .unset] [(.int c1)]) t → Steps p.tables e below s0 t := fun t kk_ => P40 t (st41.trans kk_)
    have P43 : ∀ t, GG p e below T41 (mkF m 60 #[.val (.ref xs), .val (.int (0 : Int32)), .val (.int (0 : Int32)), .val (.int (1 : Int32)), .val (.int c1)] [(.int (8221 : Int32)), (.int c1)]) t → Steps p.tables e below s0 t := fun t kk_ => P42 t (by
      refine XS.istore X41.here hx rfl (hb hby d_closing_39) rfl (l' := #[.val (.ref xs), .val (.int (0 : Int32)), .val (.int (0 : Int32)), .val (.int (1 : Int32)), .val (.int c1)]) rfl ?_
      refine XS.iloadN X41.here hx rfl (hb hby d_closing_41) rfl ?_
      refine XS.ifYes X41.here hx rfl (pc0 := 42) (pc' := 55) rfl (hb hby d_closing_42) rfl ((if0 _ _).trans (teq ((by decide) : (0 : Int32) = (0 : Int32))).1) (by decide) (by decide) ?_
      refine XS.iload X41.here hx rfl (hb hby d_closing_55) rfl ?_
      refine XS.sipush X41.here hx rfl (hb hby d_closing_57) ?_
      exact kk_)
    by_cases hc60_44 : c1 = (8221 : Int32)
    ·
      have P45 : ∀ t, GG p e below T41 (mkF m 64 #[.val (.ref xs), .val (.int (0 : Int32)), .val (.int (0 : Int32)), .val (.int (1 : Int32)), .val (.int c1)] [(.int (1 : Int32))]) t → Steps p.tables e below s0 t := fun t kk_ => P43 t (by
        refine XS.icmpNo X41.here hx rfl (hb hby d_closing_60) rfl (teq (hc60_44 : c1 = (8221 : Int32))).2 ?_
        refine XS.iloadN X41.here hx rfl (hb hby d_closing_63) rfl ?_
        exact kk_)
      subst hs0
      obtain ⟨fs, hr, hrun, hended, hW, hsame⟩ := X41.leave (v := some (.int (1 : Int32))) (fun h => by rw [Bd.returns] at h; cases h)
      refine ⟨_, _, P45 _ ?_, hrun, hended, _, _, rfl, ?_, ⟨_, rfl⟩, hW, hsame.mono (by decide) (by decide)⟩
      · show GG p e below T41 (mkF m 64 #[.val (.ref xs), .val (.int (0 : Int32)), .val (.int (0 : Int32)), .val (.int (1 : Int32)), .val (.int c1)] [(.int (1 : Int32))]) _
        exact retI X41 hx Bd.returns (hb hby d_closing_64) hr
      · show Q_clo0 Z xs tb kb cd nB vs c0 c1 c2 c3 G1 G3 h0 n0 _ T41.heap _
        rw [e41]
        exact ⟨(1 : Int32), rfl, N41, rfl, (by simp [clo, hc9_5, hc60_44])⟩
    ·
      have P46 : ∀ t, GG p e below T41 (mkF m 74 #[.val (.ref xs), .val (.int (0 : Int32)), .val (.int (0 : Int32)), .val (.int (1 : Int32)), .val (.int c1)] [(.int (8220 : Int32)), (.int c1)]) t → Steps p.tables e below s0 t := fun t kk_ => P43 t (by
        refine XS.icmpYes X41.here hx rfl (pc0 := 60) (pc' := 65) rfl (hb hby d_closing_60) rfl (feq (hc60_44 : ¬ (c1 = (8221 : Int32)))).2 (by decide) (by decide) ?_
        refine XS.iloadN X41.here hx rfl (hb hby d_closing_65) rfl ?_
        refine XS.ifNo X41.here hx rfl (hb hby d_closing_66) rfl ((if0 _ _).trans (teq ((by decide) : (0 : Int32) = (0 : Int32))).2) ?_
        refine XS.iload X41.here hx rfl (hb hby d_closing_69) rfl ?_
        refine XS.sipush X41.here hx rfl (hb hby d_closing_71) ?_
        exact kk_)
      by_cases hc74_47 : c1 = (8220 : Int32)
      ·
        have P48 : ∀ t, GG p e below T41 (mkF m 78 #[.val (.ref xs), .val (.int (0 : Int32)), .val (.int (0 : Int32)), .val (.int (1 : Int32)), .val (.int c1)] [(.int (-1 : Int32))]) t → Steps p.tables e below s0 t := fun t kk_ => P46 t (by
          refine XS.icmpNo X41.here hx rfl (hb hby d_closing_74) rfl (teq (hc74_47 : c1 = (8220 : Int32))).2 ?_
          refine XS.iconst X41.here hx rfl (hb hby d_closing_77) ?_
          exact kk_)
        subst hs0
        obtain ⟨fs, hr, hrun, hended, hW, hsame⟩ := X41.leave (v := some (.int (-1 : Int32))) (fun h => by rw [Bd.returns] at h; cases h)
        refine ⟨_, _, P48 _ ?_, hrun, hended, _, _, rfl, ?_, ⟨_, rfl⟩, hW, hsame.mono (by decide) (by decide)⟩
        · show GG p e below T41 (mkF m 78 #[.val (.ref xs), .val (.int (0 : Int32)), .val (.int (0 : Int32)), .val (.int (1 : Int32)), .val (.int c1)] [(.int (-1 : Int32))]) _
          exact retI X41 hx Bd.returns (hb hby d_closing_78) hr
        · show Q_clo0 Z xs tb kb cd nB vs c0 c1 c2 c3 G1 G3 h0 n0 _ T41.heap _
          rw [e41]
          exact ⟨(-1 : Int32), rfl, N41, rfl, (by simp [clo, hc9_5, hc60_44, hc74_47])⟩
      ·
        have P49 : ∀ t, GG p e below T41 (mkF m 24 #[.val (.ref xs), .val (.int (0 : Int32)), .val (.int (0 : Int32)), .val (.int (2 : Int32)), .val (.int c1)] [(.ref xs), (.int (2 : Int32))]) t → Steps p.tables e below s0 t := fun t kk_ => P46 t (by
          refine XS.icmpYes X41.here hx rfl (pc0 := 74) (pc' := 79) rfl (hb hby d_closing_74) rfl (feq (hc74_47 : ¬ (c1 = (8220 : Int32)))).2 (by decide) (by decide) ?_
          refine XS.iinc X41.here hx rfl (hb hby d_closing_79) rfl (l' := #[.val (.ref xs), .val (.int (0 : Int32)), .val (.int (0 : Int32)), .val (.int (2 : Int32)), .val (.int c1)]) rfl ?_
          refine XS.goto X41.here hx rfl (pc0 := 82) (pc' := 22) rfl (hb hby d_closing_82) (by decide) (by decide) ?_
          refine XS.iloadN X41.here hx rfl (hb hby d_closing_22) rfl ?_
          refine XS.aloadN X41.here hx rfl (hb hby d_closing_23) rfl rfl ?_
          exact kk_)
        obtain ⟨cq50, kq50, q50a, q50b, q50c⟩ := isOf hZ e41 E_xs
        obtain ⟨_, _, ⟨T50, L50, k50, n50⟩, -, X50, ⟨Lc50, hQ50, l50, y50, z50⟩, st50⟩ := X41.interfaceBack hx (xi := mn_20) (y := mn_21) hown (mw hZ hw 95 rfl) (mw hZ hw 96 rfl) (mw hZ hw 97 rfl) (mw hZ hw 98 rfl) (mw hZ hw 99 rfl) (mw hZ hw 100 rfl) (mw hZ hw 101 rfl) (mw hZ hw 71 rfl) (by decide) (backOf (W := 1) (rm_len4 l Z a0 hw [] xs tb kb cd nB vs c0 c1 c2 c3 G1 h0 n0 (Nat.le_trans Z0 (Nat.le_refl h0.size)) E_xs F_value_xs F_coder_xs V_tb S_COMPACT_STRINGS OL hz s4) hZ (ww hw 102 rfl) (ww hw 8 rfl) (by decide) (by decide)) q50a q50b q50c (g := (mkF m 24 #[.val (.ref xs), .val (.int (0 : Int32)), .val (.int (0 : Int32)), .val (.int (2 : Int32)), .val (.int c1)] [(.ref xs), (.int (2 : Int32))])) rfl (by rw [hml]; rfl) (Steps.refl _) (argsL := []) (rest := [(.int (2 : Int32))]) (lenOf pd_16 rfl) rfl (by show 2 * 0 + _ ≤ _; exact Nat.le_of_eq rfl) (hb hby d_closing_24) (fun _ _ => ⟨rfl, e41, (by decide : 0 + 0 ≤ _), (by decide : 0 + 0 ≤ _)⟩)
        dsimp only [Pt.U, Pt.locs, Pt.cells, Pt.slots] at X50 l50 y50 z50 st50 hQ50
        subst l50 y50 z50
        obtain ⟨rfl, N50q, e50⟩ := hQ50
        have N50 := Fr.app N41 N50q
        have P51 : ∀ t, GG p e below T50 (mkF m 29 #[.val (.ref xs), .val (.int (0 : Int32)), .val (.int (0 : Int32)), .val (.int (2 : Int32)), .val (.int c1)] [(.int (4 : Int32)), (.int (2 : Int32))]) t → Steps p.tables e below s0 t := fun t kk_ => P49 t (st50.trans kk_)
        have P52 : ∀ t, GG p e below T50 (mkF m 34 #[.val (.ref xs), .val (.int (0 : Int32)), .val (.int (0 : Int32)), .val (.int (2 : Int32)), .val (.int c1)] [(.int (2 : Int32)), (.ref xs)]) t → Steps p.tables e below s0 t := fun t kk_ => P51 t (by
          refine XS.icmpNo X50.here hx rfl (hb hby d_closing_29) rfl (tlt ((by decide) : (2 : Int32) < (4 : Int32))).2.1 ?_
          refine XS.aloadN X50.here hx rfl (hb hby d_closing_32) rfl rfl ?_
          refine XS.iloadN X50.here hx rfl (hb hby d_closing_33) rfl ?_
          exact kk_)
        obtain ⟨cq53, kq53, q53a, q53b, q53c⟩ := isOf hZ e50 E_xs
        obtain ⟨_, _, ⟨T53, L53, k53, n53⟩, -, X53, ⟨Lc53, hQ53, l53, y53, z53⟩, st53⟩ := X50.interfaceBack hx (xi := mn_18) (y := mn_19) hown (mw hZ hw 64 rfl) (mw hZ hw 65 rfl) (mw hZ hw 66 rfl) (mw hZ hw 67 rfl) (mw hZ hw 68 rfl) (mw hZ hw 69 rfl) (mw hZ hw 70 rfl) (mw hZ hw 71 rfl) (by decide) (backOf (W := 0) (rm_sCh2 l Z a0 hw [] xs tb kb cd nB vs c0 c1 c2 c3 G1 G3 h0 n0 (Nat.le_trans Z0 (Nat.le_refl h0.size)) E_xs F_value_xs F_coder_xs V_tb S_COMPACT_STRINGS S__assertionsDisabled S_HI_BYTE_SHIFT S_LO_BYTE_SHIFT S_SIOOBE_FORMATTER OL hz rG3 s4 ic0 ic1 ic2 ic3) hZ (ww hw 72 rfl) (ww hw 8 rfl) (by decide) (by decide)) q53a q53b q53c (g := (mkF m 34 #[.val (.ref xs), .val (.int (0 : Int32)), .val (.int (0 : Int32)), .val (.int (2 : Int32)), .val (.int c1)] [(.int (2 : Int32)), (.ref xs)])) rfl (by rw [hml]; rfl) (Steps.refl _) (argsL := [(.int (2 : Int32))]) (rest := []) (lenOf pd_15 rfl) rfl (by show 2 * 0 + _ ≤ _; exact Nat.le_of_eq rfl) (hb hby d_closing_34) (fun _ _ => ⟨rfl, e50, (by decide : 0 + 0 ≤ _), (by decide : 0 + 0 ≤ _)⟩)
        dsimp only [Pt.U, Pt.locs, Pt.cells, Pt.slots] at X53 l53 y53 z53 st53 hQ53
        subst l53 y53 z53
        obtain ⟨rfl, N53q, e53⟩ := hQ53
        have N53 := Fr.app N50 N53q
        have P54 : ∀ t, GG p e below T53 (mkF m 39 #[.val (.ref xs), .val (.int (0 : Int32)), .val (.int (0 : Int32)), .val (.int (2 : Int32)), .val (.int c1)] [(.int c2)]) t → Steps p.tables e below s0 t := fun t kk_ => P52 t (st53.trans kk_)
        have P55 : ∀ t, GG p e below T53 (mkF m 60 #[.val (.ref xs), .val (.int (0 : Int32)), .val (.int (0 : Int32)), .val (.int (2 : Int32)), .val (.int c2)] [(.int (8221 : Int32)), (.int c2)]) t → Steps p.tables e below s0 t := fun t kk_ => P54 t (by
          refine XS.istore X53.here hx rfl (hb hby d_closing_39) rfl (l' := #[.val (.ref xs), .val (.int (0 : Int32)), .val (.int (0 : Int32)), .val (.int (2 : Int32)), .val (.int c2)]) rfl ?_
          refine XS.iloadN X53.here hx rfl (hb hby d_closing_41) rfl ?_
          refine XS.ifYes X53.here hx rfl (pc0 := 42) (pc' := 55) rfl (hb hby d_closing_42) rfl ((if0 _ _).trans (teq ((by decide) : (0 : Int32) = (0 : Int32))).1) (by decide) (by decide) ?_
          refine XS.iload X53.here hx rfl (hb hby d_closing_55) rfl ?_
          refine XS.sipush X53.here hx rfl (hb hby d_closing_57) ?_
          exact kk_)
        by_cases hc60_56 : c2 = (8221 : Int32)
        ·
          have P57 : ∀ t, GG p e below T53 (mkF m 64 #[.val (.ref xs), .val (.int (0 : Int32)), .val (.int (0 : Int32)), .val (.int (2 : Int32)), .val (.int c2)] [(.int (2 : Int32))]) t → Steps p.tables e below s0 t := fun t kk_ => P55 t (by
            refine XS.icmpNo X53.here hx rfl (hb hby d_closing_60) rfl (teq (hc60_56 : c2 = (8221 : Int32))).2 ?_
            refine XS.iloadN X53.here hx rfl (hb hby d_closing_63) rfl ?_
            exact kk_)
          subst hs0
          obtain ⟨fs, hr, hrun, hended, hW, hsame⟩ := X53.leave (v := some (.int (2 : Int32))) (fun h => by rw [Bd.returns] at h; cases h)
          refine ⟨_, _, P57 _ ?_, hrun, hended, _, _, rfl, ?_, ⟨_, rfl⟩, hW, hsame.mono (by decide) (by decide)⟩
          · show GG p e below T53 (mkF m 64 #[.val (.ref xs), .val (.int (0 : Int32)), .val (.int (0 : Int32)), .val (.int (2 : Int32)), .val (.int c2)] [(.int (2 : Int32))]) _
            exact retI X53 hx Bd.returns (hb hby d_closing_64) hr
          · show Q_clo0 Z xs tb kb cd nB vs c0 c1 c2 c3 G1 G3 h0 n0 _ T53.heap _
            rw [e53]
            exact ⟨(2 : Int32), rfl, N53, rfl, (by simp [clo, hc9_5, hc60_44, hc74_47, hc60_56])⟩
        ·
          have P58 : ∀ t, GG p e below T53 (mkF m 74 #[.val (.ref xs), .val (.int (0 : Int32)), .val (.int (0 : Int32)), .val (.int (2 : Int32)), .val (.int c2)] [(.int (8220 : Int32)), (.int c2)]) t → Steps p.tables e below s0 t := fun t kk_ => P55 t (by
            refine XS.icmpYes X53.here hx rfl (pc0 := 60) (pc' := 65) rfl (hb hby d_closing_60) rfl (feq (hc60_56 : ¬ (c2 = (8221 : Int32)))).2 (by decide) (by decide) ?_
            refine XS.iloadN X53.here hx rfl (hb hby d_closing_65) rfl ?_
            refine XS.ifNo X53.here hx rfl (hb hby d_closing_66) rfl ((if0 _ _).trans (teq ((by decide) : (0 : Int32) = (0 : Int32))).2) ?_
            refine XS.iload X53.here hx rfl (hb hby d_closing_69) rfl ?_
            refine XS.sipush X53.here hx rfl (hb hby d_closing_71) ?_
            exact kk_)
          by_cases hc74_59 : c2 = (8220 : Int32)
          ·
            have P60 : ∀ t, GG p e below T53 (mkF m 78 #[.val (.ref xs), .val (.int (0 : Int32)), .val (.int (0 : Int32)), .val (.int (2 : Int32)), .val (.int c2)] [(.int (-1 : Int32))]) t → Steps p.tables e below s0 t := fun t kk_ => P58 t (by
              refine XS.icmpNo X53.here hx rfl (hb hby d_closing_74) rfl (teq (hc74_59 : c2 = (8220 : Int32))).2 ?_
              refine XS.iconst X53.here hx rfl (hb hby d_closing_77) ?_
              exact kk_)
            subst hs0
            obtain ⟨fs, hr, hrun, hended, hW, hsame⟩ := X53.leave (v := some (.int (-1 : Int32))) (fun h => by rw [Bd.returns] at h; cases h)
            refine ⟨_, _, P60 _ ?_, hrun, hended, _, _, rfl, ?_, ⟨_, rfl⟩, hW, hsame.mono (by decide) (by decide)⟩
            · show GG p e below T53 (mkF m 78 #[.val (.ref xs), .val (.int (0 : Int32)), .val (.int (0 : Int32)), .val (.int (2 : Int32)), .val (.int c2)] [(.int (-1 : Int32))]) _
              exact retI X53 hx Bd.returns (hb hby d_closing_78) hr
            · show Q_clo0 Z xs tb kb cd nB vs c0 c1 c2 c3 G1 G3 h0 n0 _ T53.heap _
              rw [e53]
              exact ⟨(-1 : Int32), rfl, N53, rfl, (by simp [clo, hc9_5, hc60_44, hc74_47, hc60_56, hc74_59])⟩
          ·
            have P61 : ∀ t, GG p e below T53 (mkF m 24 #[.val (.ref xs), .val (.int (0 : Int32)), .val (.int (0 : Int32)), .val (.int (3 : Int32)), .val (.int c2)] [(.ref xs), (.int (3 : Int32))]) t → Steps p.tables e below s0 t := fun t kk_ => P58 t (by
              refine XS.icmpYes X53.here hx rfl (pc0 := 74) (pc' := 79) rfl (hb hby d_closing_74) rfl (feq (hc74_59 : ¬ (c2 = (8220 : Int32)))).2 (by decide) (by decide) ?_
              refine XS.iinc X53.here hx rfl (hb hby d_closing_79) rfl (l' := #[.val (.ref xs), .val (.int (0 : Int32)), .val (.int (0 : Int32)), .val (.int (3 : Int32)), .val (.int c2)]) rfl ?_
              refine XS.goto X53.here hx rfl (pc0 := 82) (pc' := 22) rfl (hb hby d_closing_82) (by decide) (by decide) ?_
              refine XS.iloadN X53.here hx rfl (hb hby d_closing_22) rfl ?_
              refine XS.aloadN X53.here hx rfl (hb hby d_closing_23) rfl rfl ?_
              exact kk_)
            obtain ⟨cq62, kq62, q62a, q62b, q62c⟩ := isOf hZ e53 E_xs
            obtain ⟨_, _, ⟨T62, L62, k62, n62⟩, -, X62, ⟨Lc62, hQ62, l62, y62, z62⟩, st62⟩ := X53.interfaceBack hx (xi := mn_20) (y := mn_21) hown (mw hZ hw 95 rfl) (mw hZ hw 96 rfl) (mw hZ hw 97 rfl) (mw hZ hw 98 rfl) (mw hZ hw 99 rfl) (mw hZ hw 100 rfl) (mw hZ hw 101 rfl) (mw hZ hw 71 rfl) (by decide) (backOf (W := 1) (rm_len4 l Z a0 hw [] xs tb kb cd nB vs c0 c1 c2 c3 G1 h0 n0 (Nat.le_trans Z0 (Nat.le_refl h0.size)) E_xs F_value_xs F_coder_xs V_tb S_COMPACT_STRINGS OL hz s4) hZ (ww hw 102 rfl) (ww hw 8 rfl) (by decide) (by decide)) q62a q62b q62c (g := (mkF m 24 #[.val (.ref xs), .val (.int (0 : Int32)), .val (.int (0 : Int32)), .val (.int (3 : Int32)), .val (.int c2)] [(.ref xs), (.int (3 : Int32))])) rfl (by rw [hml]; rfl) (Steps.refl _) (argsL := []) (rest := [(.int (3 : Int32))]) (lenOf pd_16 rfl) rfl (by show 2 * 0 + _ ≤ _; exact Nat.le_of_eq rfl) (hb hby d_closing_24) (fun _ _ => ⟨rfl, e53, (by decide : 0 + 0 ≤ _), (by decide : 0 + 0 ≤ _)⟩)
            dsimp only [Pt.U, Pt.locs, Pt.cells, Pt.slots] at X62 l62 y62 z62 st62 hQ62
            subst l62 y62 z62
            obtain ⟨rfl, N62q, e62⟩ := hQ62
            have N62 := Fr.app N53 N62q
            have P63 : ∀ t, GG p e below T62 (mkF m 29 #[.val (.ref xs), .val (.int (0 : Int32)), .val (.int (0 : Int32)), .val (.int (3 : Int32)), .val (.int c2)] [(.int (4 : Int32)), (.int (3 : Int32))]) t → Steps p.tables e below s0 t := fun t kk_ => P61 t (st62.trans kk_)
            have P64 : ∀ t, GG p e below T62 (mkF m 34 #[.val (.ref xs), .val (.int (0 : Int32)), .val (.int (0 : Int32)), .val (.int (3 : Int32)), .val (.int c2)] [(.int (3 : Int32)), (.ref xs)]) t → Steps p.tables e below s0 t := fun t kk_ => P63 t (by
              refine XS.icmpNo X62.here hx rfl (hb hby d_closing_29) rfl (tlt ((by decide) : (3 : Int32) < (4 : Int32))).2.1 ?_
              refine XS.aloadN X62.here hx rfl (hb hby d_closing_32) rfl rfl ?_
              refine XS.iloadN X62.here hx rfl (hb hby d_closing_33) rfl ?_
              exact kk_)
            obtain ⟨cq65, kq65, q65a, q65b, q65c⟩ := isOf hZ e62 E_xs
            obtain ⟨_, _, ⟨T65, L65, k65, n65⟩, -, X65, ⟨Lc65, hQ65, l65, y65, z65⟩, st65⟩ := X62.interfaceBack hx (xi := mn_18) (y := mn_19) hown (mw hZ hw 64 rfl) (mw hZ hw 65 rfl) (mw hZ hw 66 rfl) (mw hZ hw 67 rfl) (mw hZ hw 68 rfl) (mw hZ hw 69 rfl) (mw hZ hw 70 rfl) (mw hZ hw 71 rfl) (by decide) (backOf (W := 0) (rm_sCh3 l Z a0 hw [] xs tb kb cd nB vs c0 c1 c2 c3 G1 G3 h0 n0 (Nat.le_trans Z0 (Nat.le_refl h0.size)) E_xs F_value_xs F_coder_xs V_tb S_COMPACT_STRINGS S__assertionsDisabled S_HI_BYTE_SHIFT S_LO_BYTE_SHIFT S_SIOOBE_FORMATTER OL hz rG3 s4 ic0 ic1 ic2 ic3) hZ (ww hw 72 rfl) (ww hw 8 rfl) (by decide) (by decide)) q65a q65b q65c (g := (mkF m 34 #[.val (.ref xs), .val (.int (0 : Int32)), .val (.int (0 : Int32)), .val (.int (3 : Int32)), .val (.int c2)] [(.int (3 : Int32)), (.ref xs)])) rfl (by rw [hml]; rfl) (Steps.refl _) (argsL := [(.int (3 : Int32))]) (rest := []) (lenOf pd_15 rfl) rfl (by show 2 * 0 + _ ≤ _; exact Nat.le_of_eq rfl) (hb hby d_closing_34) (fun _ _ => ⟨rfl, e62, (by decide : 0 + 0 ≤ _), (by decide : 0 + 0 ≤ _)⟩)
            dsimp only [Pt.U, Pt.locs, Pt.cells, Pt.slots] at X65 l65 y65 z65 st65 hQ65
            subst l65 y65 z65
            obtain ⟨rfl, N65q, e65⟩ := hQ65
            have N65 := Fr.app N62 N65q
            have P66 : ∀ t, GG p e below T65 (mkF m 39 #[.val (.ref xs), .val (.int (0 : Int32)), .val (.int (0 : Int32)), .val (.int (3 : Int32)), .val (.int c2)] [(.int c3)]) t → Steps p.tables e below s0 t := fun t kk_ => P64 t (st65.trans kk_)
            have P67 : ∀ t, GG p e below T65 (mkF m 60 #[.val (.ref xs), .val (.int (0 : Int32)), .val (.int (0 : Int32)), .val (.int (3 : Int32)), .val (.int c3)] [(.int (8221 : Int32)), (.int c3)]) t → Steps p.tables e below s0 t := fun t kk_ => P66 t (by
              refine XS.istore X65.here hx rfl (hb hby d_closing_39) rfl (l' := #[.val (.ref xs), .val (.int (0 : Int32)), .val (.int (0 : Int32)), .val (.int (3 : Int32)), .val (.int c3)]) rfl ?_
              refine XS.iloadN X65.here hx rfl (hb hby d_closing_41) rfl ?_
              refine XS.ifYes X65.here hx rfl (pc0 := 42) (pc' := 55) rfl (hb hby d_closing_42) rfl ((if0 _ _).trans (teq ((by decide) : (0 : Int32) = (0 : Int32))).1) (by decide) (by decide) ?_
              refine XS.iload X65.here hx rfl (hb hby d_closing_55) rfl ?_
              refine XS.sipush X65.here hx rfl (hb hby d_closing_57) ?_
              exact kk_)
            by_cases hc60_68 : c3 = (8221 : Int32)
            ·
              have P69 : ∀ t, GG p e below T65 (mkF m 64 #[.val (.ref xs), .val (.int (0 : Int32)), .val (.int (0 : Int32)), .val (.int (3 : Int32)), .val (.int c3)] [(.int (3 : Int32))]) t → Steps p.tables e below s0 t := fun t kk_ => P67 t (by
                refine XS.icmpNo X65.here hx rfl (hb hby d_closing_60) rfl (teq (hc60_68 : c3 = (8221 : Int32))).2 ?_
                refine XS.iloadN X65.here hx rfl (hb hby d_closing_63) rfl ?_
                exact kk_)
              subst hs0
              obtain ⟨fs, hr, hrun, hended, hW, hsame⟩ := X65.leave (v := some (.int (3 : Int32))) (fun h => by rw [Bd.returns] at h; cases h)
              refine ⟨_, _, P69 _ ?_, hrun, hended, _, _, rfl, ?_, ⟨_, rfl⟩, hW, hsame.mono (by decide) (by decide)⟩
              · show GG p e below T65 (mkF m 64 #[.val (.ref xs), .val (.int (0 : Int32)), .val (.int (0 : Int32)), .val (.int (3 : Int32)), .val (.int c3)] [(.int (3 : Int32))]) _
                exact retI X65 hx Bd.returns (hb hby d_closing_64) hr
              · show Q_clo0 Z xs tb kb cd nB vs c0 c1 c2 c3 G1 G3 h0 n0 _ T65.heap _
                rw [e65]
                exact ⟨(3 : Int32), rfl, N65, rfl, (by simp [clo, hc9_5, hc60_44, hc74_47, hc60_56, hc74_59, hc60_68])⟩
            ·
              have P70 : ∀ t, GG p e below T65 (mkF m 74 #[.val (.ref xs), .val (.int (0 : Int32)), .val (.int (0 : Int32)), .val (.int (3 : Int32)), .val (.int c3)] [(.int (8220 : Int32)), (.int c3)]) t → Steps p.tables e below s0 t := fun t kk_ => P67 t (by
                refine XS.icmpYes X65.here hx rfl (pc0 := 60) (pc' := 65) rfl (hb hby d_closing_60) rfl (feq (hc60_68 : ¬ (c3 = (8221 : Int32)))).2 (by decide) (by decide) ?_
                refine XS.iloadN X65.here hx rfl (hb hby d_closing_65) rfl ?_
                refine XS.ifNo X65.here hx rfl (hb hby d_closing_66) rfl ((if0 _ _).trans (teq ((by decide) : (0 : Int32) = (0 : Int32))).2) ?_
                refine XS.iload X65.here hx rfl (hb hby d_closing_69) rfl ?_
                refine XS.sipush X65.here hx rfl (hb hby d_closing_71) ?_
                exact kk_)
              by_cases hc74_71 : c3 = (8220 : Int32)
              ·
                have P72 : ∀ t, GG p e below T65 (mkF m 78 #[.val (.ref xs), .val (.int (0 : Int32)), .val (.int (0 : Int32)), .val (.int (3 : Int32)), .val (.int c3)] [(.int (-1 : Int32))]) t → Steps p.tables e below s0 t := fun t kk_ => P70 t (by
                  refine XS.icmpNo X65.here hx rfl (hb hby d_closing_74) rfl (teq (hc74_71 : c3 = (8220 : Int32))).2 ?_
                  refine XS.iconst X65.here hx rfl (hb hby d_closing_77) ?_
                  exact kk_)
                subst hs0
                obtain ⟨fs, hr, hrun, hended, hW, hsame⟩ := X65.leave (v := some (.int (-1 : Int32))) (fun h => by rw [Bd.returns] at h; cases h)
                refine ⟨_, _, P72 _ ?_, hrun, hended, _, _, rfl, ?_, ⟨_, rfl⟩, hW, hsame.mono (by decide) (by decide)⟩
                · show GG p e below T65 (mkF m 78 #[.val (.ref xs), .val (.int (0 : Int32)), .val (.int (0 : Int32)), .val (.int (3 : Int32)), .val (.int c3)] [(.int (-1 : Int32))]) _
                  exact retI X65 hx Bd.returns (hb hby d_closing_78) hr
                · show Q_clo0 Z xs tb kb cd nB vs c0 c1 c2 c3 G1 G3 h0 n0 _ T65.heap _
                  rw [e65]
                  exact ⟨(-1 : Int32), rfl, N65, rfl, (by simp [clo, hc9_5, hc60_44, hc74_47, hc60_56, hc74_59, hc60_68, hc74_71])⟩
              ·
                have P73 : ∀ t, GG p e below T65 (mkF m 24 #[.val (.ref xs), .val (.int (0 : Int32)), .val (.int (0 : Int32)), .val (.int (4 : Int32)), .val (.int c3)] [(.ref xs), (.int (4 : Int32))]) t → Steps p.tables e below s0 t := fun t kk_ => P70 t (by
                  refine XS.icmpYes X65.here hx rfl (pc0 := 74) (pc' := 79) rfl (hb hby d_closing_74) rfl (feq (hc74_71 : ¬ (c3 = (8220 : Int32)))).2 (by decide) (by decide) ?_
                  refine XS.iinc X65.here hx rfl (hb hby d_closing_79) rfl (l' := #[.val (.ref xs), .val (.int (0 : Int32)), .val (.int (0 : Int32)), .val (.int (4 : Int32)), .val (.int c3)]) rfl ?_
                  refine XS.goto X65.here hx rfl (pc0 := 82) (pc' := 22) rfl (hb hby d_closing_82) (by decide) (by decide) ?_
                  refine XS.iloadN X65.here hx rfl (hb hby d_closing_22) rfl ?_
                  refine XS.aloadN X65.here hx rfl (hb hby d_closing_23) rfl rfl ?_
                  exact kk_)
                obtain ⟨cq74, kq74, q74a, q74b, q74c⟩ := isOf hZ e65 E_xs
                obtain ⟨_, _, ⟨T74, L74, k74, n74⟩, -, X74, ⟨Lc74, hQ74, l74, y74, z74⟩, st74⟩ := X65.interfaceBack hx (xi := mn_20) (y := mn_21) hown (mw hZ hw 95 rfl) (mw hZ hw 96 rfl) (mw hZ hw 97 rfl) (mw hZ hw 98 rfl) (mw hZ hw 99 rfl) (mw hZ hw 100 rfl) (mw hZ hw 101 rfl) (mw hZ hw 71 rfl) (by decide) (backOf (W := 1) (rm_len4 l Z a0 hw [] xs tb kb cd nB vs c0 c1 c2 c3 G1 h0 n0 (Nat.le_trans Z0 (Nat.le_refl h0.size)) E_xs F_value_xs F_coder_xs V_tb S_COMPACT_STRINGS OL hz s4) hZ (ww hw 102 rfl) (ww hw 8 rfl) (by decide) (by decide)) q74a q74b q74c (g := (mkF m 24 #[.val (.ref xs), .val (.int (0 : Int32)), .val (.int (0 : Int32)), .val (.int (4 : Int32)), .val (.int c3)] [(.ref xs), (.int (4 : Int32))])) rfl (by rw [hml]; rfl) (Steps.refl _) (argsL := []) (rest := [(.int (4 : Int32))]) (lenOf pd_16 rfl) rfl (by show 2 * 0 + _ ≤ _; exact Nat.le_of_eq rfl) (hb hby d_closing_24) (fun _ _ => ⟨rfl, e65, (by decide : 0 + 0 ≤ _), (by decide : 0 + 0 ≤ _)⟩)
                dsimp only [Pt.U, Pt.locs, Pt.cells, Pt.slots] at X74 l74 y74 z74 st74 hQ74
                subst l74 y74 z74
                obtain ⟨rfl, N74q, e74⟩ := hQ74
                have N74 := Fr.app N65 N74q
                have P75 : ∀ t, GG p e below T74 (mkF m 29 #[.val (.ref xs), .val (.int (0 : Int32)), .val (.int (0 : Int32)), .val (.int (4 : Int32)), .val (.int c3)] [(.int (4 : Int32)), (.int (4 : Int32))]) t → Steps p.tables e below s0 t := fun t kk_ => P73 t (st74.trans kk_)
                have P76 : ∀ t, GG p e below T74 (mkF m 86 #[.val (.ref xs), .val (.int (0 : Int32)), .val (.int (0 : Int32)), .val (.int (4 : Int32)), .val (.int c3)] [(.int (-1 : Int32))]) t → Steps p.tables e below s0 t := fun t kk_ => P75 t (by
                  refine XS.icmpYes X74.here hx rfl (pc0 := 29) (pc' := 85) rfl (hb hby d_closing_29) rfl (flt ((by decide) : ¬ ((4 : Int32) < (4 : Int32)))).2.1 (by decide) (by decide) ?_
                  refine XS.iconst X74.here hx rfl (hb hby d_closing_85) ?_
                  exact kk_)
                subst hs0
                obtain ⟨fs, hr, hrun, hended, hW, hsame⟩ := X74.leave (v := some (.int (-1 : Int32))) (fun h => by rw [Bd.returns] at h; cases h)
                refine ⟨_, _, P76 _ ?_, hrun, hended, _, _, rfl, ?_, ⟨_, rfl⟩, hW, hsame.mono (by decide) (by decide)⟩
                · show GG p e below T74 (mkF m 86 #[.val (.ref xs), .val (.int (0 : Int32)), .val (.int (0 : Int32)), .val (.int (4 : Int32)), .val (.int c3)] [(.int (-1 : Int32))]) _
                  exact retI X74 hx Bd.returns (hb hby d_closing_86) hr
                · show Q_clo0 Z xs tb kb cd nB vs c0 c1 c2 c3 G1 G3 h0 n0 _ T74.heap _
                  rw [e74]
                  exact ⟨(-1 : Int32), rfl, N74, rfl, (by simp [clo, hc9_5, hc60_44, hc74_47, hc60_56, hc74_59, hc60_68, hc74_71])⟩
theorem ef_clo1 (m : MethodId) (x0 : Addr) : entryFrame m #[(.ref x0), (.int (1 : Int32))] 5 = mkF m 0 #[.val (.ref x0), .val (.int (1 : Int32)), .unset, .unset, .unset] [] := by first | (simp [entryFrame, mkF, argsToLocals, Value.category]; done) | rfl
def Q_clo1 (Z : State) (xs : Addr) (tb : Addr) (kb : ClassId) (cd : Int32) (nB : Int32) (vs : List Value) (c0 : Int32) (c1 : Int32) (c2 : Int32) (c3 : Int32) (G1 : Int32) (G3 : Value) (h0 : Heap) (n0 : Nat) (v : Option Value) (h : Heap) (L : List Loc) : Prop := ∃ (r : Int32), v = some (.int r) ∧ Fr n0 L ∧ h = h0 ∧ (r = clo (decide (c1 = 34)) [((2 : Int32), c2), ((3 : Int32), c3)])
set_option maxRecDepth 65536 in
set_option maxHeartbeats 40000000 in
theorem rm_clo1 (l : Launch) (Z : State) (a0 : Array Value) (hw : ∀ d ∈ tables_1, d.before a0 Z = true) (ws : List Jvm.Cond) (xs : Addr) (tb : Addr) (kb : ClassId) (cd : Int32) (nB : Int32) (vs : List Value) (c0 : Int32) (c1 : Int32) (c2 : Int32) (c3 : Int32) (G1 : Int32) (G3 : Value) (h0 : Heap) (n0 : Nat) (Z0 : n0 ≤ h0.size) (E_xs : Exa Z h0 xs "java/lang/String") (F_value_xs : Fld Z h0 xs "java/lang/String" "value" "[B" (.ref tb)) (F_coder_xs : Fld Z h0 xs "java/lang/String" "coder" "B" (.int cd)) (V_tb : Arv Z h0 tb kb .byte nB vs (.int (0 : Int32))) (S_COMPACT_STRINGS : Sta Z Z.heap "java/lang/String" "COMPACT_STRINGS" "Z" (.int G1)) (S__assertionsDisabled : Sta Z Z.heap "java/lang/StringUTF16" "$assertionsDisabled" "Z" (.int (1 : Int32))) (S_HI_BYTE_SHIFT : Sta Z Z.heap "java/lang/StringUTF16" "HI_BYTE_SHIFT" "I" (.int (0 : Int32))) (S_LO_BYTE_SHIFT : Sta Z Z.heap "java/lang/StringUTF16" "LO_BYTE_SHIFT" "I" (.int (8 : Int32))) (S_SIOOBE_FORMATTER : Sta Z Z.heap "jdk/internal/util/Preconditions" "SIOOBE_FORMATTER" "Ljava/util/function/BiFunction;" G3) (OL : Old Z n0 h0) (hz : ¬ G1 = 0) (rG3 : G3.isRef = true) (s4 : Str4 c0 c1 c2 c3 cd nB vs) (ic0 : isC c0) (ic1 : isC c1) (ic2 : isC c2) (ic3 : isC c3) :
    MetFree l (⟨"com/example/planscribe/planscribe/terms/Quotes", "closing", "(Ljava/lang/CharSequence;I)I"⟩ : MethodName) (head1 (Jvm.Cond.code (⟨"com/example/planscribe/planscribe/terms/Quotes", "closing", "(Ljava/lang/CharSequence;I)I"⟩ : MethodName) prog_75_method_3_code 5 (some .int) :: ws) ({ frames := 5, cells := 0, slots := 0, locals := 66 } : Room)) (fun a U => a = #[(.ref xs), (.int (1 : Int32))] ∧ Z.Warmed39 U.vm ∧ U.heap = h0) (fun _ _ _ _ _ => True) (fun _ U o U' => ∃ v L, o = .returned v ∧ Q_clo1 Z xs tb kb cd nB vs c0 c1 c2 c3 G1 G3 h0 n0 v U'.heap L ∧ FrameEnd U o U' L ({ frames := 5, cells := 0, slots := 0, locals := 66 } : Room).cells ({ frames := 5, cells := 0, slots := 0, locals := 66 } : Room).slots) := by
  refine MetFree.of_bodySF (plainFor_of_name pn_5) hisR ?_
  intro p e s m args below meth c s₁ Bd hml0 hP hK
  obtain ⟨rfl, hZ, hh⟩ := hP
  have hx := Bd.exec
  have hby := Bd.bytes
  have hml : c.maxLocals = 5 := hml0
  have hown : s.vm.findClass "com/example/planscribe/planscribe/terms/Quotes" = some m.cls := findClass_of_methodNamed Bd.named
  have hnm := (name_of_methodNamed Bd.named Bd.method).1
  have X0 : Stand p l e ({ frames := 5, cells := 0, slots := 0, locals := 66 } : Room) s m #[(.ref xs), (.int (1 : Int32))] below meth c s₁ [] 0 0 := Stand.of_body Bd
  have e0 : s₁.heap = h0 := by rw [← hh, Bd.state]; rfl
  have N0 := Fr.nil n0
  obtain ⟨s0, hs0⟩ : ∃ z, z = (s₁.setTop (entryFrame m #[(.ref xs), (.int (1 : Int32))] 5)) := ⟨_, rfl⟩
  have P0 : ∀ t, GG p e below s₁ (mkF m 0 #[.val (.ref xs), .val (.int (1 : Int32)), .unset, .unset, .unset] []) t → Steps p.tables e below s0 t := fun t kk_ => by rw [hs0]; exact castTop (ef_clo1 m xs) kk_
  have P1 : ∀ t, GG p e below s₁ (mkF m 2 #[.val (.ref xs), .val (.int (1 : Int32)), .unset, .unset, .unset] [(.int (1 : Int32)), (.ref xs)]) t → Steps p.tables e below s0 t := fun t kk_ => P0 t (by
    refine XS.aloadN X0.here hx rfl (hb hby d_closing_0) rfl rfl ?_
    refine XS.iloadN X0.here hx rfl (hb hby d_closing_1) rfl ?_
    exact kk_)
  obtain ⟨cq2, kq2, q2a, q2b, q2c⟩ := isOf hZ e0 E_xs
  obtain ⟨_, _, ⟨T2, L2, k2, n2⟩, -, X2, ⟨Lc2, hQ2, l2, y2, z2⟩, st2⟩ := X0.interfaceBack hx (xi := mn_18) (y := mn_19) hown (mw hZ hw 64 rfl) (mw hZ hw 65 rfl) (mw hZ hw 66 rfl) (mw hZ hw 67 rfl) (mw hZ hw 68 rfl) (mw hZ hw 69 rfl) (mw hZ hw 70 rfl) (mw hZ hw 71 rfl) (by decide) (backOf (W := 0) (rm_sCh1 l Z a0 hw [] xs tb kb cd nB vs c0 c1 c2 c3 G1 G3 h0 n0 (Nat.le_trans Z0 (Nat.le_refl h0.size)) E_xs F_value_xs F_coder_xs V_tb S_COMPACT_STRINGS S__assertionsDisabled S_HI_BYTE_SHIFT S_LO_BYTE_SHIFT S_SIOOBE_FORMATTER OL hz rG3 s4 ic0 ic1 ic2 ic3) hZ (ww hw 72 rfl) (ww hw 8 rfl) (by decide) (by decide)) q2a q2b q2c (g := (mkF m 2 #[.val (.ref xs), .val (.int (1 : Int32)), .unset, .unset, .unset] [(.int (1 : Int32)), (.ref xs)])) rfl (by rw [hml]; rfl) (Steps.refl _) (argsL := [(.int (1 : Int32))]) (rest := []) (lenOf pd_15 rfl) rfl (by show 2 * 0 + _ ≤ _; exact Nat.le_of_eq rfl) (hb hby d_closing_2) (fun _ _ => ⟨rfl, e0, (by decide : 0 + 0 ≤ _), (by decide : 0 + 0 ≤ _)⟩)
  dsimp only [Pt.U, Pt.locs, Pt.cells, Pt.slots] at X2 l2 y2 z2 st2 hQ2
  subst l2 y2 z2
  obtain ⟨rfl, N2q, e2⟩ := hQ2
  have N2 := Fr.app N0 N2q
  have P3 : ∀ t, GG p e below T2 (mkF m 7 #[.val (.ref xs), .val (.int (1 : Int32)), .unset, .unset, .unset] [(.int c1)]) t → Steps p.tables e below s0 t := fun t kk_ => P1 t (st2.trans kk_)
  have P4 : ∀ t, GG p e below T2 (mkF m 9 #[.val (.ref xs), .val (.int (1 : Int32)), .unset, .unset, .unset] [(.int (34 : Int32)), (.int c1)]) t → Steps p.tables e below s0 t := fun t kk_ => P3 t (by
    refine XS.bipush X2.here hx rfl (hb hby d_closing_7) ?_
    exact kk_)
  by_cases hc9_5 : c1 = (34 : Int32)
  ·
    have P6 : ∀ t, GG p e below T2 (mkF m 24 #[.val (.ref xs), .val (.int (1 : Int32)), .val (.int (1 : Int32)), .val (.int (2 : Int32)), .unset] [(.ref xs), (.int (2 : Int32))]) t → Steps p.tables e below s0 t := fun t kk_ => P4 t (by
      refine XS.icmpNo X2.here hx rfl (hb hby d_closing_9) rfl (teq (hc9_5 : c1 = (34 : Int32))).2 ?_
      refine XS.iconst X2.here hx rfl (hb hby d_closing_12) ?_
      refine XS.goto X2.here hx rfl (pc0 := 13) (pc' := 17) rfl (hb hby d_closing_13) (by decide) (by decide) ?_
      refine XS.istoreN X2.here hx rfl (hb hby d_closing_17) rfl (l' := #[.val (.ref xs), .val (.int (1 : Int32)), .val (.int (1 : Int32)), .unset, .unset]) rfl ?_
      refine XS.iloadN X2.here hx rfl (hb hby d_closing_18) rfl ?_
      refine XS.iconst X2.here hx rfl (hb hby d_closing_19) ?_
      refine XS.iadd X2.here hx rfl (hb hby d_closing_20) rfl ?_
      refine XS.istoreN X2.here hx rfl (hb hby d_closing_21) rfl (l' := #[.val (.ref xs), .val (.int (1 : Int32)), .val (.int (1 : Int32)), .val (.int (2 : Int32)), .unset]) rfl ?_
      refine XS.iloadN X2.here hx rfl (hb hby d_closing_22) rfl ?_
      refine XS.aloadN X2.here hx rfl (hb hby d_closing_23) rfl rfl ?_
      exact kk_)
    obtain ⟨cq7, kq7, q7a, q7b, q7c⟩ := isOf hZ e2 E_xs
    obtain ⟨_, _, ⟨T7, L7, k7, n7⟩, -, X7, ⟨Lc7, hQ7, l7, y7, z7⟩, st7⟩ := X2.interfaceBack hx (xi := mn_20) (y := mn_21) hown (mw hZ hw 95 rfl) (mw hZ hw 96 rfl) (mw hZ hw 97 rfl) (mw hZ hw 98 rfl) (mw hZ hw 99 rfl) (mw hZ hw 100 rfl) (mw hZ hw 101 rfl) (mw hZ hw 71 rfl) (by decide) (backOf (W := 1) (rm_len4 l Z a0 hw [] xs tb kb cd nB vs c0 c1 c2 c3 G1 h0 n0 (Nat.le_trans Z0 (Nat.le_refl h0.size)) E_xs F_value_xs F_coder_xs V_tb S_COMPACT_STRINGS OL hz s4) hZ (ww hw 102 rfl) (ww hw 8 rfl) (by decide) (by decide)) q7a q7b q7c (g := (mkF m 24 #[.val (.ref xs), .val (.int (1 : Int32)), .val (.int (1 : Int32)), .val (.int (2 : Int32)), .unset] [(.ref xs), (.int (2 : Int32))])) rfl (by rw [hml]; rfl) (Steps.refl _) (argsL := []) (rest := [(.int (2 : Int32))]) (lenOf pd_16 rfl) rfl (by show 2 * 0 + _ ≤ _; exact Nat.le_of_eq rfl) (hb hby d_closing_24) (fun _ _ => ⟨rfl, e2, (by decide : 0 + 0 ≤ _), (by decide : 0 + 0 ≤ _)⟩)
    dsimp only [Pt.U, Pt.locs, Pt.cells, Pt.slots] at X7 l7 y7 z7 st7 hQ7
    subst l7 y7 z7
    obtain ⟨rfl, N7q, e7⟩ := hQ7
    have N7 := Fr.app N2 N7q
    have P8 : ∀ t, GG p e below T7 (mkF m 29 #[.val (.ref xs), .val (.int (1 : Int32)), .val (.int (1 : Int32)), .val (.int (2 : Int32)), .unset] [(.int (4 : Int32)), (.int (2 : Int32))]) t → Steps p.tables e below s0 t := fun t kk_ => P6 t (st7.trans kk_)
    have P9 : ∀ t, GG p e below T7 (mkF m 34 #[.val (.ref xs), .val (.int (1 : Int32)), .val (.int (1 : Int32)), .val (.int (2 : Int32)), .unset] [(.int (2 : Int32)), (.ref xs)]) t → Steps p.tables e below s0 t := fun t kk_ => P8 t (by
      refine XS.icmpNo X7.here hx rfl (hb hby d_closing_29) rfl (tlt ((by decide) : (2 : Int32) < (4 : Int32))).2.1 ?_
      refine XS.aloadN X7.here hx rfl (hb hby d_closing_32) rfl rfl ?_
      refine XS.iloadN X7.here hx rfl (hb hby d_closing_33) rfl ?_
      exact kk_)
    obtain ⟨cq10, kq10, q10a, q10b, q10c⟩ := isOf hZ e7 E_xs
    obtain ⟨_, _, ⟨T10, L10, k10, n10⟩, -, X10, ⟨Lc10, hQ10, l10, y10, z10⟩, st10⟩ := X7.interfaceBack hx (xi := mn_18) (y := mn_19) hown (mw hZ hw 64 rfl) (mw hZ hw 65 rfl) (mw hZ hw 66 rfl) (mw hZ hw 67 rfl) (mw hZ hw 68 rfl) (mw hZ hw 69 rfl) (mw hZ hw 70 rfl) (mw hZ hw 71 rfl) (by decide) (backOf (W := 0) (rm_sCh2 l Z a0 hw [] xs tb kb cd nB vs c0 c1 c2 c3 G1 G3 h0 n0 (Nat.le_trans Z0 (Nat.le_refl h0.size)) E_xs F_value_xs F_coder_xs V_tb S_COMPACT_STRINGS S__assertionsDisabled S_HI_BYTE_SHIFT S_LO_BYTE_SHIFT S_SIOOBE_FORMATTER OL hz rG3 s4 ic0 ic1 ic2 ic3) hZ (ww hw 72 rfl) (ww hw 8 rfl) (by decide) (by decide)) q10a q10b q10c (g := (mkF m 34 #[.val (.ref xs), .val (.int (1 : Int32)), .val (.int (1 : Int32)), .val (.int (2 : Int32)), .unset] [(.int (2 : Int32)), (.ref xs)])) rfl (by rw [hml]; rfl) (Steps.refl _) (argsL := [(.int (2 : Int32))]) (rest := []) (lenOf pd_15 rfl) rfl (by show 2 * 0 + _ ≤ _; exact Nat.le_of_eq rfl) (hb hby d_closing_34) (fun _ _ => ⟨rfl, e7, (by decide : 0 + 0 ≤ _), (by decide : 0 + 0 ≤ _)⟩)
    dsimp only [Pt.U, Pt.locs, Pt.cells, Pt.slots] at X10 l10 y10 z10 st10 hQ10
    subst l10 y10 z10
    obtain ⟨rfl, N10q, e10⟩ := hQ10
    have N10 := Fr.app N7 N10q
    have P11 : ∀ t, GG p e below T10 (mkF m 39 #[.val (.ref xs), .val (.int (1 : Int32)), .val (.int (1 : Int32)), .val (.int (2 : Int32)), .unset] [(.int c2)]) t → Steps p.tables e below s0 t := fun t kk_ => P9 t (st10.trans kk_)
    have P12 : ∀ t, GG p e below T10 (mkF m 49 #[.val (.ref xs), .val (.int (1 : Int32)), .val (.int (1 : Int32)), .val (.int (2 : Int32)), .val (.int c2)] [(.int (34 : Int32)), (.int c2)]) t → Steps p.tables e below s0 t := fun t kk_ => P11 t (by
      refine XS.istore X10.here hx rfl (hb hby d_closing_39) rfl (l' := #[.val (.ref xs), .val (.int (1 : Int32)), .val (.int (1 : Int32)), .val (.int (2 : Int32)), .val (.int c2)]) rfl ?_
      refine XS.iloadN X10.here hx rfl (hb hby d_closing_41) rfl ?_
      refine XS.ifNo X10.here hx rfl (hb hby d_closing_42) rfl ((if0 _ _).trans (feq ((by decide) : ¬ ((1 : Int32) = (0 : Int32)))).1) ?_
      refine XS.iload X10.here hx rfl (hb hby d_closing_45) rfl ?_
      refine XS.bipush X10.here hx rfl (hb hby d_closing_47) ?_
      exact kk_)
    by_cases hc49_13 : c2 = (34 : Int32)
    ·
      have P14 : ∀ t, GG p e below T10 (mkF m 64 #[.val (.ref xs), .val (.int (1 : Int32)), .val (.int (1 : Int32)), .val (.int (2 : Int32)), .val (.int c2)] [(.int (2 : Int32))]) t → Steps p.tables e below s0 t := fun t kk_ => P12 t (by
        refine XS.icmpNo X10.here hx rfl (hb hby d_closing_49) rfl (teq (hc49_13 : c2 = (34 : Int32))).2 ?_
        refine XS.goto X10.here hx rfl (pc0 := 52) (pc' := 63) rfl (hb hby d_closing_52) (by decide) (by decide) ?_
        refine XS.iloadN X10.here hx rfl (hb hby d_closing_63) rfl ?_
        exact kk_)
      subst hs0
      obtain ⟨fs, hr, hrun, hended, hW, hsame⟩ := X10.leave (v := some (.int (2 : Int32))) (fun h => by rw [Bd.returns] at h; cases h)
      refine ⟨_, _, P14 _ ?_, hrun, hended, _, _, rfl, ?_, ⟨_, rfl⟩, hW, hsame.mono (by decide) (by decide)⟩
      · show GG p e below T10 (mkF m 64 #[.val (.ref xs), .val (.int (1 : Int32)), .val (.int (1 : Int32)), .val (.int (2 : Int32)), .val (.int c2)] [(.int (2 : Int32))]) _
        exact retI X10 hx Bd.returns (hb hby d_closing_64) hr
      · show Q_clo1 Z xs tb kb cd nB vs c0 c1 c2 c3 G1 G3 h0 n0 _ T10.heap _
        rw [e10]
        exact ⟨(2 : Int32), rfl, N10, rfl, (by simp [clo, hc9_5, hc49_13])⟩
    ·
      have P15 : ∀ t, GG p e below T10 (mkF m 24 #[.val (.ref xs), .val (.int (1 : Int32)), .val (.int (1 : Int32)), .val (.int (3 : Int32)), .val (.int c2)] [(.ref xs), (.int (3 : Int32))]) t → Steps p.tables e below s0 t := fun t kk_ => P12 t (by
        refine XS.icmpYes X10.here hx rfl (pc0 := 49) (pc' := 65) rfl (hb hby d_closing_49) rfl (feq (hc49_13 : ¬ (c2 = (34 : Int32)))).2 (by decide) (by decide) ?_
        refine XS.iloadN X10.here hx rfl (hb hby d_closing_65) rfl ?_
        refine XS.ifYes X10.here hx rfl (pc0 := 66) (pc' := 79) rfl (hb hby d_closing_66) rfl ((if0 _ _).trans (feq ((by decide) : ¬ ((1 : Int32) = (0 : Int32)))).2) (by decide) (by decide) ?_
        refine XS.iinc X10.here hx rfl (hb hby d_closing_79) rfl (l' := #[.val (.ref xs), .val (.int (1 : Int32)), .val (.int (1 : Int32)), .val (.int (3 : Int32)), .val (.int c2)]) rfl ?_
        refine XS.goto X10.here hx rfl (pc0 := 82) (pc' := 22) rfl (hb hby d_closing_82) (by decide) (by decide) ?_
        refine XS.iloadN X10.here hx rfl (hb hby d_closing_22) rfl ?_
        refine XS.aloadN X10.here hx rfl (hb hby d_closing_23) rfl rfl ?_
        exact kk_)
      obtain ⟨cq16, kq16, q16a, q16b, q16c⟩ := isOf hZ e10 E_xs
      obtain ⟨_, _, ⟨T16, L16, k16, n16⟩, -, X16, ⟨Lc16, hQ16, l16, y16, z16⟩, st16⟩ := X10.interfaceBack hx (xi := mn_20) (y := mn_21) hown (mw hZ hw 95 rfl) (mw hZ hw 96 rfl) (mw hZ hw 97 rfl) (mw hZ hw 98 rfl) (mw hZ hw 99 rfl) (mw hZ hw 100 rfl) (mw hZ hw 101 rfl) (mw hZ hw 71 rfl) (by decide) (backOf (W := 1) (rm_len4 l Z a0 hw [] xs tb kb cd nB vs c0 c1 c2 c3 G1 h0 n0 (Nat.le_trans Z0 (Nat.le_refl h0.size)) E_xs F_value_xs F_coder_xs V_tb S_COMPACT_STRINGS OL hz s4) hZ (ww hw 102 rfl) (ww hw 8 rfl) (by decide) (by decide)) q16a q16b q16c (g := (mkF m 24 #[.val (.ref xs), .val (.int (1 : Int32)), .val (.int (1 : Int32)), .val (.int (3 : Int32)), .val (.int c2)] [(.ref xs), (.int (3 : Int32))])) rfl (by rw [hml]; rfl) (Steps.refl _) (argsL := []) (rest := [(.int (3 : Int32))]) (lenOf pd_16 rfl) rfl (by show 2 * 0 + _ ≤ _; exact Nat.le_of_eq rfl) (hb hby d_closing_24) (fun _ _ => ⟨rfl, e10, (by decide : 0 + 0 ≤ _), (by decide : 0 + 0 ≤ _)⟩)
      dsimp only [Pt.U, Pt.locs, Pt.cells, Pt.slots] at X16 l16 y16 z16 st16 hQ16
      subst l16 y16 z16
      obtain ⟨rfl, N16q, e16⟩ := hQ16
      have N16 := Fr.app N10 N16q
      have P17 : ∀ t, GG p e below T16 (mkF m 29 #[.val (.ref xs), .val (.int (1 : Int32)), .val (.int (1 : Int32)), .val (.int (3 : Int32)), .val (.int c2)] [(.int (4 : Int32)), (.int (3 : Int32))]) t → Steps p.tables e below s0 t := fun t kk_ => P15 t (st16.trans kk_)
      have P18 : ∀ t, GG p e below T16 (mkF m 34 #[.val (.ref xs), .val (.int (1 : Int32)), .val (.int (1 : Int32)), .val (.int (3 : Int32)), .val (.int c2)] [(.int (3 : Int32)), (.ref xs)]) t → Steps p.tables e below s0 t := fun t kk_ => P17 t (by
        refine XS.icmpNo X16.here hx rfl (hb hby d_closing_29) rfl (tlt ((by decide) : (3 : Int32) < (4 : Int32))).2.1 ?_
        refine XS.aloadN X16.here hx rfl (hb hby d_closing_32) rfl rfl ?_
        refine XS.iloadN X16.here hx rfl (hb hby d_closing_33) rfl ?_
        exact kk_)
      obtain ⟨cq19, kq19, q19a, q19b, q19c⟩ := isOf hZ e16 E_xs
      obtain ⟨_, _, ⟨T19, L19, k19, n19⟩, -, X19, ⟨Lc19, hQ19, l19, y19, z19⟩, st19⟩ := X16.interfaceBack hx (xi := mn_18) (y := mn_19) hown (mw hZ hw 64 rfl) (mw hZ hw 65 rfl) (mw hZ hw 66 rfl) (mw hZ hw 67 rfl) (mw hZ hw 68 rfl) (mw hZ hw 69 rfl) (mw hZ hw 70 rfl) (mw hZ hw 71 rfl) (by decide) (backOf (W := 0) (rm_sCh3 l Z a0 hw [] xs tb kb cd nB vs c0 c1 c2 c3 G1 G3 h0 n0 (Nat.le_trans Z0 (Nat.le_refl h0.size)) E_xs F_value_xs F_coder_xs V_tb S_COMPACT_STRINGS S__assertionsDisabled S_HI_BYTE_SHIFT S_LO_BYTE_SHIFT S_SIOOBE_FORMATTER OL hz rG3 s4 ic0 ic1 ic2 ic3) hZ (ww hw 72 rfl) (ww hw 8 rfl) (by decide) (by decide)) q19a q19b q19c (g := (mkF m 34 #[.val (.ref xs), .val (.int (1 : Int32)), .val (.int (1 : Int32)), .val (.int (3 : Int32)), .val (.int c2)] [(.int (3 : Int32)), (.ref xs)])) rfl (by rw [hml]; rfl) (Steps.refl _) (argsL := [(.int (3 : Int32))]) (rest := []) (lenOf pd_15 rfl) rfl (by show 2 * 0 + _ ≤ _; exact Nat.le_of_eq rfl) (hb hby d_closing_34) (fun _ _ => ⟨rfl, e16, (by decide : 0 + 0 ≤ _), (by decide : 0 + 0 ≤ _)⟩)
      dsimp only [Pt.U, Pt.locs, Pt.cells, Pt.slots] at X19 l19 y19 z19 st19 hQ19
      subst l19 y19 z19
      obtain ⟨rfl, N19q, e19⟩ := hQ19
      have N19 := Fr.app N16 N19q
      have P20 : ∀ t, GG p e below T19 (mkF m 39 #[.val (.ref xs), .val (.int (1 : Int32)), .val (.int (1 : Int32)), .val (.int (3 : Int32)), .val (.int c2)] [(.int c3)]) t → Steps p.tables e below s0 t := fun t kk_ => P18 t (st19.trans kk_)
      have P21 : ∀ t, GG p e below T19 (mkF m 49 #[.val (.ref xs), .val (.int (1 : Int32)), .val (.int (1 : Int32)), .val (.int (3 : Int32)), .val (.int c3)] [(.int (34 : Int32)), (.int c3)]) t → Steps p.tables e below s0 t := fun t kk_ => P20 t (by
        refine XS.istore X19.here hx rfl (hb hby d_closing_39) rfl (l' := #[.val (.ref xs), .val (.int (1 : Int32)), .val (.int (1 : Int32)), .val (.int (3 : Int32)), .val (.int c3)]) rfl ?_
        refine XS.iloadN X19.here hx rfl (hb hby d_closing_41) rfl ?_
        refine XS.ifNo X19.here hx rfl (hb hby d_closing_42) rfl ((if0 _ _).trans (feq ((by decide) : ¬ ((1 : Int32) = (0 : Int32)))).1) ?_
        refine XS.iload X19.here hx rfl (hb hby d_closing_45) rfl ?_
        refine XS.bipush X19.here hx rfl (hb hby d_closing_47) ?_
        exact kk_)
      by_cases hc49_22 : c3 = (34 : Int32)
      ·
        have P23 : ∀ t, GG p e below T19 (mkF m 64 #[.val (.ref xs), .val (.int (1 : Int32)), .val (.int (1 : Int32)), .val (.int (3 : Int32)), .val (.int c3)] [(.int (3 : Int32))]) t → Steps p.tables e below s0 t := fun t kk_ => P21 t (by
          refine XS.icmpNo X19.here hx rfl (hb hby d_closing_49) rfl (teq (hc49_22 : c3 = (34 : Int32))).2 ?_
          refine XS.goto X19.here hx rfl (pc0 := 52) (pc' := 63) rfl (hb hby d_closing_52) (by decide) (by decide) ?_
          refine XS.iloadN X19.here hx rfl (hb hby d_closing_63) rfl ?_
          exact kk_)
        subst hs0
        obtain ⟨fs, hr, hrun, hended, hW, hsame⟩ := X19.leave (v := some (.int (3 : Int32))) (fun h => by rw [Bd.returns] at h; cases h)
        refine ⟨_, _, P23 _ ?_, hrun, hended, _, _, rfl, ?_, ⟨_, rfl⟩, hW, hsame.mono (by decide) (by decide)⟩
        · show GG p e below T19 (mkF m 64 #[.val (.ref xs), .val (.int (1 : Int32)), .val (.int (1 : Int32)), .val (.int (3 : Int32)), .val (.int c3)] [(.int (3 : Int32))]) _
          exact retI X19 hx Bd.returns (hb hby d_closing_64) hr
        · show Q_clo1 Z xs tb kb cd nB vs c0 c1 c2 c3 G1 G3 h0 n0 _ T19.heap _
          rw [e19]
          exact ⟨(3 : Int32), rfl, N19, rfl, (by simp [clo, hc9_5, hc49_13, hc49_22])⟩
      ·
        have P24 : ∀ t, GG p e below T19 (mkF m 24 #[.val (.ref xs), .val (.int (1 : Int32)), .val (.int (1 : Int32)), .val (.int (4 : Int32)), .val (.int c3)] [(.ref xs), (.int (4 : Int32))]) t → Steps p.tables e below s0 t := fun t kk_ => P21 t (by
          refine XS.icmpYes X19.here hx rfl (pc0 := 49) (pc' := 65) rfl (hb hby d_closing_49) rfl (feq (hc49_22 : ¬ (c3 = (34 : Int32)))).2 (by decide) (by decide) ?_
          refine XS.iloadN X19.here hx rfl (hb hby d_closing_65) rfl ?_
          refine XS.ifYes X19.here hx rfl (pc0 := 66) (pc' := 79) rfl (hb hby d_closing_66) rfl ((if0 _ _).trans (feq ((by decide) : ¬ ((1 : Int32) = (0 : Int32)))).2) (by decide) (by decide) ?_
          refine XS.iinc X19.here hx rfl (hb hby d_closing_79) rfl (l' := #[.val (.ref xs), .val (.int (1 : Int32)), .val (.int (1 : Int32)), .val (.int (4 : Int32)), .val (.int c3)]) rfl ?_
          refine XS.goto X19.here hx rfl (pc0 := 82) (pc' := 22) rfl (hb hby d_closing_82) (by decide) (by decide) ?_
          refine XS.iloadN X19.here hx rfl (hb hby d_closing_22) rfl ?_
          refine XS.aloadN X19.here hx rfl (hb hby d_closing_23) rfl rfl ?_
          exact kk_)
        obtain ⟨cq25, kq25, q25a, q25b, q25c⟩ := isOf hZ e19 E_xs
        obtain ⟨_, _, ⟨T25, L25, k25, n25⟩, -, X25, ⟨Lc25, hQ25, l25, y25, z25⟩, st25⟩ := X19.interfaceBack hx (xi := mn_20) (y := mn_21) hown (mw hZ hw 95 rfl) (mw hZ hw 96 rfl) (mw hZ hw 97 rfl) (mw hZ hw 98 rfl) (mw hZ hw 99 rfl) (mw hZ hw 100 rfl) (mw hZ hw 101 rfl) (mw hZ hw 71 rfl) (by decide) (backOf (W := 1) (rm_len4 l Z a0 hw [] xs tb kb cd nB vs c0 c1 c2 c3 G1 h0 n0 (Nat.le_trans Z0 (Nat.le_refl h0.size)) E_xs F_value_xs F_coder_xs V_tb S_COMPACT_STRINGS OL hz s4) hZ (ww hw 102 rfl) (ww hw 8 rfl) (by decide) (by decide)) q25a q25b q25c (g := (mkF m 24 #[.val (.ref xs), .val (.int (1 : Int32)), .val (.int (1 : Int32)), .val (.int (4 : Int32)), .val (.int c3)] [(.ref xs), (.int (4 : Int32))])) rfl (by rw [hml]; rfl) (Steps.refl _) (argsL := []) (rest := [(.int (4 : Int32))]) (lenOf pd_16 rfl) rfl (by show 2 * 0 + _ ≤ _; exact Nat.le_of_eq rfl) (hb hby d_closing_24) (fun _ _ => ⟨rfl, e19, (by decide : 0 + 0 ≤ _), (by decide : 0 + 0 ≤ _)⟩)
        dsimp only [Pt.U, Pt.locs, Pt.cells, Pt.slots] at X25 l25 y25 z25 st25 hQ25
        subst l25 y25 z25
        obtain ⟨rfl, N25q, e25⟩ := hQ25
        have N25 := Fr.app N19 N25q
        have P26 : ∀ t, GG p e below T25 (mkF m 29 #[.val (.ref xs), .val (.int (1 : Int32)), .val (.int (1 : Int32)), .val (.int (4 : Int32)), .val (.int c3)] [(.int (4 : Int32)), (.int (4 : Int32))]) t → Steps p.tables e below s0 t := fun t kk_ => P24 t (st25.trans kk_)
        have P27 : ∀ t, GG p e below T25 (mkF m 86 #[.val (.ref xs), .val (.int (1 : Int32)), .val (.int (1 : Int32)), .val (.int (4 : Int32)), .val (.int c3)] [(.int (-1 : Int32))]) t → Steps p.tables e below s0 t := fun t kk_ => P26 t (by
          refine XS.icmpYes X25.here hx rfl (pc0 := 29) (pc' := 85) rfl (hb hby d_closing_29) rfl (flt ((by decide) : ¬ ((4 : Int32) < (4 : Int32)))).2.1 (by decide) (by decide) ?_
          refine XS.iconst X25.here hx rfl (hb hby d_closing_85) ?_
          exact kk_)
        subst hs0
        obtain ⟨fs, hr, hrun, hended, hW, hsame⟩ := X25.leave (v := some (.int (-1 : Int32))) (fun h => by rw [Bd.returns] at h; cases h)
        refine ⟨_, _, P27 _ ?_, hrun, hended, _, _, rfl, ?_, ⟨_, rfl⟩, hW, hsame.mono (by decide) (by decide)⟩
        · show GG p e below T25 (mkF m 86 #[.val (.ref xs), .val (.int (1 : Int32)), .val (.int (1 : Int32)), .val (.int (4 : Int32)), .val (.int c3)] [(.int (-1 : Int32))]) _
          exact retI X25 hx Bd.returns (hb hby d_closing_86) hr
        · show Q_clo1 Z xs tb kb cd nB vs c0 c1 c2 c3 G1 G3 h0 n0 _ T25.heap _
          rw [e25]
          exact ⟨(-1 : Int32), rfl, N25, rfl, (by simp [clo, hc9_5, hc49_13, hc49_22])⟩
  ·
    have P28 : ∀ t, GG p e below T2 (mkF m 24 #[.val (.ref xs), .val (.int (1 : Int32)), .val (.int (0 : Int32)), .val (.int (2 : Int32)), .unset] [(.ref xs), (.int (2 : Int32))]) t → Steps p.tables e below s0 t := fun t kk_ => P4 t (by
      refine XS.icmpYes X2.here hx rfl (pc0 := 9) (pc' := 16) rfl (hb hby d_closing_9) rfl (feq (hc9_5 : ¬ (c1 = (34 : Int32)))).2 (by decide) (by decide) ?_
      refine XS.iconst X2.here hx rfl (hb hby d_closing_16) ?_
      refine XS.istoreN X2.here hx rfl (hb hby d_closing_17) rfl (l' := #[.val (.ref xs), .val (.int (1 : Int32)), .val (.int (0 : Int32)), .unset, .unset]) rfl ?_
      refine XS.iloadN X2.here hx rfl (hb hby d_closing_18) rfl ?_
      refine XS.iconst X2.here hx rfl (hb hby d_closing_19) ?_
      refine XS.iadd X2.here hx rfl (hb hby d_closing_20) rfl ?_
      refine XS.istoreN X2.here hx rfl (hb hby d_closing_21) rfl (l' := #[.val (.ref xs), .val (.int (1 : Int32)), .val (.int (0 : Int32)), .val (.int (2 : Int32)), .unset]) rfl ?_
      refine XS.iloadN X2.here hx rfl (hb hby d_closing_22) rfl ?_
      refine XS.aloadN X2.here hx rfl (hb hby d_closing_23) rfl rfl ?_
      exact kk_)
    obtain ⟨cq29, kq29, q29a, q29b, q29c⟩ := isOf hZ e2 E_xs
    obtain ⟨_, _, ⟨T29, L29, k29, n29⟩, -, X29, ⟨Lc29, hQ29, l29, y29, z29⟩, st29⟩ := X2.interfaceBack hx (xi := mn_20) (y := mn_21) hown (mw hZ hw 95 rfl) (mw hZ hw 96 rfl) (mw hZ hw 97 rfl) (mw hZ hw 98 rfl) (mw hZ hw 99 rfl) (mw hZ hw 100 rfl) (mw hZ hw 101 rfl) (mw hZ hw 71 rfl) (by decide) (backOf (W := 1) (rm_len4 l Z a0 hw [] xs tb kb cd nB vs c0 c1 c2 c3 G1 h0 n0 (Nat.le_trans Z0 (Nat.le_refl h0.size)) E_xs F_value_xs F_coder_xs V_tb S_COMPACT_STRINGS OL hz s4) hZ (ww hw 102 rfl) (ww hw 8 rfl) (by decide) (by decide)) q29a q29b q29c (g := (mkF m 24 #[.val (.ref xs), .val (.int (1 : Int32)), .val (.int (0 : Int32)), .val (.int (2 : Int32)), .unset] [(.ref xs), (.int (2 : Int32))])) rfl (by rw [hml]; rfl) (Steps.refl _) (argsL := []) (rest := [(.int (2 : Int32))]) (lenOf pd_16 rfl) rfl (by show 2 * 0 + _ ≤ _; exact Nat.le_of_eq rfl) (hb hby d_closing_24) (fun _ _ => ⟨rfl, e2, (by decide : 0 + 0 ≤ _), (by decide : 0 + 0 ≤ _)⟩)
    dsimp only [Pt.U, Pt.locs, Pt.cells, Pt.slots] at X29 l29 y29 z29 st29 hQ29
    subst l29 y29 z29
    obtain ⟨rfl, N29q, e29⟩ := hQ29
    have N29 := Fr.app N2 N29q
    have P30 : ∀ t, GG p e below T29 (mkF m 29 #[.val (.ref xs), .val (.int (1 : Int32)), .val (.int (0 : Int32)), .val (.int (2 : Int32)), .unset] [(.int (4 : Int32)), (.int (2 : Int32))]) t → Steps p.tables e below s0 t := fun t kk_ => P28 t (st29.trans kk_)
    have P31 : ∀ t, GG p e below T29 (mkF m 34 #[.val (.ref xs), .val (.int (1 : Int32)), .val (.int (0 : Int32)), .val (.int (2 : Int32)), .unset] [(.int (2 : Int32)), (.ref xs)]) t → Steps p.tables e below s0 t := fun t kk_ => P30 t (by
      refine XS.icmpNo X29.here hx rfl (hb hby d_closing_29) rfl (tlt ((by decide) : (2 : Int32) < (4 : Int32))).2.1 ?_
      refine XS.aloadN X29.here hx rfl (hb hby d_closing_32) rfl rfl ?_
      refine XS.iloadN X29.here hx rfl (hb hby d_closing_33) rfl ?_
      exact kk_)
    obtain ⟨cq32, kq32, q32a, q32b, q32c⟩ := isOf hZ e29 E_xs
    obtain ⟨_, _, ⟨T32, L32, k32, n32⟩, -, X32, ⟨Lc32, hQ32, l32, y32, z32⟩, st32⟩ := X29.interfaceBack hx (xi := mn_18) (y := mn_19) hown (mw hZ hw 64 rfl) (mw hZ hw 65 rfl) (mw hZ hw 66 rfl) (mw hZ hw 67 rfl) (mw hZ hw 68 rfl) (mw hZ hw 69 rfl) (mw hZ hw 70 rfl) (mw hZ hw 71 rfl) (by decide) (backOf (W := 0) (rm_sCh2 l Z a0 hw [] xs tb kb cd nB vs c0 c1 c2 c3 G1 G3 h0 n0 (Nat.le_trans Z0 (Nat.le_refl h0.size)) E_xs F_value_xs F_coder_xs V_tb S_COMPACT_STRINGS S__assertionsDisabled S_HI_BYTE_SHIFT S_LO_BYTE_SHIFT S_SIOOBE_FORMATTER OL hz rG3 s4 ic0 ic1 ic2 ic3) hZ (ww hw 72 rfl) (ww hw 8 rfl) (by decide) (by decide)) q32a q32b q32c (g := (mkF m 34 #[.val (.ref xs), .val (.int (1 : Int32)), .val (.int (0 : Int32)), .val (.int (2 : Int32)), .unset] [(.int (2 : Int32)), (.ref xs)])) rfl (by rw [hml]; rfl) (Steps.refl _) (argsL := [(.int (2 : Int32))]) (rest := []) (lenOf pd_15 rfl) rfl (by show 2 * 0 + _ ≤ _; exact Nat.le_of_eq rfl) (hb hby d_closing_34) (fun _ _ => ⟨rfl, e29, (by decide : 0 + 0 ≤ _), (by decide : 0 + 0 ≤ _)⟩)
    dsimp only [Pt.U, Pt.locs, Pt.cells, Pt.slots] at X32 l32 y32 z32 st32 hQ32
    subst l32 y32 z32
    obtain ⟨rfl, N32q, e32⟩ := hQ32
    have N32 := Fr.app N29 N32q
    have P33 : ∀ t, GG p e below T32 (mkF m 39 #[.val (.ref xs), .val (.int (1 : Int32)), .val (.int (0 : Int32)), .val (.int (2 : Int32)), .unset] [(.int c2)]) t → Steps p.tables e below s0 t := fun t kk_ => P31 t (st32.trans kk_)
    have P34 : ∀ t, GG p e below T32 (mkF m 60 #[.val (.ref xs), .val (.int (1 : Int32)), .val (.int (0 : Int32)), .val (.int (2 : Int32)), .val (.int c2)] [(.int (8221 : Int32)), (.int c2)]) t → Steps p.tables e below s0 t := fun t kk_ => P33 t (by
      refine XS.istore X32.here hx rfl (hb hby d_closing_39) rfl (l' := #[.val (.ref xs), .val (.int (1 : Int32)), .val (.int (0 : Int32)), .val (.int (2 : Int32)), .val (.int c2)]) rfl ?_
      refine XS.iloadN X32.here hx rfl (hb hby d_closing_41) rfl ?_
      refine XS.ifYes X32.here hx rfl (pc0 := 42) (pc' := 55) rfl (hb hby d_closing_42) rfl ((if0 _ _).trans (teq ((by decide) : (0 : Int32) = (0 : Int32))).1) (by decide) (by decide) ?_
      refine XS.iload X32.here hx rfl (hb hby d_closing_55) rfl ?_
      refine XS.sipush X32.here hx rfl (hb hby d_closing_57) ?_
      exact kk_)
    by_cases hc60_35 : c2 = (8221 : Int32)
    ·
      have P36 : ∀ t, GG p e below T32 (mkF m 64 #[.val (.ref xs), .val (.int (1 : Int32)), .val (.int (0 : Int32)), .val (.int (2 : Int32)), .val (.int c2)] [(.int (2 : Int32))]) t → Steps p.tables e below s0 t := fun t kk_ => P34 t (by
        refine XS.icmpNo X32.here hx rfl (hb hby d_closing_60) rfl (teq (hc60_35 : c2 = (8221 : Int32))).2 ?_
        refine XS.iloadN X32.here hx rfl (hb hby d_closing_63) rfl ?_
        exact kk_)
      subst hs0
      obtain ⟨fs, hr, hrun, hended, hW, hsame⟩ := X32.leave (v := some (.int (2 : Int32))) (fun h => by rw [Bd.returns] at h; cases h)
      refine ⟨_, _, P36 _ ?_, hrun, hended, _, _, rfl, ?_, ⟨_, rfl⟩, hW, hsame.mono (by decide) (by decide)⟩
      · show GG p e below T32 (mkF m 64 #[.val (.ref xs), .val (.int (1 : Int32)), .val (.int (0 : Int32)), .val (.int (2 : Int32)), .val (.int c2)] [(.int (2 : Int32))]) _
        exact retI X32 hx Bd.returns (hb hby d_closing_64) hr
      · show Q_clo1 Z xs tb kb cd nB vs c0 c1 c2 c3 G1 G3 h0 n0 _ T32.heap _
        rw [e32]
        exact ⟨(2 : Int32), rfl, N32, rfl, (by simp [clo, hc9_5, hc60_35])⟩
    ·
      have P37 : ∀ t, GG p e below T32 (mkF m 74 #[.val (.ref xs), .val (.int (1 : Int32)), .val (.int (0 : Int32)), .val (.int (2 : Int32)), .val (.int c2)] [(.int (8220 : Int32)), (.int c2)]) t → Steps p.tables e below s0 t := fun t kk_ => P34 t (by
        refine XS.icmpYes X32.here hx rfl (pc0 := 60) (pc' := 65) rfl (hb hby d_closing_60) rfl (feq (hc60_35 : ¬ (c2 = (8221 : Int32)))).2 (by decide) (by decide) ?_
        refine XS.iloadN X32.here hx rfl (hb hby d_closing_65) rfl ?_
        refine XS.ifNo X32.here hx rfl (hb hby d_closing_66) rfl ((if0 _ _).trans (teq ((by decide) : (0 : Int32) = (0 : Int32))).2) ?_
        refine XS.iload X32.here hx rfl (hb hby d_closing_69) rfl ?_
        refine XS.sipush X32.here hx rfl (hb hby d_closing_71) ?_
        exact kk_)
      by_cases hc74_38 : c2 = (8220 : Int32)
      ·
        have P39 : ∀ t, GG p e below T32 (mkF m 78 #[.val (.ref xs), .val (.int (1 : Int32)), .val (.int (0 : Int32)), .val (.int (2 : Int32)), .val (.int c2)] [(.int (-1 : Int32))]) t → Steps p.tables e below s0 t := fun t kk_ => P37 t (by
          refine XS.icmpNo X32.here hx rfl (hb hby d_closing_74) rfl (teq (hc74_38 : c2 = (8220 : Int32))).2 ?_
          refine XS.iconst X32.here hx rfl (hb hby d_closing_77) ?_
          exact kk_)
        subst hs0
        obtain ⟨fs, hr, hrun, hended, hW, hsame⟩ := X32.leave (v := some (.int (-1 : Int32))) (fun h => by rw [Bd.returns] at h; cases h)
        refine ⟨_, _, P39 _ ?_, hrun, hended, _, _, rfl, ?_, ⟨_, rfl⟩, hW, hsame.mono (by decide) (by decide)⟩
        · show GG p e below T32 (mkF m 78 #[.val (.ref xs), .val (.int (1 : Int32)), .val (.int (0 : Int32)), .val (.int (2 : Int32)), .val (.int c2)] [(.int (-1 : Int32))]) _
          exact retI X32 hx Bd.returns (hb hby d_closing_78) hr
        · show Q_clo1 Z xs tb kb cd nB vs c0 c1 c2 c3 G1 G3 h0 n0 _ T32.heap _
          rw [e32]
          exact ⟨(-1 : Int32), rfl, N32, rfl, (by simp [clo, hc9_5, hc60_35, hc74_38])⟩
      ·
        have P40 : ∀ t, GG p e below T32 (mkF m 24 #[.val (.ref xs), .val (.int (1 : Int32)), .val (.int (0 : Int32)), .val (.int (3 : Int32)), .val (.int c2)] [(.ref xs), (.int (3 : Int32))]) t → Steps p.tables e below s0 t := fun t kk_ => P37 t (by
          refine XS.icmpYes X32.here hx rfl (pc0 := 74) (pc' := 79) rfl (hb hby d_closing_74) rfl (feq (hc74_38 : ¬ (c2 = (8220 : Int32)))).2 (by decide) (by decide) ?_
          refine XS.iinc X32.here hx rfl (hb hby d_closing_79) rfl (l' := #[.val (.ref xs), .val (.int (1 : Int32)), .val (.int (0 : Int32)), .val (.int (3 : Int32)), .val (.int c2)]) rfl ?_
          refine XS.goto X32.here hx rfl (pc0 := 82) (pc' := 22) rfl (hb hby d_closing_82) (by decide) (by decide) ?_
          refine XS.iloadN X32.here hx rfl (hb hby d_closing_22) rfl ?_
          refine XS.aloadN X32.here hx rfl (hb hby d_closing_23) rfl rfl ?_
          exact kk_)
        obtain ⟨cq41, kq41, q41a, q41b, q41c⟩ := isOf hZ e32 E_xs
        obtain ⟨_, _, ⟨T41, L41, k41, n41⟩, -, X41, ⟨Lc41, hQ41, l41, y41, z41⟩, st41⟩ := X32.interfaceBack hx (xi := mn_20) (y := mn_21) hown (mw hZ hw 95 rfl) (mw hZ hw 96 rfl) (mw hZ hw 97 rfl) (mw hZ hw 98 rfl) (mw hZ hw 99 rfl) (mw hZ hw 100 rfl) (mw hZ hw 101 rfl) (mw hZ hw 71 rfl) (by decide) (backOf (W := 1) (rm_len4 l Z a0 hw [] xs tb kb cd nB vs c0 c1 c2 c3 G1 h0 n0 (Nat.le_trans Z0 (Nat.le_refl h0.size)) E_xs F_value_xs F_coder_xs V_tb S_COMPACT_STRINGS OL hz s4) hZ (ww hw 102 rfl) (ww hw 8 rfl) (by decide) (by decide)) q41a q41b q41c (g := (mkF m 24 #[.val (.ref xs), .val (.int (1 : Int32)), .val (.int (0 : Int32)), .val (.int (3 : Int32)), .val (.int c2)] [(.ref xs), (.int (3 : Int32))])) rfl (by rw [hml]; rfl) (Steps.refl _) (argsL := []) (rest := [(.int (3 : Int32))]) (lenOf pd_16 rfl) rfl (by show 2 * 0 + _ ≤ _; exact Nat.le_of_eq rfl) (hb hby d_closing_24) (fun _ _ => ⟨rfl, e32, (by decide : 0 + 0 ≤ _), (by decide : 0 + 0 ≤ _)⟩)
        dsimp only [Pt.U, Pt.locs, Pt.cells, Pt.slots] at X41 l41 y41 z41 st41 hQ41
        subst l41 y41 z41
        obtain ⟨rfl, N41q, e41⟩ := hQ41
        have N41 := Fr.app N32 N41q
        have P42 : ∀ t, GG p e below T41 (mkF m 29 #[.val (.ref xs), .val (.int (1 : Int32)), .val (.int (0 : Int32)), .val (.int (3 : Int32)), .val (.int c2)] [(.int (4 : Int32)), (.int (3 : Int32))]) t → Steps p.tables e below s0 t := fun t kk_ => P40 t (st41.trans kk_)
        have P43 : ∀ t, GG p e below T41 (mkF m 34 #[.val (.ref xs), .val (.int (1 : Int32)), .val (.int (0 : Int32)), .val (.int (3 : Int32)), .val (.int c2)] [(.int (3 : Int32)), (.ref xs)]) t → Steps p.tables e below s0 t := fun t kk_ => P42 t (by
          refine XS.icmpNo X41.here hx rfl (hb hby d_closing_29) rfl (tlt ((by decide) : (3 : Int32) < (4 : Int32))).2.1 ?_
          refine XS.aloadN X41.here hx rfl (hb hby d_closing_32) rfl rfl ?_
          refine XS.iloadN X41.here hx rfl (hb hby d_closing_33) rfl ?_
          exact kk_)
        obtain ⟨cq44, kq44, q44a, q44b, q44c⟩ := isOf hZ e41 E_xs
        obtain ⟨_, _, ⟨T44, L44, k44, n44⟩, -, X44, ⟨Lc44, hQ44, l44, y44, z44⟩, st44⟩ := X41.interfaceBack hx (xi := mn_18) (y := mn_19) hown (mw hZ hw 64 rfl) (mw hZ hw 65 rfl) (mw hZ hw 66 rfl) (mw hZ hw 67 rfl) (mw hZ hw 68 rfl) (mw hZ hw 69 rfl) (mw hZ hw 70 rfl) (mw hZ hw 71 rfl) (by decide) (backOf (W := 0) (rm_sCh3 l Z a0 hw [] xs tb kb cd nB vs c0 c1 c2 c3 G1 G3 h0 n0 (Nat.le_trans Z0 (Nat.le_refl h0.size)) E_xs F_value_xs F_coder_xs V_tb S_COMPACT_STRINGS S__assertionsDisabled S_HI_BYTE_SHIFT S_LO_BYTE_SHIFT S_SIOOBE_FORMATTER OL hz rG3 s4 ic0 ic1 ic2 ic3) hZ (ww hw 72 rfl) (ww hw 8 rfl) (by decide) (by decide)) q44a q44b q44c (g := (mkF m 34 #[.val (.ref xs), .val (.int (1 : Int32)), .val (.int (0 : Int32)), .val (.int (3 : Int32)), .val (.int c2)] [(.int (3 : Int32)), (.ref xs)])) rfl (by rw [hml]; rfl) (Steps.refl _) (argsL := [(.int (3 : Int32))]) (rest := []) (lenOf pd_15 rfl) rfl (by show 2 * 0 + _ ≤ _; exact Nat.le_of_eq rfl) (hb hby d_closing_34) (fun _ _ => ⟨rfl, e41, (by decide : 0 + 0 ≤ _), (by decide : 0 + 0 ≤ _)⟩)
        dsimp only [Pt.U, Pt.locs, Pt.cells, Pt.slots] at X44 l44 y44 z44 st44 hQ44
        subst l44 y44 z44
        obtain ⟨rfl, N44q, e44⟩ := hQ44
        have N44 := Fr.app N41 N44q
        have P45 : ∀ t, GG p e below T44 (mkF m 39 #[.val (.ref xs), .val (.int (1 : Int32)), .val (.int (0 : Int32)), .val (.int (3 : Int32)), .val (.int c2)] [(.int c3)]) t → Steps p.tables e below s0 t := fun t kk_ => P43 t (st44.trans kk_)
        have P46 : ∀ t, GG p e below T44 (mkF m 60 #[.val (.ref xs), .val (.int (1 : Int32)), .val (.int (0 : Int32)), .val (.int (3 : Int32)), .val (.int c3)] [(.int (8221 : Int32)), (.int c3)]) t → Steps p.tables e below s0 t := fun t kk_ => P45 t (by
          refine XS.istore X44.here hx rfl (hb hby d_closing_39) rfl (l' := #[.val (.ref xs), .val (.int (1 : Int32)), .val (.int (0 : Int32)), .val (.int (3 : Int32)), .val (.int c3)]) rfl ?_
          refine XS.iloadN X44.here hx rfl (hb hby d_closing_41) rfl ?_
          refine XS.ifYes X44.here hx rfl (pc0 := 42) (pc' := 55) rfl (hb hby d_closing_42) rfl ((if0 _ _).trans (teq ((by decide) : (0 : Int32) = (0 : Int32))).1) (by decide) (by decide) ?_
          refine XS.iload X44.here hx rfl (hb hby d_closing_55) rfl ?_
          refine XS.sipush X44.here hx rfl (hb hby d_closing_57) ?_
          exact kk_)
        by_cases hc60_47 : c3 = (8221 : Int32)
        ·
          have P48 : ∀ t, GG p e below T44 (mkF m 64 #[.val (.ref xs), .val (.int (1 : Int32)), .val (.int (0 : Int32)), .val (.int (3 : Int32)), .val (.int c3)] [(.int (3 : Int32))]) t → Steps p.tables e below s0 t := fun t kk_ => P46 t (by
            refine XS.icmpNo X44.here hx rfl (hb hby d_closing_60) rfl (teq (hc60_47 : c3 = (8221 : Int32))).2 ?_
            refine XS.iloadN X44.here hx rfl (hb hby d_closing_63) rfl ?_
            exact kk_)
          subst hs0
          obtain ⟨fs, hr, hrun, hended, hW, hsame⟩ := X44.leave (v := some (.int (3 : Int32))) (fun h => by rw [Bd.returns] at h; cases h)
          refine ⟨_, _, P48 _ ?_, hrun, hended, _, _, rfl, ?_, ⟨_, rfl⟩, hW, hsame.mono (by decide) (by decide)⟩
          · show GG p e below T44 (mkF m 64 #[.val (.ref xs), .val (.int (1 : Int32)), .val (.int (0 : Int32)), .val (.int (3 : Int32)), .val (.int c3)] [(.int (3 : Int32))]) _
            exact retI X44 hx Bd.returns (hb hby d_closing_64) hr
          · show Q_clo1 Z xs tb kb cd nB vs c0 c1 c2 c3 G1 G3 h0 n0 _ T44.heap _
            rw [e44]
            exact ⟨(3 : Int32), rfl, N44, rfl, (by simp [clo, hc9_5, hc60_35, hc74_38, hc60_47])⟩
        ·
          have P49 : ∀ t, GG p e below T44 (mkF m 74 #[.val (.ref xs), .val (.int (1 : Int32)), .val (.int (0 : Int32)), .val (.int (3 : Int32)), .val (.int c3)] [(.int (8220 : Int32)), (.int c3)]) t → Steps p.tables e below s0 t := fun t kk_ => P46 t (by
            refine XS.icmpYes X44.here hx rfl (pc0 := 60) (pc' := 65) rfl (hb hby d_closing_60) rfl (feq (hc60_47 : ¬ (c3 = (8221 : Int32)))).2 (by decide) (by decide) ?_
            refine XS.iloadN X44.here hx rfl (hb hby d_closing_65) rfl ?_
            refine XS.ifNo X44.here hx rfl (hb hby d_closing_66) rfl ((if0 _ _).trans (teq ((by decide) : (0 : Int32) = (0 : Int32))).2) ?_
            refine XS.iload X44.here hx rfl (hb hby d_closing_69) rfl ?_
            refine XS.sipush X44.here hx rfl (hb hby d_closing_71) ?_
            exact kk_)
          by_cases hc74_50 : c3 = (8220 : Int32)
          ·
            have P51 : ∀ t, GG p e below T44 (mkF m 78 #[.val (.ref xs), .val (.int (1 : Int32)), .val (.int (0 : Int32)), .val (.int (3 : Int32)), .val (.int c3)] [(.int (-1 : Int32))]) t → Steps p.tables e below s0 t := fun t kk_ => P49 t (by
              refine XS.icmpNo X44.here hx rfl (hb hby d_closing_74) rfl (teq (hc74_50 : c3 = (8220 : Int32))).2 ?_
              refine XS.iconst X44.here hx rfl (hb hby d_closing_77) ?_
              exact kk_)
            subst hs0
            obtain ⟨fs, hr, hrun, hended, hW, hsame⟩ := X44.leave (v := some (.int (-1 : Int32))) (fun h => by rw [Bd.returns] at h; cases h)
            refine ⟨_, _, P51 _ ?_, hrun, hended, _, _, rfl, ?_, ⟨_, rfl⟩, hW, hsame.mono (by decide) (by decide)⟩
            · show GG p e below T44 (mkF m 78 #[.val (.ref xs), .val (.int (1 : Int32)), .val (.int (0 : Int32)), .val (.int (3 : Int32)), .val (.int c3)] [(.int (-1 : Int32))]) _
              exact retI X44 hx Bd.returns (hb hby d_closing_78) hr
            · show Q_clo1 Z xs tb kb cd nB vs c0 c1 c2 c3 G1 G3 h0 n0 _ T44.heap _
              rw [e44]
              exact ⟨(-1 : Int32), rfl, N44, rfl, (by simp [clo, hc9_5, hc60_35, hc74_38, hc60_47, hc74_50])⟩
          ·
            have P52 : ∀ t, GG p e below T44 (mkF m 24 #[.val (.ref xs), .val (.int (1 : Int32)), .val (.int (0 : Int32)), .val (.int (4 : Int32)), .val (.int c3)] [(.ref xs), (.int (4 : Int32))]) t → Steps p.tables e below s0 t := fun t kk_ => P49 t (by
              refine XS.icmpYes X44.here hx rfl (pc0 := 74) (pc' := 79) rfl (hb hby d_closing_74) rfl (feq (hc74_50 : ¬ (c3 = (8220 : Int32)))).2 (by decide) (by decide) ?_
              refine XS.iinc X44.here hx rfl (hb hby d_closing_79) rfl (l' := #[.val (.ref xs), .val (.int (1 : Int32)), .val (.int (0 : Int32)), .val (.int (4 : Int32)), .val (.int c3)]) rfl ?_
              refine XS.goto X44.here hx rfl (pc0 := 82) (pc' := 22) rfl (hb hby d_closing_82) (by decide) (by decide) ?_
              refine XS.iloadN X44.here hx rfl (hb hby d_closing_22) rfl ?_
              refine XS.aloadN X44.here hx rfl (hb hby d_closing_23) rfl rfl ?_
              exact kk_)
            obtain ⟨cq53, kq53, q53a, q53b, q53c⟩ := isOf hZ e44 E_xs
            obtain ⟨_, _, ⟨T53, L53, k53, n53⟩, -, X53, ⟨Lc53, hQ53, l53, y53, z53⟩, st53⟩ := X44.interfaceBack hx (xi := mn_20) (y := mn_21) hown (mw hZ hw 95 rfl) (mw hZ hw 96 rfl) (mw hZ hw 97 rfl) (mw hZ hw 98 rfl) (mw hZ hw 99 rfl) (mw hZ hw 100 rfl) (mw hZ hw 101 rfl) (mw hZ hw 71 rfl) (by decide) (backOf (W := 1) (rm_len4 l Z a0 hw [] xs tb kb cd nB vs c0 c1 c2 c3 G1 h0 n0 (Nat.le_trans Z0 (Nat.le_refl h0.size)) E_xs F_value_xs F_coder_xs V_tb S_COMPACT_STRINGS OL hz s4) hZ (ww hw 102 rfl) (ww hw 8 rfl) (by decide) (by decide)) q53a q53b q53c (g := (mkF m 24 #[.val (.ref xs), .val (.int (1 : Int32)), .val (.int (0 : Int32)), .val (.int (4 : Int32)), .val (.int c3)] [(.ref xs), (.int (4 : Int32))])) rfl (by rw [hml]; rfl) (Steps.refl _) (argsL := []) (rest := [(.int (4 : Int32))]) (lenOf pd_16 rfl) rfl (by show 2 * 0 + _ ≤ _; exact Nat.le_of_eq rfl) (hb hby d_closing_24) (fun _ _ => ⟨rfl, e44, (by decide : 0 + 0 ≤ _), (by decide : 0 + 0 ≤ _)⟩)
            dsimp only [Pt.U, Pt.locs, Pt.cells, Pt.slots] at X53 l53 y53 z53 st53 hQ53
            subst l53 y53 z53
            obtain ⟨rfl, N53q, e53⟩ := hQ53
            have N53 := Fr.app N44 N53q
            have P54 : ∀ t, GG p e below T53 (mkF m 29 #[.val (.ref xs), .val (.int (1 : Int32)), .val (.int (0 : Int32)), .val (.int (4 : Int32)), .val (.int c3)] [(.int (4 : Int32)), (.int (4 : Int32))]) t → Steps p.tables e below s0 t := fun t kk_ => P52 t (st53.trans kk_)
            have P55 : ∀ t, GG p e below T53 (mkF m 86 #[.val (.ref xs), .val (.int (1 : Int32)), .val (.int (0 : Int32)), .val (.int (4 : Int32)), .val (.int c3)] [(.int (-1 : Int32))]) t → Steps p.tables e below s0 t := fun t kk_ => P54 t (by
              refine XS.icmpYes X53.here hx rfl (pc0 := 29) (pc' := 85) rfl (hb hby d_closing_29) rfl (flt ((by decide) : ¬ ((4 : Int32) < (4 : Int32)))).2.1 (by decide) (by decide) ?_
              refine XS.iconst X53.here hx rfl (hb hby d_closing_85) ?_
              exact kk_)
            subst hs0
            obtain ⟨fs, hr, hrun, hended, hW, hsame⟩ := X53.leave (v := some (.int (-1 : Int32))) (fun h => by rw [Bd.returns] at h; cases h)
            refine ⟨_, _, P55 _ ?_, hrun, hended, _, _, rfl, ?_, ⟨_, rfl⟩, hW, hsame.mono (by decide) (by decide)⟩
            · show GG p e below T53 (mkF m 86 #[.val (.ref xs), .val (.int (1 : Int32)), .val (.int (0 : Int32)), .val (.int (4 : Int32)), .val (.int c3)] [(.int (-1 : Int32))]) _
              exact retI X53 hx Bd.returns (hb hby d_closing_86) hr
            · show Q_clo1 Z xs tb kb cd nB vs c0 c1 c2 c3 G1 G3 h0 n0 _ T53.heap _
              rw [e53]
              exact ⟨(-1 : Int32), rfl, N53, rfl, (by simp [clo, hc9_5, hc60_35, hc74_38, hc60_47, hc74_50])⟩
theorem ef_clo2 (m : MethodId) (x0 : Addr) : entryFrame m #[(.ref x0), (.int (2 : Int32))] 5 = mkF m 0 #[.val (.ref x0), .val (.int (2 : Int32)), .unset, .unset, .unset] [] := by first | (simp [entryFrame, mkF, argsToLocals, Value.category]; done) | rfl
def Q_clo2 (Z : State) (xs : Addr) (tb : Addr) (kb : ClassId) (cd : Int32) (nB : Int32) (vs : List Value) (c0 : Int32) (c1 : Int32) (c2 : Int32) (c3 : Int32) (G1 : Int32) (G3 : Value) (h0 : Heap) (n0 : Nat) (v : Option Value) (h : Heap) (L : List Loc) : Prop := ∃ (r : Int32), v = some (.int r) ∧ Fr n0 L ∧ h = h0 ∧ (r = clo (decide (c2 = 34)) [((3 : Int32), c3)])
set_option maxRecDepth 65536 in
set_option maxHeartbeats 40000000 in
theorem rm_clo2 (l : Launch) (Z : State) (a0 : Array Value) (hw : ∀ d ∈ tables_1, d.before a0 Z = true) (ws : List Jvm.Cond) (xs : Addr) (tb : Addr) (kb : ClassId) (cd : Int32) (nB : Int32) (vs : List Value) (c0 : Int32) (c1 : Int32) (c2 : Int32) (c3 : Int32) (G1 : Int32) (G3 : Value) (h0 : Heap) (n0 : Nat) (Z0 : n0 ≤ h0.size) (E_xs : Exa Z h0 xs "java/lang/String") (F_value_xs : Fld Z h0 xs "java/lang/String" "value" "[B" (.ref tb)) (F_coder_xs : Fld Z h0 xs "java/lang/String" "coder" "B" (.int cd)) (V_tb : Arv Z h0 tb kb .byte nB vs (.int (0 : Int32))) (S_COMPACT_STRINGS : Sta Z Z.heap "java/lang/String" "COMPACT_STRINGS" "Z" (.int G1)) (S__assertionsDisabled : Sta Z Z.heap "java/lang/StringUTF16" "$assertionsDisabled" "Z" (.int (1 : Int32))) (S_HI_BYTE_SHIFT : Sta Z Z.heap "java/lang/StringUTF16" "HI_BYTE_SHIFT" "I" (.int (0 : Int32))) (S_LO_BYTE_SHIFT : Sta Z Z.heap "java/lang/StringUTF16" "LO_BYTE_SHIFT" "I" (.int (8 : Int32))) (S_SIOOBE_FORMATTER : Sta Z Z.heap "jdk/internal/util/Preconditions" "SIOOBE_FORMATTER" "Ljava/util/function/BiFunction;" G3) (OL : Old Z n0 h0) (hz : ¬ G1 = 0) (rG3 : G3.isRef = true) (s4 : Str4 c0 c1 c2 c3 cd nB vs) (ic0 : isC c0) (ic1 : isC c1) (ic2 : isC c2) (ic3 : isC c3) :
    MetFree l (⟨"com/example/planscribe/planscribe/terms/Quotes", "closing", "(Ljava/lang/CharSequence;I)I"⟩ : MethodName) (head1 (Jvm.Cond.code (⟨"com/example/planscribe/planscribe/terms/Quotes", "closing", "(Ljava/lang/CharSequence;I)I"⟩ : MethodName) prog_75_method_3_code 5 (some .int) :: ws) ({ frames := 5, cells := 0, slots := 0, locals := 66 } : Room)) (fun a U => a = #[(.ref xs), (.int (2 : Int32))] ∧ Z.Warmed39 U.vm ∧ U.heap = h0) (fun _ _ _ _ _ => True) (fun _ U o U' => ∃ v L, o = .returned v ∧ Q_clo2 Z xs tb kb cd nB vs c0 c1 c2 c3 G1 G3 h0 n0 v U'.heap L ∧ FrameEnd U o U' L ({ frames := 5, cells := 0, slots := 0, locals := 66 } : Room).cells ({ frames := 5, cells := 0, slots := 0, locals := 66 } : Room).slots) := by
  refine MetFree.of_bodySF (plainFor_of_name pn_5) hisR ?_
  intro p e s m args below meth c s₁ Bd hml0 hP hK
  obtain ⟨rfl, hZ, hh⟩ := hP
  have hx := Bd.exec
  have hby := Bd.bytes
  have hml : c.maxLocals = 5 := hml0
  have hown : s.vm.findClass "com/example/planscribe/planscribe/terms/Quotes" = some m.cls := findClass_of_methodNamed Bd.named
  have hnm := (name_of_methodNamed Bd.named Bd.method).1
  have X0 : Stand p l e ({ frames := 5, cells := 0, slots := 0, locals := 66 } : Room) s m #[(.ref xs), (.int (2 : Int32))] below meth c s₁ [] 0 0 := Stand.of_body Bd
  have e0 : s₁.heap = h0 := by rw [← hh, Bd.state]; rfl
  have N0 := Fr.nil n0
  obtain ⟨s0, hs0⟩ : ∃ z, z = (s₁.setTop (entryFrame m #[(.ref xs), (.int (2 : Int32))] 5)) := ⟨_, rfl⟩
  have P0 : ∀ t, GG p e below s₁ (mkF m 0 #[.val (.ref xs), .val (.int (2 : Int32)), .unset, .unset, .unset] []) t → Steps p.tables e below s0 t := fun t kk_ => by rw [hs0]; exact castTop (ef_clo2 m xs) kk_
  have P1 : ∀ t, GG p e below s₁ (mkF m 2 #[.val (.ref xs), .val (.int (2 : Int32)), .unset, .unset, .unset] [(.int (2 : Int32)), (.ref xs)]) t → Steps p.tables e below s0 t := fun t kk_ => P0 t (by
    refine XS.aloadN X0.here hx rfl (hb hby d_closing_0) rfl rfl ?_
    refine XS.iloadN X0.here hx rfl (hb hby d_closing_1) rfl ?_
    exact kk_)
  obtain ⟨cq2, kq2, q2a, q2b, q2c⟩ := isOf hZ e0 E_xs
  obtain ⟨_, _, ⟨T2, L2, k2, n2⟩, -, X2, ⟨Lc2, hQ2, l2, y2, z2⟩, st2⟩ := X0.interfaceBack hx (xi := mn_18) (y := mn_19) hown (mw hZ hw 64 rfl) (mw hZ hw 65 rfl) (mw hZ hw 66 rfl) (mw hZ hw 67 rfl) (mw hZ hw 68 rfl) (mw hZ hw 69 rfl) (mw hZ hw 70 rfl) (mw hZ hw 71 rfl) (by decide) (backOf (W := 0) (rm_sCh2 l Z a0 hw [] xs tb kb cd nB vs c0 c1 c2 c3 G1 G3 h0 n0 (Nat.le_trans Z0 (Nat.le_refl h0.size)) E_xs F_value_xs F_coder_xs V_tb S_COMPACT_STRINGS S__assertionsDisabled S_HI_BYTE_SHIFT S_LO_BYTE_SHIFT S_SIOOBE_FORMATTER OL hz rG3 s4 ic0 ic1 ic2 ic3) hZ (ww hw 72 rfl) (ww hw 8 rfl) (by decide) (by decide)) q2a q2b q2c (g := (mkF m 2 #[.val (.ref xs), .val (.int (2 : Int32)), .unset, .unset, .unset] [(.int (2 : Int32)), (.ref xs)])) rfl (by rw [hml]; rfl) (Steps.refl _) (argsL := [(.int (2 : Int32))]) (rest := []) (lenOf pd_15 rfl) rfl (by show 2 * 0 + _ ≤ _; exact Nat.le_of_eq rfl) (hb hby d_closing_2) (fun _ _ => ⟨rfl, e0, (by decide : 0 + 0 ≤ _), (by decide : 0 + 0 ≤ _)⟩)
  dsimp only [Pt.U, Pt.locs, Pt.cells, Pt.slots] at X2 l2 y2 z2 st2 hQ2
  subst l2 y2 z2
  obtain ⟨rfl, N2q, e2⟩ := hQ2
  have N2 := Fr.app N0 N2q
  have P3 : ∀ t, GG p e below T2 (mkF m 7 #[.val (.ref xs), .val (.int (2 : Int32)), .unset, .unset, .unset] [(.int c2)]) t → Steps p.tables e below s0 t := fun t kk_ => P1 t (st2.trans kk_)
  have P4 : ∀ t, GG p e below T2 (mkF m 9 #[.val (.ref xs), .val (.int (2 : Int32)), .unset, .unset, .unset] [(.int (34 : Int32)), (.int c2)]) t → Steps p.tables e below s0 t := fun t kk_ => P3 t (by
    refine XS.bipush X2.here hx rfl (hb hby d_closing_7) ?_
    exact kk_)
  by_cases hc9_5 : c2 = (34 : Int32)
  ·
    have P6 : ∀ t, GG p e below T2 (mkF m 24 #[.val (.ref xs), .val (.int (2 : Int32)), .val (.int (1 : Int32)), .val (.int (3 : Int32)), .unset] [(.ref xs), (.int (3 : Int32))]) t → Steps p.tables e below s0 t := fun t kk_ => P4 t (by
      refine XS.icmpNo X2.here hx rfl (hb hby d_closing_9) rfl (teq (hc9_5 : c2 = (34 : Int32))).2 ?_
      refine XS.iconst X2.here hx rfl (hb hby d_closing_12) ?_
      refine XS.goto X2.here hx rfl (pc0 := 13) (pc' := 17) rfl (hb hby d_closing_13) (by decide) (by decide) ?_
      refine XS.istoreN X2.here hx rfl (hb hby d_closing_17) rfl (l' := #[.val (.ref xs), .val (.int (2 : Int32)), .val (.int (1 : Int32)), .unset, .unset]) rfl ?_
      refine XS.iloadN X2.here hx rfl (hb hby d_closing_18) rfl ?_
      refine XS.iconst X2.here hx rfl (hb hby d_closing_19) ?_
      refine XS.iadd X2.here hx rfl (hb hby d_closing_20) rfl ?_
      refine XS.istoreN X2.here hx rfl (hb hby d_closing_21) rfl (l' := #[.val (.ref xs), .val (.int (2 : Int32)), .val (.int (1 : Int32)), .val (.int (3 : Int32)), .unset]) rfl ?_
      refine XS.iloadN X2.here hx rfl (hb hby d_closing_22) rfl ?_
      refine XS.aloadN X2.here hx rfl (hb hby d_closing_23) rfl rfl ?_
      exact kk_)
    obtain ⟨cq7, kq7, q7a, q7b, q7c⟩ := isOf hZ e2 E_xs
    obtain ⟨_, _, ⟨T7, L7, k7, n7⟩, -, X7, ⟨Lc7, hQ7, l7, y7, z7⟩, st7⟩ := X2.interfaceBack hx (xi := mn_20) (y := mn_21) hown (mw hZ hw 95 rfl) (mw hZ hw 96 rfl) (mw hZ hw 97 rfl) (mw hZ hw 98 rfl) (mw hZ hw 99 rfl) (mw hZ hw 100 rfl) (mw hZ hw 101 rfl) (mw hZ hw 71 rfl) (by decide) (backOf (W := 1) (rm_len4 l Z a0 hw [] xs tb kb cd nB vs c0 c1 c2 c3 G1 h0 n0 (Nat.le_trans Z0 (Nat.le_refl h0.size)) E_xs F_value_xs F_coder_xs V_tb S_COMPACT_STRINGS OL hz s4) hZ (ww hw 102 rfl) (ww hw 8 rfl) (by decide) (by decide)) q7a q7b q7c (g := (mkF m 24 #[.val (.ref xs), .val (.int (2 : Int32)), .val (.int (1 : Int32)), .val (.int (3 : Int32)), .unset] [(.ref xs), (.int (3 : Int32))])) rfl (by rw [hml]; rfl) (Steps.refl _) (argsL := []) (rest := [(.int (3 : Int32))]) (lenOf pd_16 rfl) rfl (by show 2 * 0 + _ ≤ _; exact Nat.le_of_eq rfl) (hb hby d_closing_24) (fun _ _ => ⟨rfl, e2, (by decide : 0 + 0 ≤ _), (by decide : 0 + 0 ≤ _)⟩)
    dsimp only [Pt.U, Pt.locs, Pt.cells, Pt.slots] at X7 l7 y7 z7 st7 hQ7
    subst l7 y7 z7
    obtain ⟨rfl, N7q, e7⟩ := hQ7
    have N7 := Fr.app N2 N7q
    have P8 : ∀ t, GG p e below T7 (mkF m 29 #[.val (.ref xs), .val (.int (2 : Int32)), .val (.int (1 : Int32)), .val (.int (3 : Int32)), .unset] [(.int (4 : Int32)), (.int (3 : Int32))]) t → Steps p.tables e below s0 t := fun t kk_ => P6 t (st7.trans kk_)
    have P9 : ∀ t, GG p e below T7 (mkF m 34 #[.val (.ref xs), .val (.int (2 : Int32)), .val (.int (1 : Int32)), .val (.int (3 : Int32)), .unset] [(.int (3 : Int32)), (.ref xs)]) t → Steps p.tables e below s0 t := fun t kk_ => P8 t (by
      refine XS.icmpNo X7.here hx rfl (hb hby d_closing_29) rfl (tlt ((by decide) : (3 : Int32) < (4 : Int32))).2.1 ?_
      refine XS.aloadN X7.here hx rfl (hb hby d_closing_32) rfl rfl ?_
      refine XS.iloadN X7.here hx rfl (hb hby d_closing_33) rfl ?_
      exact kk_)
    obtain ⟨cq10, kq10, q10a, q10b, q10c⟩ := isOf hZ e7 E_xs
    obtain ⟨_, _, ⟨T10, L10, k10, n10⟩, -, X10, ⟨Lc10, hQ10, l10, y10, z10⟩, st10⟩ := X7.interfaceBack hx (xi := mn_18) (y := mn_19) hown (mw hZ hw 64 rfl) (mw hZ hw 65 rfl) (mw hZ hw 66 rfl) (mw hZ hw 67 rfl) (mw hZ hw 68 rfl) (mw hZ hw 69 rfl) (mw hZ hw 70 rfl) (mw hZ hw 71 rfl) (by decide) (backOf (W := 0) (rm_sCh3 l Z a0 hw [] xs tb kb cd nB vs c0 c1 c2 c3 G1 G3 h0 n0 (Nat.le_trans Z0 (Nat.le_refl h0.size)) E_xs F_value_xs F_coder_xs V_tb S_COMPACT_STRINGS S__assertionsDisabled S_HI_BYTE_SHIFT S_LO_BYTE_SHIFT S_SIOOBE_FORMATTER OL hz rG3 s4 ic0 ic1 ic2 ic3) hZ (ww hw 72 rfl) (ww hw 8 rfl) (by decide) (by decide)) q10a q10b q10c (g := (mkF m 34 #[.val (.ref xs), .val (.int (2 : Int32)), .val (.int (1 : Int32)), .val (.int (3 : Int32)), .unset] [(.int (3 : Int32)), (.ref xs)])) rfl (by rw [hml]; rfl) (Steps.refl _) (argsL := [(.int (3 : Int32))]) (rest := []) (lenOf pd_15 rfl) rfl (by show 2 * 0 + _ ≤ _; exact Nat.le_of_eq rfl) (hb hby d_closing_34) (fun _ _ => ⟨rfl, e7, (by decide : 0 + 0 ≤ _), (by decide : 0 + 0 ≤ _)⟩)
    dsimp only [Pt.U, Pt.locs, Pt.cells, Pt.slots] at X10 l10 y10 z10 st10 hQ10
    subst l10 y10 z10
    obtain ⟨rfl, N10q, e10⟩ := hQ10
    have N10 := Fr.app N7 N10q
    have P11 : ∀ t, GG p e below T10 (mkF m 39 #[.val (.ref xs), .val (.int (2 : Int32)), .val (.int (1 : Int32)), .val (.int (3 : Int32)), .unset] [(.int c3)]) t → Steps p.tables e below s0 t := fun t kk_ => P9 t (st10.trans kk_)
    have P12 : ∀ t, GG p e below T10 (mkF m 49 #[.val (.ref xs), .val (.int (2 : Int32)), .val (.int (1 : Int32)), .val (.int (3 : Int32)), .val (.int c3)] [(.int (34 : Int32)), (.int c3)]) t → Steps p.tables e below s0 t := fun t kk_ => P11 t (by
      refine XS.istore X10.here hx rfl (hb hby d_closing_39) rfl (l' := #[.val (.ref xs), .val (.int (2 : Int32)), .val (.int (1 : Int32)), .val (.int (3 : Int32)), .val (.int c3)]) rfl ?_
      refine XS.iloadN X10.here hx rfl (hb hby d_closing_41) rfl ?_
      refine XS.ifNo X10.here hx rfl (hb hby d_closing_42) rfl ((if0 _ _).trans (feq ((by decide) : ¬ ((1 : Int32) = (0 : Int32)))).1) ?_
      refine XS.iload X10.here hx rfl (hb hby d_closing_45) rfl ?_
      refine XS.bipush X10.here hx rfl (hb hby d_closing_47) ?_
      exact kk_)
    by_cases hc49_13 : c3 = (34 : Int32)
    ·
      have P14 : ∀ t, GG p e below T10 (mkF m 64 #[.val (.ref xs), .val (.int (2 : Int32)), .val (.int (1 : Int32)), .val (.int (3 : Int32)), .val (.int c3)] [(.int (3 : Int32))]) t → Steps p.tables e below s0 t := fun t kk_ => P12 t (by
        refine XS.icmpNo X10.here hx rfl (hb hby d_closing_49) rfl (teq (hc49_13 : c3 = (34 : Int32))).2 ?_
        refine XS.goto X10.here hx rfl (pc0 := 52) (pc' := 63) rfl (hb hby d_closing_52) (by decide) (by decide) ?_
        refine XS.iloadN X10.here hx rfl (hb hby d_closing_63) rfl ?_
        exact kk_)
      subst hs0
      obtain ⟨fs, hr, hrun, hended, hW, hsame⟩ := X10.leave (v := some (.int (3 : Int32))) (fun h => by rw [Bd.returns] at h; cases h)
      refine ⟨_, _, P14 _ ?_, hrun, hended, _, _, rfl, ?_, ⟨_, rfl⟩, hW, hsame.mono (by decide) (by decide)⟩
      · show GG p e below T10 (mkF m 64 #[.val (.ref xs), .val (.int (2 : Int32)), .val (.int (1 : Int32)), .val (.int (3 : Int32)), .val (.int c3)] [(.int (3 : Int32))]) _
        exact retI X10 hx Bd.returns (hb hby d_closing_64) hr
      · show Q_clo2 Z xs tb kb cd nB vs c0 c1 c2 c3 G1 G3 h0 n0 _ T10.heap _
        rw [e10]
        exact ⟨(3 : Int32), rfl, N10, rfl, (by simp [clo, hc9_5, hc49_13])⟩
    ·
      have P15 : ∀ t, GG p e below T10 (mkF m 24 #[.val (.ref xs), .val (.int (2 : Int32)), .val (.int (1 : Int32)), .val (.int (4 : Int32)), .val (.int c3)] [(.ref xs), (.int (4 : Int32))]) t → Steps p.tables e below s0 t := fun t kk_ => P12 t (by
        refine XS.icmpYes X10.here hx rfl (pc0 := 49) (pc' := 65) rfl (hb hby d_closing_49) rfl (feq (hc49_13 : ¬ (c3 = (34 : Int32)))).2 (by decide) (by decide) ?_
        refine XS.iloadN X10.here hx rfl (hb hby d_closing_65) rfl ?_
        refine XS.ifYes X10.here hx rfl (pc0 := 66) (pc' := 79) rfl (hb hby d_closing_66) rfl ((if0 _ _).trans (feq ((by decide) : ¬ ((1 : Int32) = (0 : Int32)))).2) (by decide) (by decide) ?_
        refine XS.iinc X10.here hx rfl (hb hby d_closing_79) rfl (l' := #[.val (.ref xs), .val (.int (2 : Int32)), .val (.int (1 : Int32)), .val (.int (4 : Int32)), .val (.int c3)]) rfl ?_
        refine XS.goto X10.here hx rfl (pc0 := 82) (pc' := 22) rfl (hb hby d_closing_82) (by decide) (by decide) ?_
        refine XS.iloadN X10.here hx rfl (hb hby d_closing_22) rfl ?_
        refine XS.aloadN X10.here hx rfl (hb hby d_closing_23) rfl rfl ?_
        exact kk_)
      obtain ⟨cq16, kq16, q16a, q16b, q16c⟩ := isOf hZ e10 E_xs
      obtain ⟨_, _, ⟨T16, L16, k16, n16⟩, -, X16, ⟨Lc16, hQ16, l16, y16, z16⟩, st16⟩ := X10.interfaceBack hx (xi := mn_20) (y := mn_21) hown (mw hZ hw 95 rfl) (mw hZ hw 96 rfl) (mw hZ hw 97 rfl) (mw hZ hw 98 rfl) (mw hZ hw 99 rfl) (mw hZ hw 100 rfl) (mw hZ hw 101 rfl) (mw hZ hw 71 rfl) (by decide) (backOf (W := 1) (rm_len4 l Z a0 hw [] xs tb kb cd nB vs c0 c1 c2 c3 G1 h0 n0 (Nat.le_trans Z0 (Nat.le_refl h0.size)) E_xs F_value_xs F_coder_xs V_tb S_COMPACT_STRINGS OL hz s4) hZ (ww hw 102 rfl) (ww hw 8 rfl) (by decide) (by decide)) q16a q16b q16c (g := (mkF m 24 #[.val (.ref xs), .val (.int (2 : Int32)), .val (.int (1 : Int32)), .val (.int (4 : Int32)), .val (.int c3)] [(.ref xs), (.int (4 : Int32))])) rfl (by rw [hml]; rfl) (Steps.refl _) (argsL := []) (rest := [(.int (4 : Int32))]) (lenOf pd_16 rfl) rfl (by show 2 * 0 + _ ≤ _; exact Nat.le_of_eq rfl) (hb hby d_closing_24) (fun _ _ => ⟨rfl, e10, (by decide : 0 + 0 ≤ _), (by decide : 0 + 0 ≤ _)⟩)
      dsimp only [Pt.U, Pt.locs, Pt.cells, Pt.slots] at X16 l16 y16 z16 st16 hQ16
      subst l16 y16 z16
      obtain ⟨rfl, N16q, e16⟩ := hQ16
      have N16 := Fr.app N10 N16q
      have P17 : ∀ t, GG p e below T16 (mkF m 29 #[.val (.ref xs), .val (.int (2 : Int32)), .val (.int (1 : Int32)), .val (.int (4 : Int32)), .val (.int c3)] [(.int (4 : Int32)), (.int (4 : Int32))]) t → Steps p.tables e below s0 t := fun t kk_ => P15 t (st16.trans kk_)
      have P18 : ∀ t, GG p e below T16 (mkF m 86 #[.val (.ref xs), .val (.int (2 : Int32)), .val (.int (1 : Int32)), .val (.int (4 : Int32)), .val (.int c3)] [(.int (-1 : Int32))]) t → Steps p.tables e below s0 t := fun t kk_ => P17 t (by
        refine XS.icmpYes X16.here hx rfl (pc0 := 29) (pc' := 85) rfl (hb hby d_closing_29) rfl (flt ((by decide) : ¬ ((4 : Int32) < (4 : Int32)))).2.1 (by decide) (by decide) ?_
        refine XS.iconst X16.here hx rfl (hb hby d_closing_85) ?_
        exact kk_)
      subst hs0
      obtain ⟨fs, hr, hrun, hended, hW, hsame⟩ := X16.leave (v := some (.int (-1 : Int32))) (fun h => by rw [Bd.returns] at h; cases h)
      refine ⟨_, _, P18 _ ?_, hrun, hended, _, _, rfl, ?_, ⟨_, rfl⟩, hW, hsame.mono (by decide) (by decide)⟩
      · show GG p e below T16 (mkF m 86 #[.val (.ref xs), .val (.int (2 : Int32)), .val (.int (1 : Int32)), .val (.int (4 : Int32)), .val (.int c3)] [(.int (-1 : Int32))]) _
        exact retI X16 hx Bd.returns (hb hby d_closing_86) hr
      · show Q_clo2 Z xs tb kb cd nB vs c0 c1 c2 c3 G1 G3 h0 n0 _ T16.heap _
        rw [e16]
        exact ⟨(-1 : Int32), rfl, N16, rfl, (by simp [clo, hc9_5, hc49_13])⟩
  ·
    have P19 : ∀ t, GG p e below T2 (mkF m 24 #[.val (.ref xs), .val (.int (2 : Int32)), .val (.int (0 : Int32)), .val (.int (3 : Int32)), .unset] [(.ref xs), (.int (3 : Int32))]) t → Steps p.tables e below s0 t := fun t kk_ => P4 t (by
      refine XS.icmpYes X2.here hx rfl (pc0 := 9) (pc' := 16) rfl (hb hby d_closing_9) rfl (feq (hc9_5 : ¬ (c2 = (34 : Int32)))).2 (by decide) (by decide) ?_
      refine XS.iconst X2.here hx rfl (hb hby d_closing_16) ?_
      refine XS.istoreN X2.here hx rfl (hb hby d_closing_17) rfl (l' := #[.val (.ref xs), .val (.int (2 : Int32)), .val (.int (0 : Int32)), .unset, .unset]) rfl ?_
      refine XS.iloadN X2.here hx rfl (hb hby d_closing_18) rfl ?_
      refine XS.iconst X2.here hx rfl (hb hby d_closing_19) ?_
      refine XS.iadd X2.here hx rfl (hb hby d_closing_20) rfl ?_
      refine XS.istoreN X2.here hx rfl (hb hby d_closing_21) rfl (l' := #[.val (.ref xs), .val (.int (2 : Int32)), .val (.int (0 : Int32)), .val (.int (3 : Int32)), .unset]) rfl ?_
      refine XS.iloadN X2.here hx rfl (hb hby d_closing_22) rfl ?_
      refine XS.aloadN X2.here hx rfl (hb hby d_closing_23) rfl rfl ?_
      exact kk_)
    obtain ⟨cq20, kq20, q20a, q20b, q20c⟩ := isOf hZ e2 E_xs
    obtain ⟨_, _, ⟨T20, L20, k20, n20⟩, -, X20, ⟨Lc20, hQ20, l20, y20, z20⟩, st20⟩ := X2.interfaceBack hx (xi := mn_20) (y := mn_21) hown (mw hZ hw 95 rfl) (mw hZ hw 96 rfl) (mw hZ hw 97 rfl) (mw hZ hw 98 rfl) (mw hZ hw 99 rfl) (mw hZ hw 100 rfl) (mw hZ hw 101 rfl) (mw hZ hw 71 rfl) (by decide) (backOf (W := 1) (rm_len4 l Z a0 hw [] xs tb kb cd nB vs c0 c1 c2 c3 G1 h0 n0 (Nat.le_trans Z0 (Nat.le_refl h0.size)) E_xs F_value_xs F_coder_xs V_tb S_COMPACT_STRINGS OL hz s4) hZ (ww hw 102 rfl) (ww hw 8 rfl) (by decide) (by decide)) q20a q20b q20c (g := (mkF m 24 #[.val (.ref xs), .val (.int (2 : Int32)), .val (.int (0 : Int32)), .val (.int (3 : Int32)), .unset] [(.ref xs), (.int (3 : Int32))])) rfl (by rw [hml]; rfl) (Steps.refl _) (argsL := []) (rest := [(.int (3 : Int32))]) (lenOf pd_16 rfl) rfl (by show 2 * 0 + _ ≤ _; exact Nat.le_of_eq rfl) (hb hby d_closing_24) (fun _ _ => ⟨rfl, e2, (by decide : 0 + 0 ≤ _), (by decide : 0 + 0 ≤ _)⟩)
    dsimp only [Pt.U, Pt.locs, Pt.cells, Pt.slots] at X20 l20 y20 z20 st20 hQ20
    subst l20 y20 z20
    obtain ⟨rfl, N20q, e20⟩ := hQ20
    have N20 := Fr.app N2 N20q
    have P21 : ∀ t, GG p e below T20 (mkF m 29 #[.val (.ref xs), .val (.int (2 : Int32)), .val (.int (0 : Int32)), .val (.int (3 : Int32)), .unset] [(.int (4 : Int32)), (.int (3 : Int32))]) t → Steps p.tables e below s0 t := fun t kk_ => P19 t (st20.trans kk_)
    have P22 : ∀ t, GG p e below T20 (mkF m 34 #[.val (.ref xs), .val (.int (2 : Int32)), .val (.int (0 : Int32)), .val (.int (3 : Int32)), .unset] [(.int (3 : Int32)), (.ref xs)]) t → Steps p.tables e below s0 t := fun t kk_ => P21 t (by
      refine XS.icmpNo X20.here hx rfl (hb hby d_closing_29) rfl (tlt ((by decide) : (3 : Int32) < (4 : Int32))).2.1 ?_
      refine XS.aloadN X20.here hx rfl (hb hby d_closing_32) rfl rfl ?_
      refine XS.iloadN X20.here hx rfl (hb hby d_closing_33) rfl ?_
      exact kk_)
    obtain ⟨cq23, kq23, q23a, q23b, q23c⟩ := isOf hZ e20 E_xs
    obtain ⟨_, _, ⟨T23, L23, k23, n23⟩, -, X23, ⟨Lc23, hQ23, l23, y23, z23⟩, st23⟩ := X20.interfaceBack hx (xi := mn_18) (y := mn_19) hown (mw hZ hw 64 rfl) (mw hZ hw 65 rfl) (mw hZ hw 66 rfl) (mw hZ hw 67 rfl) (mw hZ hw 68 rfl) (mw hZ hw 69 rfl) (mw hZ hw 70 rfl) (mw hZ hw 71 rfl) (by decide) (backOf (W := 0) (rm_sCh3 l Z a0 hw [] xs tb kb cd nB vs c0 c1 c2 c3 G1 G3 h0 n0 (Nat.le_trans Z0 (Nat.le_refl h0.size)) E_xs F_value_xs F_coder_xs V_tb S_COMPACT_STRINGS S__assertionsDisabled S_HI_BYTE_SHIFT S_LO_BYTE_SHIFT S_SIOOBE_FORMATTER OL hz rG3 s4 ic0 ic1 ic2 ic3) hZ (ww hw 72 rfl) (ww hw 8 rfl) (by decide) (by decide)) q23a q23b q23c (g := (mkF m 34 #[.val (.ref xs), .val (.int (2 : Int32)), .val (.int (0 : Int32)), .val (.int (3 : Int32)), .unset] [(.int (3 : Int32)), (.ref xs)])) rfl (by rw [hml]; rfl) (Steps.refl _) (argsL := [(.int (3 : Int32))]) (rest := []) (lenOf pd_15 rfl) rfl (by show 2 * 0 + _ ≤ _; exact Nat.le_of_eq rfl) (hb hby d_closing_34) (fun _ _ => ⟨rfl, e20, (by decide : 0 + 0 ≤ _), (by decide : 0 + 0 ≤ _)⟩)
    dsimp only [Pt.U, Pt.locs, Pt.cells, Pt.slots] at X23 l23 y23 z23 st23 hQ23
    subst l23 y23 z23
    obtain ⟨rfl, N23q, e23⟩ := hQ23
    have N23 := Fr.app N20 N23q
    have P24 : ∀ t, GG p e below T23 (mkF m 39 #[.val (.ref xs), .val (.int (2 : Int32)), .val (.int (0 : Int32)), .val (.int (3 : Int32)), .unset] [(.int c3)]) t → Steps p.tables e below s0 t := fun t kk_ => P22 t (st23.trans kk_)
    have P25 : ∀ t, GG p e below T23 (mkF m 60 #[.val (.ref xs), .val (.int (2 : Int32)), .val (.int (0 : Int32)), .val (.int (3 : Int32)), .val (.int c3)] [(.int (8221 : Int32)), (.int c3)]) t → Steps p.tables e below s0 t := fun t kk_ => P24 t (by
      refine XS.istore X23.here hx rfl (hb hby d_closing_39) rfl (l' := #[.val (.ref xs), .val (.int (2 : Int32)), .val (.int (0 : Int32)), .val (.int (3 : Int32)), .val (.int c3)]) rfl ?_
      refine XS.iloadN X23.here hx rfl (hb hby d_closing_41) rfl ?_
      refine XS.ifYes X23.here hx rfl (pc0 := 42) (pc' := 55) rfl (hb hby d_closing_42) rfl ((if0 _ _).trans (teq ((by decide) : (0 : Int32) = (0 : Int32))).1) (by decide) (by decide) ?_
      refine XS.iload X23.here hx rfl (hb hby d_closing_55) rfl ?_
      refine XS.sipush X23.here hx rfl (hb hby d_closing_57) ?_
      exact kk_)
    by_cases hc60_26 : c3 = (8221 : Int32)
    ·
      have P27 : ∀ t, GG p e below T23 (mkF m 64 #[.val (.ref xs), .val (.int (2 : Int32)), .val (.int (0 : Int32)), .val (.int (3 : Int32)), .val (.int c3)] [(.int (3 : Int32))]) t → Steps p.tables e below s0 t := fun t kk_ => P25 t (by
        refine XS.icmpNo X23.here hx rfl (hb hby d_closing_60) rfl (teq (hc60_26 : c3 = (8221 : Int32))).2 ?_
        refine XS.iloadN X23.here hx rfl (hb hby d_closing_63) rfl ?_
        exact kk_)
      subst hs0
      obtain ⟨fs, hr, hrun, hended, hW, hsame⟩ := X23.leave (v := some (.int (3 : Int32))) (fun h => by rw [Bd.returns] at h; cases h)
      refine ⟨_, _, P27 _ ?_, hrun, hended, _, _, rfl, ?_, ⟨_, rfl⟩, hW, hsame.mono (by decide) (by decide)⟩
      · show GG p e below T23 (mkF m 64 #[.val (.ref xs), .val (.int (2 : Int32)), .val (.int (0 : Int32)), .val (.int (3 : Int32)), .val (.int c3)] [(.int (3 : Int32))]) _
        exact retI X23 hx Bd.returns (hb hby d_closing_64) hr
      · show Q_clo2 Z xs tb kb cd nB vs c0 c1 c2 c3 G1 G3 h0 n0 _ T23.heap _
        rw [e23]
        exact ⟨(3 : Int32), rfl, N23, rfl, (by simp [clo, hc9_5, hc60_26])⟩
    ·
      have P28 : ∀ t, GG p e below T23 (mkF m 74 #[.val (.ref xs), .val (.int (2 : Int32)), .val (.int (0 : Int32)), .val (.int (3 : Int32)), .val (.int c3)] [(.int (8220 : Int32)), (.int c3)]) t → Steps p.tables e below s0 t := fun t kk_ => P25 t (by
        refine XS.icmpYes X23.here hx rfl (pc0 := 60) (pc' := 65) rfl (hb hby d_closing_60) rfl (feq (hc60_26 : ¬ (c3 = (8221 : Int32)))).2 (by decide) (by decide) ?_
        refine XS.iloadN X23.here hx rfl (hb hby d_closing_65) rfl ?_
        refine XS.ifNo X23.here hx rfl (hb hby d_closing_66) rfl ((if0 _ _).trans (teq ((by decide) : (0 : Int32) = (0 : Int32))).2) ?_
        refine XS.iload X23.here hx rfl (hb hby d_closing_69) rfl ?_
        refine XS.sipush X23.here hx rfl (hb hby d_closing_71) ?_
        exact kk_)
      by_cases hc74_29 : c3 = (8220 : Int32)
      ·
        have P30 : ∀ t, GG p e below T23 (mkF m 78 #[.val (.ref xs), .val (.int (2 : Int32)), .val (.int (0 : Int32)), .val (.int (3 : Int32)), .val (.int c3)] [(.int (-1 : Int32))]) t → Steps p.tables e below s0 t := fun t kk_ => P28 t (by
          refine XS.icmpNo X23.here hx rfl (hb hby d_closing_74) rfl (teq (hc74_29 : c3 = (8220 : Int32))).2 ?_
          refine XS.iconst X23.here hx rfl (hb hby d_closing_77) ?_
          exact kk_)
        subst hs0
        obtain ⟨fs, hr, hrun, hended, hW, hsame⟩ := X23.leave (v := some (.int (-1 : Int32))) (fun h => by rw [Bd.returns] at h; cases h)
        refine ⟨_, _, P30 _ ?_, hrun, hended, _, _, rfl, ?_, ⟨_, rfl⟩, hW, hsame.mono (by decide) (by decide)⟩
        · show GG p e below T23 (mkF m 78 #[.val (.ref xs), .val (.int (2 : Int32)), .val (.int (0 : Int32)), .val (.int (3 : Int32)), .val (.int c3)] [(.int (-1 : Int32))]) _
          exact retI X23 hx Bd.returns (hb hby d_closing_78) hr
        · show Q_clo2 Z xs tb kb cd nB vs c0 c1 c2 c3 G1 G3 h0 n0 _ T23.heap _
          rw [e23]
          exact ⟨(-1 : Int32), rfl, N23, rfl, (by simp [clo, hc9_5, hc60_26, hc74_29])⟩
      ·
        have P31 : ∀ t, GG p e below T23 (mkF m 24 #[.val (.ref xs), .val (.int (2 : Int32)), .val (.int (0 : Int32)), .val (.int (4 : Int32)), .val (.int c3)] [(.ref xs), (.int (4 : Int32))]) t → Steps p.tables e below s0 t := fun t kk_ => P28 t (by
          refine XS.icmpYes X23.here hx rfl (pc0 := 74) (pc' := 79) rfl (hb hby d_closing_74) rfl (feq (hc74_29 : ¬ (c3 = (8220 : Int32)))).2 (by decide) (by decide) ?_
          refine XS.iinc X23.here hx rfl (hb hby d_closing_79) rfl (l' := #[.val (.ref xs), .val (.int (2 : Int32)), .val (.int (0 : Int32)), .val (.int (4 : Int32)), .val (.int c3)]) rfl ?_
          refine XS.goto X23.here hx rfl (pc0 := 82) (pc' := 22) rfl (hb hby d_closing_82) (by decide) (by decide) ?_
          refine XS.iloadN X23.here hx rfl (hb hby d_closing_22) rfl ?_
          refine XS.aloadN X23.here hx rfl (hb hby d_closing_23) rfl rfl ?_
          exact kk_)
        obtain ⟨cq32, kq32, q32a, q32b, q32c⟩ := isOf hZ e23 E_xs
        obtain ⟨_, _, ⟨T32, L32, k32, n32⟩, -, X32, ⟨Lc32, hQ32, l32, y32, z32⟩, st32⟩ := X23.interfaceBack hx (xi := mn_20) (y := mn_21) hown (mw hZ hw 95 rfl) (mw hZ hw 96 rfl) (mw hZ hw 97 rfl) (mw hZ hw 98 rfl) (mw hZ hw 99 rfl) (mw hZ hw 100 rfl) (mw hZ hw 101 rfl) (mw hZ hw 71 rfl) (by decide) (backOf (W := 1) (rm_len4 l Z a0 hw [] xs tb kb cd nB vs c0 c1 c2 c3 G1 h0 n0 (Nat.le_trans Z0 (Nat.le_refl h0.size)) E_xs F_value_xs F_coder_xs V_tb S_COMPACT_STRINGS OL hz s4) hZ (ww hw 102 rfl) (ww hw 8 rfl) (by decide) (by decide)) q32a q32b q32c (g := (mkF m 24 #[.val (.ref xs), .val (.int (2 : Int32)), .val (.int (0 : Int32)), .val (.int (4 : Int32)), .val (.int c3)] [(.ref xs), (.int (4 : Int32))])) rfl (by rw [hml]; rfl) (Steps.refl _) (argsL := []) (rest := [(.int (4 : Int32))]) (lenOf pd_16 rfl) rfl (by show 2 * 0 + _ ≤ _; exact Nat.le_of_eq rfl) (hb hby d_closing_24) (fun _ _ => ⟨rfl, e23, (by decide : 0 + 0 ≤ _), (by decide : 0 + 0 ≤ _)⟩)
        dsimp only [Pt.U, Pt.locs, Pt.cells, Pt.slots] at X32 l32 y32 z32 st32 hQ32
        subst l32 y32 z32
        obtain ⟨rfl, N32q, e32⟩ := hQ32
        have N32 := Fr.app N23 N32q
        have P33 : ∀ t, GG p e below T32 (mkF m 29 #[.val (.ref xs), .val (.int (2 : Int32)), .val (.int (0 : Int32)), .val (.int (4 : Int32)), .val (.int c3)] [(.int (4 : Int32)), (.int (4 : Int32))]) t → Steps p.tables e below s0 t := fun t kk_ => P31 t (st32.trans kk_)
        have P34 : ∀ t, GG p e below T32 (mkF m 86 #[.val (.ref xs), .val (.int (2 : Int32)), .val (.int (0 : Int32)), .val (.int (4 : Int32)), .val (.int c3)] [(.int (-1 : Int32))]) t → Steps p.tables e below s0 t := fun t kk_ => P33 t (by
          refine XS.icmpYes X32.here hx rfl (pc0 := 29) (pc' := 85) rfl (hb hby d_closing_29) rfl (flt ((by decide) : ¬ ((4 : Int32) < (4 : Int32)))).2.1 (by decide) (by decide) ?_
          refine XS.iconst X32.here hx rfl (hb hby d_closing_85) ?_
          exact kk_)
        subst hs0
        obtain ⟨fs, hr, hrun, hended, hW, hsame⟩ := X32.leave (v := some (.int (-1 : Int32))) (fun h => by rw [Bd.returns] at h; cases h)
        refine ⟨_, _, P34 _ ?_, hrun, hended, _, _, rfl, ?_, ⟨_, rfl⟩, hW, hsame.mono (by decide) (by decide)⟩
        · show GG p e below T32 (mkF m 86 #[.val (.ref xs), .val (.int (2 : Int32)), .val (.int (0 : Int32)), .val (.int (4 : Int32)), .val (.int c3)] [(.int (-1 : Int32))]) _
          exact retI X32 hx Bd.returns (hb hby d_closing_86) hr
        · show Q_clo2 Z xs tb kb cd nB vs c0 c1 c2 c3 G1 G3 h0 n0 _ T32.heap _
          rw [e32]
          exact ⟨(-1 : Int32), rfl, N32, rfl, (by simp [clo, hc9_5, hc60_26, hc74_29])⟩
theorem ef_clo3 (m : MethodId) (x0 : Addr) : entryFrame m #[(.ref x0), (.int (3 : Int32))] 5 = mkF m 0 #[.val (.ref x0), .val (.int (3 : Int32)), .unset, .unset, .unset] [] := by first | (simp [entryFrame, mkF, argsToLocals, Value.category]; done) | rfl
def Q_clo3 (Z : State) (xs : Addr) (tb : Addr) (kb : ClassId) (cd : Int32) (nB : Int32) (vs : List Value) (c0 : Int32) (c1 : Int32) (c2 : Int32) (c3 : Int32) (G1 : Int32) (G3 : Value) (h0 : Heap) (n0 : Nat) (v : Option Value) (h : Heap) (L : List Loc) : Prop := ∃ (r : Int32), v = some (.int r) ∧ Fr n0 L ∧ h = h0 ∧ (r = clo (decide (c3 = 34)) [])
set_option maxRecDepth 65536 in
set_option maxHeartbeats 40000000 in
theorem rm_clo3 (l : Launch) (Z : State) (a0 : Array Value) (hw : ∀ d ∈ tables_1, d.before a0 Z = true) (ws : List Jvm.Cond) (xs : Addr) (tb : Addr) (kb : ClassId) (cd : Int32) (nB : Int32) (vs : List Value) (c0 : Int32) (c1 : Int32) (c2 : Int32) (c3 : Int32) (G1 : Int32) (G3 : Value) (h0 : Heap) (n0 : Nat) (Z0 : n0 ≤ h0.size) (E_xs : Exa Z h0 xs "java/lang/String") (F_value_xs : Fld Z h0 xs "java/lang/String" "value" "[B" (.ref tb)) (F_coder_xs : Fld Z h0 xs "java/lang/String" "coder" "B" (.int cd)) (V_tb : Arv Z h0 tb kb .byte nB vs (.int (0 : Int32))) (S_COMPACT_STRINGS : Sta Z Z.heap "java/lang/String" "COMPACT_STRINGS" "Z" (.int G1)) (S__assertionsDisabled : Sta Z Z.heap "java/lang/StringUTF16" "$assertionsDisabled" "Z" (.int (1 : Int32))) (S_HI_BYTE_SHIFT : Sta Z Z.heap "java/lang/StringUTF16" "HI_BYTE_SHIFT" "I" (.int (0 : Int32))) (S_LO_BYTE_SHIFT : Sta Z Z.heap "java/lang/StringUTF16" "LO_BYTE_SHIFT" "I" (.int (8 : Int32))) (S_SIOOBE_FORMATTER : Sta Z Z.heap "jdk/internal/util/Preconditions" "SIOOBE_FORMATTER" "Ljava/util/function/BiFunction;" G3) (OL : Old Z n0 h0) (hz : ¬ G1 = 0) (rG3 : G3.isRef = true) (s4 : Str4 c0 c1 c2 c3 cd nB vs) (ic0 : isC c0) (ic1 : isC c1) (ic2 : isC c2) (ic3 : isC c3) :
    MetFree l (⟨"com/example/planscribe/planscribe/terms/Quotes", "closing", "(Ljava/lang/CharSequence;I)I"⟩ : MethodName) (head1 (Jvm.Cond.code (⟨"com/example/planscribe/planscribe/terms/Quotes", "closing", "(Ljava/lang/CharSequence;I)I"⟩ : MethodName) prog_75_method_3_code 5 (some .int) :: ws) ({ frames := 5, cells := 0, slots := 0, locals := 66 } : Room)) (fun a U => a = #[(.ref xs), (.int (3 : Int32))] ∧ Z.Warmed39 U.vm ∧ U.heap = h0) (fun _ _ _ _ _ => True) (fun _ U o U' => ∃ v L, o = .returned v ∧ Q_clo3 Z xs tb kb cd nB vs c0 c1 c2 c3 G1 G3 h0 n0 v U'.heap L ∧ FrameEnd U o U' L ({ frames := 5, cells := 0, slots := 0, locals := 66 } : Room).cells ({ frames := 5, cells := 0, slots := 0, locals := 66 } : Room).slots) := by
  refine MetFree.of_bodySF (plainFor_of_name pn_5) hisR ?_
  intro p e s m args below meth c s₁ Bd hml0 hP hK
  obtain ⟨rfl, hZ, hh⟩ := hP
  have hx := Bd.exec
  have hby := Bd.bytes
  have hml : c.maxLocals = 5 := hml0
  have hown : s.vm.findClass "com/example/planscribe/planscribe/terms/Quotes" = some m.cls := findClass_of_methodNamed Bd.named
  have hnm := (name_of_methodNamed Bd.named Bd.method).1
  have X0 : Stand p l e ({ frames := 5, cells := 0, slots := 0, locals := 66 } : Room) s m #[(.ref xs), (.int (3 : Int32))] below meth c s₁ [] 0 0 := Stand.of_body Bd
  have e0 : s₁.heap = h0 := by rw [← hh, Bd.state]; rfl
  have N0 := Fr.nil n0
  obtain ⟨s0, hs0⟩ : ∃ z, z = (s₁.setTop (entryFrame m #[(.ref xs), (.int (3 : Int32))] 5)) := ⟨_, rfl⟩
  have P0 : ∀ t, GG p e below s₁ (mkF m 0 #[.val (.ref xs), .val (.int (3 : Int32)), .unset, .unset, .unset] []) t → Steps p.tables e below s0 t := fun t kk_ => by rw [hs0]; exact castTop (ef_clo3 m xs) kk_
  have P1 : ∀ t, GG p e below s₁ (mkF m 2 #[.val (.ref xs), .val (.int (3 : Int32)), .unset, .unset, .unset] [(.int (3 : Int32)), (.ref xs)]) t → Steps p.tables e below s0 t := fun t kk_ => P0 t (by
    refine XS.aloadN X0.here hx rfl (hb hby d_closing_0) rfl rfl ?_
    refine XS.iloadN X0.here hx rfl (hb hby d_closing_1) rfl ?_
    exact kk_)
  obtain ⟨cq2, kq2, q2a, q2b, q2c⟩ := isOf hZ e0 E_xs
  obtain ⟨_, _, ⟨T2, L2, k2, n2⟩, -, X2, ⟨Lc2, hQ2, l2, y2, z2⟩, st2⟩ := X0.interfaceBack hx (xi := mn_18) (y := mn_19) hown (mw hZ hw 64 rfl) (mw hZ hw 65 rfl) (mw hZ hw 66 rfl) (mw hZ hw 67 rfl) (mw hZ hw 68 rfl) (mw hZ hw 69 rfl) (mw hZ hw 70 rfl) (mw hZ hw 71 rfl) (by decide) (backOf (W := 0) (rm_sCh3 l Z a0 hw [] xs tb kb cd nB vs c0 c1 c2 c3 G1 G3 h0 n0 (Nat.le_trans Z0 (Nat.le_refl h0.size)) E_xs F_value_xs F_coder_xs V_tb S_COMPACT_STRINGS S__assertionsDisabled S_HI_BYTE_SHIFT S_LO_BYTE_SHIFT S_SIOOBE_FORMATTER OL hz rG3 s4 ic0 ic1 ic2 ic3) hZ (ww hw 72 rfl) (ww hw 8 rfl) (by decide) (by decide)) q2a q2b q2c (g := (mkF m 2 #[.val (.ref xs), .val (.int (3 : Int32)), .unset, .unset, .unset] [(.int (3 : Int32)), (.ref xs)])) rfl (by rw [hml]; rfl) (Steps.refl _) (argsL := [(.int (3 : Int32))]) (rest := []) (lenOf pd_15 rfl) rfl (by show 2 * 0 + _ ≤ _; exact Nat.le_of_eq rfl) (hb hby d_closing_2) (fun _ _ => ⟨rfl, e0, (by decide : 0 + 0 ≤ _), (by decide : 0 + 0 ≤ _)⟩)
  dsimp only [Pt.U, Pt.locs, Pt.cells, Pt.slots] at X2 l2 y2 z2 st2 hQ2
  subst l2 y2 z2
  obtain ⟨rfl, N2q, e2⟩ := hQ2
  have N2 := Fr.app N0 N2q
  have P3 : ∀ t, GG p e below T2 (mkF m 7 #[.val (.ref xs), .val (.int (3 : Int32)), .unset, .unset, .unset] [(.int c3)]) t → Steps p.tables e below s0 t := fun t kk_ => P1 t (st2.trans kk_)
  have P4 : ∀ t, GG p e below T2 (mkF m 9 #[.val (.ref xs), .val (.int (3 : Int32)), .unset, .unset, .unset] [(.int (34 : Int32)), (.int c3)]) t → Steps p.tables e below s0 t := fun t kk_ => P3 t (by
    refine XS.bipush X2.here hx rfl (hb hby d_closing_7) ?_
    exact kk_)
  by_cases hc9_5 : c3 = (34 : Int32)
  ·
    have P6 : ∀ t, GG p e below T2 (mkF m 24 #[.val (.ref xs), .val (.int (3 : Int32)), .val (.int (1 : Int32)), .val (.int (4 : Int32)), .unset] [(.ref xs), (.int (4 : Int32))]) t → Steps p.tables e below s0 t := fun t kk_ => P4 t (by
      refine XS.icmpNo X2.here hx rfl (hb hby d_closing_9) rfl (teq (hc9_5 : c3 = (34 : Int32))).2 ?_
      refine XS.iconst X2.here hx rfl (hb hby d_closing_12) ?_
      refine XS.goto X2.here hx rfl (pc0 := 13) (pc' := 17) rfl (hb hby d_closing_13) (by decide) (by decide) ?_
      refine XS.istoreN X2.here hx rfl (hb hby d_closing_17) rfl (l' := #[.val (.ref xs), .val (.int (3 : Int32)), .val (.int (1 : Int32)), .unset, .unset]) rfl ?_
      refine XS.iloadN X2.here hx rfl (hb hby d_closing_18) rfl ?_
      refine XS.iconst X2.here hx rfl (hb hby d_closing_19) ?_
      refine XS.iadd X2.here hx rfl (hb hby d_closing_20) rfl ?_
      refine XS.istoreN X2.here hx rfl (hb hby d_closing_21) rfl (l' := #[.val (.ref xs), .val (.int (3 : Int32)), .val (.int (1 : Int32)), .val (.int (4 : Int32)), .unset]) rfl ?_
      refine XS.iloadN X2.here hx rfl (hb hby d_closing_22) rfl ?_
      refine XS.aloadN X2.here hx rfl (hb hby d_closing_23) rfl rfl ?_
      exact kk_)
    obtain ⟨cq7, kq7, q7a, q7b, q7c⟩ := isOf hZ e2 E_xs
    obtain ⟨_, _, ⟨T7, L7, k7, n7⟩, -, X7, ⟨Lc7, hQ7, l7, y7, z7⟩, st7⟩ := X2.interfaceBack hx (xi := mn_20) (y := mn_21) hown (mw hZ hw 95 rfl) (mw hZ hw 96 rfl) (mw hZ hw 97 rfl) (mw hZ hw 98 rfl) (mw hZ hw 99 rfl) (mw hZ hw 100 rfl) (mw hZ hw 101 rfl) (mw hZ hw 71 rfl) (by decide) (backOf (W := 1) (rm_len4 l Z a0 hw [] xs tb kb cd nB vs c0 c1 c2 c3 G1 h0 n0 (Nat.le_trans Z0 (Nat.le_refl h0.size)) E_xs F_value_xs F_coder_xs V_tb S_COMPACT_STRINGS OL hz s4) hZ (ww hw 102 rfl) (ww hw 8 rfl) (by decide) (by decide)) q7a q7b q7c (g := (mkF m 24 #[.val (.ref xs), .val (.int (3 : Int32)), .val (.int (1 : Int32)), .val (.int (4 : Int32)), .unset] [(.ref xs), (.int (4 : Int32))])) rfl (by rw [hml]; rfl) (Steps.refl _) (argsL := []) (rest := [(.int (4 : Int32))]) (lenOf pd_16 rfl) rfl (by show 2 * 0 + _ ≤ _; exact Nat.le_of_eq rfl) (hb hby d_closing_24) (fun _ _ => ⟨rfl, e2, (by decide : 0 + 0 ≤ _), (by decide : 0 + 0 ≤ _)⟩)
    dsimp only [Pt.U, Pt.locs, Pt.cells, Pt.slots] at X7 l7 y7 z7 st7 hQ7
    subst l7 y7 z7
    obtain ⟨rfl, N7q, e7⟩ := hQ7
    have N7 := Fr.app N2 N7q
    have P8 : ∀ t, GG p e below T7 (mkF m 29 #[.val (.ref xs), .val (.int (3 : Int32)), .val (.int (1 : Int32)), .val (.int (4 : Int32)), .unset] [(.int (4 : Int32)), (.int (4 : Int32))]) t → Steps p.tables e below s0 t := fun t kk_ => P6 t (st7.trans kk_)
    have P9 : ∀ t, GG p e below T7 (mkF m 86 #[.val (.ref xs), .val (.int (3 : Int32)), .val (.int (1 : Int32)), .val (.int (4 : Int32)), .unset] [(.int (-1 : Int32))]) t → Steps p.tables e below s0 t := fun t kk_ => P8 t (by
      refine XS.icmpYes X7.here hx rfl (pc0 := 29) (pc' := 85) rfl (hb hby d_closing_29) rfl (flt ((by decide) : ¬ ((4 : Int32) < (4 : Int32)))).2.1 (by decide) (by decide) ?_
      refine XS.iconst X7.here hx rfl (hb hby d_closing_85) ?_
      exact kk_)
    subst hs0
    obtain ⟨fs, hr, hrun, hended, hW, hsame⟩ := X7.leave (v := some (.int (-1 : Int32))) (fun h => by rw [Bd.returns] at h; cases h)
    refine ⟨_, _, P9 _ ?_, hrun, hended, _, _, rfl, ?_, ⟨_, rfl⟩, hW, hsame.mono (by decide) (by decide)⟩
    · show GG p e below T7 (mkF m 86 #[.val (.ref xs), .val (.int (3 : Int32)), .val (.int (1 : Int32)), .val (.int (4 : Int32)), .unset] [(.int (-1 : Int32))]) _
      exact retI X7 hx Bd.returns (hb hby d_closing_86) hr
    · show Q_clo3 Z xs tb kb cd nB vs c0 c1 c2 c3 G1 G3 h0 n0 _ T7.heap _
      rw [e7]
      exact ⟨(-1 : Int32), rfl, N7, rfl, (by simp [clo, hc9_5])⟩
  ·
    have P10 : ∀ t, GG p e below T2 (mkF m 24 #[.val (.ref xs), .val (.int (3 : Int32)), .val (.int (0 : Int32)), .val (.int (4 : Int32)), .unset] [(.ref xs), (.int (4 : Int32))]) t → Steps p.tables e below s0 t := fun t kk_ => P4 t (by
      refine XS.icmpYes X2.here hx rfl (pc0 := 9) (pc' := 16) rfl (hb hby d_closing_9) rfl (feq (hc9_5 : ¬ (c3 = (34 : Int32)))).2 (by decide) (by decide) ?_
      refine XS.iconst X2.here hx rfl (hb hby d_closing_16) ?_
      refine XS.istoreN X2.here hx rfl (hb hby d_closing_17) rfl (l' := #[.val (.ref xs), .val (.int (3 : Int32)), .val (.int (0 : Int32)), .unset, .unset]) rfl ?_
      refine XS.iloadN X2.here hx rfl (hb hby d_closing_18) rfl ?_
      refine XS.iconst X2.here hx rfl (hb hby d_closing_19) ?_
      refine XS.iadd X2.here hx rfl (hb hby d_closing_20) rfl ?_
      refine XS.istoreN X2.here hx rfl (hb hby d_closing_21) rfl (l' := #[.val (.ref xs), .val (.int (3 : Int32)), .val (.int (0 : Int32)), .val (.int (4 : Int32)), .unset]) rfl ?_
      refine XS.iloadN X2.here hx rfl (hb hby d_closing_22) rfl ?_
      refine XS.aloadN X2.here hx rfl (hb hby d_closing_23) rfl rfl ?_
      exact kk_)
    obtain ⟨cq11, kq11, q11a, q11b, q11c⟩ := isOf hZ e2 E_xs
    obtain ⟨_, _, ⟨T11, L11, k11, n11⟩, -, X11, ⟨Lc11, hQ11, l11, y11, z11⟩, st11⟩ := X2.interfaceBack hx (xi := mn_20) (y := mn_21) hown (mw hZ hw 95 rfl) (mw hZ hw 96 rfl) (mw hZ hw 97 rfl) (mw hZ hw 98 rfl) (mw hZ hw 99 rfl) (mw hZ hw 100 rfl) (mw hZ hw 101 rfl) (mw hZ hw 71 rfl) (by decide) (backOf (W := 1) (rm_len4 l Z a0 hw [] xs tb kb cd nB vs c0 c1 c2 c3 G1 h0 n0 (Nat.le_trans Z0 (Nat.le_refl h0.size)) E_xs F_value_xs F_coder_xs V_tb S_COMPACT_STRINGS OL hz s4) hZ (ww hw 102 rfl) (ww hw 8 rfl) (by decide) (by decide)) q11a q11b q11c (g := (mkF m 24 #[.val (.ref xs), .val (.int (3 : Int32)), .val (.int (0 : Int32)), .val (.int (4 : Int32)), .unset] [(.ref xs), (.int (4 : Int32))])) rfl (by rw [hml]; rfl) (Steps.refl _) (argsL := []) (rest := [(.int (4 : Int32))]) (lenOf pd_16 rfl) rfl (by show 2 * 0 + _ ≤ _; exact Nat.le_of_eq rfl) (hb hby d_closing_24) (fun _ _ => ⟨rfl, e2, (by decide : 0 + 0 ≤ _), (by decide : 0 + 0 ≤ _)⟩)
    dsimp only [Pt.U, Pt.locs, Pt.cells, Pt.slots] at X11 l11 y11 z11 st11 hQ11
    subst l11 y11 z11
    obtain ⟨rfl, N11q, e11⟩ := hQ11
    have N11 := Fr.app N2 N11q
    have P12 : ∀ t, GG p e below T11 (mkF m 29 #[.val (.ref xs), .val (.int (3 : Int32)), .val (.int (0 : Int32)), .val (.int (4 : Int32)), .unset] [(.int (4 : Int32)), (.int (4 : Int32))]) t → Steps p.tables e below s0 t := fun t kk_ => P10 t (st11.trans kk_)
    have P13 : ∀ t, GG p e below T11 (mkF m 86 #[.val (.ref xs), .val (.int (3 : Int32)), .val (.int (0 : Int32)), .val (.int (4 : Int32)), .unset] [(.int (-1 : Int32))]) t → Steps p.tables e below s0 t := fun t kk_ => P12 t (by
      refine XS.icmpYes X11.here hx rfl (pc0 := 29) (pc' := 85) rfl (hb hby d_closing_29) rfl (flt ((by decide) : ¬ ((4 : Int32) < (4 : Int32)))).2.1 (by decide) (by decide) ?_
      refine XS.iconst X11.here hx rfl (hb hby d_closing_85) ?_
      exact kk_)
    subst hs0
    obtain ⟨fs, hr, hrun, hended, hW, hsame⟩ := X11.leave (v := some (.int (-1 : Int32))) (fun h => by rw [Bd.returns] at h; cases h)
    refine ⟨_, _, P13 _ ?_, hrun, hended, _, _, rfl, ?_, ⟨_, rfl⟩, hW, hsame.mono (by decide) (by decide)⟩
    · show GG p e below T11 (mkF m 86 #[.val (.ref xs), .val (.int (3 : Int32)), .val (.int (0 : Int32)), .val (.int (4 : Int32)), .unset] [(.int (-1 : Int32))]) _
      exact retI X11 hx Bd.returns (hb hby d_closing_86) hr
    · show Q_clo3 Z xs tb kb cd nB vs c0 c1 c2 c3 G1 G3 h0 n0 _ T11.heap _
      rw [e11]
      exact ⟨(-1 : Int32), rfl, N11, rfl, (by simp [clo, hc9_5])⟩
theorem ef_law (m : MethodId) (x0 : Int32) (x1 : Int32) (x2 : Int32) (x3 : Int32) (x4 : Int32) : entryFrame m #[(.int x0), (.int x1), (.int x2), (.int x3), (.int x4)] maxLocals = mkF m 0 #[.val (.int x0), .val (.int x1), .val (.int x2), .val (.int x3), .val (.int x4), .unset, .unset, .unset, .unset, .unset, .unset, .unset] [] := by first | (simp [entryFrame, mkF, argsToLocals, Value.category, maxLocals]; done) | rfl
abbrev mn_22 : MethodName := ⟨"com/example/planscribe/planscribe/terms/QuotesClosingPinLaw", "ch", "(I)C"⟩
theorem pd_17 : parseMethodDescriptor "([C)V" = some ⟨[(.array .char)], none⟩ := by decide +kernel
abbrev mn_23 : MethodName := ⟨"java/lang/String", "<init>", "([C)V"⟩
abbrev mn_24 : MethodName := ⟨"com/example/planscribe/planscribe/terms/QuotesClosingPinLaw", "stops", "(CZ)Z"⟩
theorem pd_18 : parseMethodDescriptor "(Ljava/lang/CharSequence;I)I" = some ⟨[(.object "java/lang/CharSequence"), .int], some .int⟩ := by decide +kernel
abbrev mn_25 : MethodName := ⟨"com/example/planscribe/planscribe/terms/Quotes", "closing", "(Ljava/lang/CharSequence;I)I"⟩
def Q_law (Z : State) (pa : Int32) (pb : Int32) (pc_ : Int32) (pd_ : Int32) (pe : Int32) (G1 : Int32) (G3 : Value) (h0 : Heap) (n0 : Nat) (v : Option Value) (h : Heap) (L : List Loc) : Prop := v = some (.int (1 : Int32)) ∧ Fr n0 L ∧ Keep h0 h []
set_option maxRecDepth 65536 in
set_option maxHeartbeats 40000000 in
theorem rm_law (l : Launch) (Z : State) (a0 : Array Value) (hw : ∀ d ∈ tables_1, d.before a0 Z = true) (ws : List Jvm.Cond) (pa : Int32) (pb : Int32) (pc_ : Int32) (pd_ : Int32) (pe : Int32) (G1 : Int32) (G3 : Value) (h0 : Heap) (n0 : Nat) (Z0 : n0 ≤ h0.size) (S_COMPACT_STRINGS : Sta Z Z.heap "java/lang/String" "COMPACT_STRINGS" "Z" (.int G1)) (S__assertionsDisabled : Sta Z Z.heap "java/lang/StringUTF16" "$assertionsDisabled" "Z" (.int (1 : Int32))) (S_HI_BYTE_SHIFT : Sta Z Z.heap "java/lang/StringUTF16" "HI_BYTE_SHIFT" "I" (.int (0 : Int32))) (S_LO_BYTE_SHIFT : Sta Z Z.heap "java/lang/StringUTF16" "LO_BYTE_SHIFT" "I" (.int (8 : Int32))) (S_SIOOBE_FORMATTER : Sta Z Z.heap "jdk/internal/util/Preconditions" "SIOOBE_FORMATTER" "Ljava/util/function/BiFunction;" G3) (OL : Old Z n0 h0) (hz : ¬ G1 = 0) (rG3 : G3.isRef = true) :
    MetFree l x (head1 (Jvm.Cond.code x code maxLocals ret :: ws) room_1) (fun a U => a = #[(.int pa), (.int pb), (.int pc_), (.int pd_), (.int pe)] ∧ Z.Warmed39 U.vm ∧ U.heap = h0) (fun _ _ _ _ _ => True) (fun _ U o U' => ∃ v L, o = .returned v ∧ Q_law Z pa pb pc_ pd_ pe G1 G3 h0 n0 v U'.heap L ∧ FrameEnd U o U' L room_1.cells room_1.slots) := by
  refine MetFree.of_bodySF (plainFor_of_name pn_0) hisR ?_
  intro p e s m args below meth c s₁ Bd hml0 hP hK
  obtain ⟨rfl, hZ, hh⟩ := hP
  have hx := Bd.exec
  have hby := Bd.bytes
  have hml : c.maxLocals = 12 := hml0
  have hown : s.vm.findClass "com/example/planscribe/planscribe/terms/QuotesClosingPinLaw" = some m.cls := findClass_of_methodNamed Bd.named
  have hnm := (name_of_methodNamed Bd.named Bd.method).1
  have X0 : Stand p l e room_1 s m #[(.int pa), (.int pb), (.int pc_), (.int pd_), (.int pe)] below meth c s₁ [] 0 0 := Stand.of_body Bd
  have e0 : s₁.heap = h0 := by rw [← hh, Bd.state]; rfl
  have N0 := Fr.nil n0
  obtain ⟨s0, hs0⟩ : ∃ z, z = (s₁.setTop (entryFrame m #[(.int pa), (.int pb), (.int pc_), (.int pd_), (.int pe)] maxLocals)) := ⟨_, rfl⟩
  have P0 : ∀ t, GG p e below s₁ (mkF m 0 #[.val (.int pa), .val (.int pb), .val (.int pc_), .val (.int pd_), .val (.int pe), .unset, .unset, .unset, .unset, .unset, .unset, .unset] []) t → Steps p.tables e below s0 t := fun t kk_ => by rw [hs0]; exact castTop (ef_law m pa pb pc_ pd_ pe) kk_
  have P1 : ∀ t, GG p e below s₁ (mkF m 1 #[.val (.int pa), .val (.int pb), .val (.int pc_), .val (.int pd_), .val (.int pe), .unset, .unset, .unset, .unset, .unset, .unset, .unset] [(.int (4 : Int32))]) t → Steps p.tables e below s0 t := fun t kk_ => P0 t (by
    refine XS.iconst X0.here hx rfl (hb hby at_0) ?_
    exact kk_)
  obtain ⟨T2, h2, k2, X2, e2, E2, A2, st2⟩ := newP X0 hx hZ (ww hw 0 rfl) e0 (g := (mkF m 1 #[.val (.int pa), .val (.int pb), .val (.int pc_), .val (.int pd_), .val (.int pe), .unset, .unset, .unset, .unset, .unset, .unset, .unset] [(.int (4 : Int32))])) rfl (hb hby at_1) rfl (by decide) (cap := 4) (by decide) (by decide) (by decide) (by decide)
  obtain ⟨b2, g2⟩ : ∃ z, z = h0.size := ⟨_, rfl⟩
  rw [← g2] at A2 st2
  have P3 : ∀ t, GG p e below T2 (mkF m 3 #[.val (.int pa), .val (.int pb), .val (.int pc_), .val (.int pd_), .val (.int pe), .unset, .unset, .unset, .unset, .unset, .unset, .unset] [(.ref b2)]) t → Steps p.tables e below s0 t := fun t kk_ => P1 t (st2 _ kk_)
  have sz_b2 : h0.size ≤ b2 := Nat.le_trans (Nat.le_refl h0.size) (Nat.le_of_eq g2.symm)
  replace OL : Old Z n0 h2 := OL.ext E2
  have K2 : Keep h0 h2 [] := (Keep.refl h0 []).ext E2
  have V_b2 : Arv Z h2 b2 k2 .char (4 : Int32) [(.int (0 : Int32)), (.int (0 : Int32)), (.int (0 : Int32)), (.int (0 : Int32))] (.int (0 : Int32)) := (Arv.new A2 (by decide)).pad (pad_rep [] (.int (0 : Int32)) 4)
  have P4 : ∀ t, GG p e below T2 (mkF m 9 #[.val (.int pa), .val (.int pb), .val (.int pc_), .val (.int pd_), .val (.int pe), .val (.ref b2), .unset, .unset, .unset, .unset, .unset, .unset] [(.int pa), (.int (0 : Int32)), (.ref b2)]) t → Steps p.tables e below s0 t := fun t kk_ => P3 t (by
    refine XS.astore X2.here hx rfl (hb hby at_3) rfl rfl (l' := #[.val (.int pa), .val (.int pb), .val (.int pc_), .val (.int pd_), .val (.int pe), .val (.ref b2), .unset, .unset, .unset, .unset, .unset, .unset]) rfl ?_
    refine XS.aload X2.here hx rfl (hb hby at_5) rfl rfl ?_
    refine XS.iconst X2.here hx rfl (hb hby at_7) ?_
    refine XS.iloadN X2.here hx rfl (hb hby at_8) rfl ?_
    exact kk_)
  obtain ⟨_, _, ⟨T5, L5, k5, n5⟩, -, X5, ⟨Lc5, hQ5, l5, y5, z5⟩, st5⟩ := Jvm.LawKit.callS X2 hx (y := mn_22) hown (mw hZ hw 1 rfl) (mw hZ hw 2 rfl) (mw hZ hw 3 rfl) (mw hZ hw 4 rfl) (by decide) (backOf (W := 2) (rm_ch l Z a0 hw [] pa h2 n0 (Nat.le_trans Z0 K2.1)) hZ (ww hw 4 rfl) (ww hw 3 rfl) (by decide) (by decide)) (g := (mkF m 9 #[.val (.int pa), .val (.int pb), .val (.int pc_), .val (.int pd_), .val (.int pe), .val (.ref b2), .unset, .unset, .unset, .unset, .unset, .unset] [(.int pa), (.int (0 : Int32)), (.ref b2)])) rfl (by rw [hml]; rfl) (argsL := [(.int pa)]) (rest := [(.int (0 : Int32)), (.ref b2)]) (lenOf pd_15 rfl) rfl (by show 2 * 0 + _ ≤ _; exact Nat.le_of_eq rfl) (hb hby at_9) (fun _ _ => ⟨rfl, e2, (by decide : 1 + 0 ≤ _), (by decide : 4 + 0 ≤ _)⟩)
  dsimp only [Pt.U, Pt.locs, Pt.cells, Pt.slots] at X5 l5 y5 z5 st5 hQ5
  subst l5 y5 z5
  obtain ⟨r_5, rfl, N5q, e5, po5_0⟩ := hQ5
  have N5 := Fr.app N0 N5q
  have P6 : ∀ t, GG p e below T5 (mkF m 12 #[.val (.int pa), .val (.int pb), .val (.int pc_), .val (.int pd_), .val (.int pe), .val (.ref b2), .unset, .unset, .unset, .unset, .unset, .unset] [(.int r_5), (.int (0 : Int32)), (.ref b2)]) t → Steps p.tables e below s0 t := fun t kk_ => P4 t (st5 _ kk_)
  have okr_5 := po5_0
  obtain ⟨cl7, Ar7, q7, S7, M7, Hs7, G7⟩ := V_b2
  obtain ⟨T7, h7, X7, e7, W7, st7⟩ := stC X5 hx hZ e5 Ar7 (j := (0 : Int32)) (inb_of S7 ⟨by decide, by decide⟩) (g := (mkF m 12 #[.val (.int pa), .val (.int pb), .val (.int pc_), .val (.int pd_), .val (.int pe), .val (.ref b2), .unset, .unset, .unset, .unset, .unset, .unset] [(.int r_5), (.int (0 : Int32)), (.ref b2)])) rfl rfl (hb hby at_12)
  have P8 : ∀ t, GG p e below T7 (mkF m 13 #[.val (.int pa), .val (.int pb), .val (.int pc_), .val (.int pd_), .val (.int pe), .val (.ref b2), .unset, .unset, .unset, .unset, .unset, .unset] []) t → Steps p.tables e below s0 t := fun t kk_ => P6 t (st7 _ kk_)
  have N7 := Fr.snoc X7 N5 (Nat.le_trans Z0 sz_b2)
  have K7 : Keep h0 h7 [] := K2.wr W7 (Or.inr sz_b2)
  replace OL : Old Z n0 h7 := OL.wr W7 (Nat.le_trans Z0 sz_b2)
  have V_b2 : Arv Z h7 b2 k2 .char (4 : Int32) [(.int (nar .char r_5)), (.int (0 : Int32)), (.int (0 : Int32)), (.int (0 : Int32))] (.int (0 : Int32)) := Arv.set Ar7 q7 S7 M7 Hs7 G7 (fits_nar_char _) W7 0 rfl (Nat.le_of_ble_eq_true rfl)
  have P9 : ∀ t, GG p e below T7 (mkF m 17 #[.val (.int pa), .val (.int pb), .val (.int pc_), .val (.int pd_), .val (.int pe), .val (.ref b2), .unset, .unset, .unset, .unset, .unset, .unset] [(.int pb), (.int (1 : Int32)), (.ref b2)]) t → Steps p.tables e below s0 t := fun t kk_ => P8 t (by
    refine XS.aload X7.here hx rfl (hb hby at_13) rfl rfl ?_
    refine XS.iconst X7.here hx rfl (hb hby at_15) ?_
    refine XS.iloadN X7.here hx rfl (hb hby at_16) rfl ?_
    exact kk_)
  obtain ⟨_, _, ⟨T10, L10, k10, n10⟩, -, X10, ⟨Lc10, hQ10, l10, y10, z10⟩, st10⟩ := Jvm.LawKit.callS X7 hx (y := mn_22) hown (mw hZ hw 1 rfl) (mw hZ hw 2 rfl) (mw hZ hw 3 rfl) (mw hZ hw 4 rfl) (by decide) (backOf (W := 2) (rm_ch l Z a0 hw [] pb h7 n0 (Nat.le_trans Z0 K7.1)) hZ (ww hw 4 rfl) (ww hw 3 rfl) (by decide) (by decide)) (g := (mkF m 17 #[.val (.int pa), .val (.int pb), .val (.int pc_), .val (.int pd_), .val (.int pe), .val (.ref b2), .unset, .unset, .unset, .unset, .unset, .unset] [(.int pb), (.int (1 : Int32)), (.ref b2)])) rfl (by rw [hml]; rfl) (argsL := [(.int pb)]) (rest := [(.int (1 : Int32)), (.ref b2)]) (lenOf pd_15 rfl) rfl (by show 2 * 0 + _ ≤ _; exact Nat.le_of_eq rfl) (hb hby at_17) (fun _ _ => ⟨rfl, e7, (by decide : 1 + 0 ≤ _), (by decide : 4 + 0 ≤ _)⟩)
  dsimp only [Pt.U, Pt.locs, Pt.cells, Pt.slots] at X10 l10 y10 z10 st10 hQ10
  subst l10 y10 z10
  obtain ⟨r_10, rfl, N10q, e10, po10_0⟩ := hQ10
  have N10 := Fr.app N7 N10q
  have P11 : ∀ t, GG p e below T10 (mkF m 20 #[.val (.int pa), .val (.int pb), .val (.int pc_), .val (.int pd_), .val (.int pe), .val (.ref b2), .unset, .unset, .unset, .unset, .unset, .unset] [(.int r_10), (.int (1 : Int32)), (.ref b2)]) t → Steps p.tables e below s0 t := fun t kk_ => P9 t (st10 _ kk_)
  have okr_10 := po10_0
  obtain ⟨cl12, Ar12, q12, S12, M12, Hs12, G12⟩ := V_b2
  obtain ⟨T12, h12, X12, e12, W12, st12⟩ := stC X10 hx hZ e10 Ar12 (j := (1 : Int32)) (inb_of S12 ⟨by decide, by decide⟩) (g := (mkF m 20 #[.val (.int pa), .val (.int pb), .val (.int pc_), .val (.int pd_), .val (.int pe), .val (.ref b2), .unset, .unset, .unset, .unset, .unset, .unset] [(.int r_10), (.int (1 : Int32)), (.ref b2)])) rfl rfl (hb hby at_20)
  have P13 : ∀ t, GG p e below T12 (mkF m 21 #[.val (.int pa), .val (.int pb), .val (.int pc_), .val (.int pd_), .val (.int pe), .val (.ref b2), .unset, .unset, .unset, .unset, .unset, .unset] []) t → Steps p.tables e below s0 t := fun t kk_ => P11 t (st12 _ kk_)
  have N12 := Fr.snoc X12 N10 (Nat.le_trans Z0 sz_b2)
  have K12 : Keep h0 h12 [] := K7.wr W12 (Or.inr sz_b2)
  replace OL : Old Z n0 h12 := OL.wr W12 (Nat.le_trans Z0 sz_b2)
  have V_b2 : Arv Z h12 b2 k2 .char (4 : Int32) [(.int (nar .char r_5)), (.int (nar .char r_10)), (.int (0 : Int32)), (.int (0 : Int32))] (.int (0 : Int32)) := Arv.set Ar12 q12 S12 M12 Hs12 G12 (fits_nar_char _) W12 1 rfl (Nat.le_of_ble_eq_true rfl)
  have P14 : ∀ t, GG p e below T12 (mkF m 25 #[.val (.int pa), .val (.int pb), .val (.int pc_), .val (.int pd_), .val (.int pe), .val (.ref b2), .unset, .unset, .unset, .unset, .unset, .unset] [(.int pc_), (.int (2 : Int32)), (.ref b2)]) t → Steps p.tables e below s0 t := fun t kk_ => P13 t (by
    refine XS.aload X12.here hx rfl (hb hby at_21) rfl rfl ?_
    refine XS.iconst X12.here hx rfl (hb hby at_23) ?_
    refine XS.iloadN X12.here hx rfl (hb hby at_24) rfl ?_
    exact kk_)
  obtain ⟨_, _, ⟨T15, L15, k15, n15⟩, -, X15, ⟨Lc15, hQ15, l15, y15, z15⟩, st15⟩ := Jvm.LawKit.callS X12 hx (y := mn_22) hown (mw hZ hw 1 rfl) (mw hZ hw 2 rfl) (mw hZ hw 3 rfl) (mw hZ hw 4 rfl) (by decide) (backOf (W := 2) (rm_ch l Z a0 hw [] pc_ h12 n0 (Nat.le_trans Z0 K12.1)) hZ (ww hw 4 rfl) (ww hw 3 rfl) (by decide) (by decide)) (g := (mkF m 25 #[.val (.int pa), .val (.int pb), .val (.int pc_), .val (.int pd_), .val (.int pe), .val (.ref b2), .unset, .unset, .unset, .unset, .unset, .unset] [(.int pc_), (.int (2 : Int32)), (.ref b2)])) rfl (by rw [hml]; rfl) (argsL := [(.int pc_)]) (rest := [(.int (2 : Int32)), (.ref b2)]) (lenOf pd_15 rfl) rfl (by show 2 * 0 + _ ≤ _; exact Nat.le_of_eq rfl) (hb hby at_25) (fun _ _ => ⟨rfl, e12, (by decide : 1 + 0 ≤ _), (by decide : 4 + 0 ≤ _)⟩)
  dsimp only [Pt.U, Pt.locs, Pt.cells, Pt.slots] at X15 l15 y15 z15 st15 hQ15
  subst l15 y15 z15
  obtain ⟨r_15, rfl, N15q, e15, po15_0⟩ := hQ15
  have N15 := Fr.app N12 N15q
  have P16 : ∀ t, GG p e below T15 (mkF m 28 #[.val (.int pa), .val (.int pb), .val (.int pc_), .val (.int pd_), .val (.int pe), .val (.ref b2), .unset, .unset, .unset, .unset, .unset, .unset] [(.int r_15), (.int (2 : Int32)), (.ref b2)]) t → Steps p.tables e below s0 t := fun t kk_ => P14 t (st15 _ kk_)
  have okr_15 := po15_0
  obtain ⟨cl17, Ar17, q17, S17, M17, Hs17, G17⟩ := V_b2
  obtain ⟨T17, h17, X17, e17, W17, st17⟩ := stC X15 hx hZ e15 Ar17 (j := (2 : Int32)) (inb_of S17 ⟨by decide, by decide⟩) (g := (mkF m 28 #[.val (.int pa), .val (.int pb), .val (.int pc_), .val (.int pd_), .val (.int pe), .val (.ref b2), .unset, .unset, .unset, .unset, .unset, .unset] [(.int r_15), (.int (2 : Int32)), (.ref b2)])) rfl rfl (hb hby at_28)
  have P18 : ∀ t, GG p e below T17 (mkF m 29 #[.val (.int pa), .val (.int pb), .val (.int pc_), .val (.int pd_), .val (.int pe), .val (.ref b2), .unset, .unset, .unset, .unset, .unset, .unset] []) t → Steps p.tables e below s0 t := fun t kk_ => P16 t (st17 _ kk_)
  have N17 := Fr.snoc X17 N15 (Nat.le_trans Z0 sz_b2)
  have K17 : Keep h0 h17 [] := K12.wr W17 (Or.inr sz_b2)
  replace OL : Old Z n0 h17 := OL.wr W17 (Nat.le_trans Z0 sz_b2)
  have V_b2 : Arv Z h17 b2 k2 .char (4 : Int32) [(.int (nar .char r_5)), (.int (nar .char r_10)), (.int (nar .char r_15)), (.int (0 : Int32))] (.int (0 : Int32)) := Arv.set Ar17 q17 S17 M17 Hs17 G17 (fits_nar_char _) W17 2 rfl (Nat.le_of_ble_eq_true rfl)
  have P19 : ∀ t, GG p e below T17 (mkF m 33 #[.val (.int pa), .val (.int pb), .val (.int pc_), .val (.int pd_), .val (.int pe), .val (.ref b2), .unset, .unset, .unset, .unset, .unset, .unset] [(.int pd_), (.int (3 : Int32)), (.ref b2)]) t → Steps p.tables e below s0 t := fun t kk_ => P18 t (by
    refine XS.aload X17.here hx rfl (hb hby at_29) rfl rfl ?_
    refine XS.iconst X17.here hx rfl (hb hby at_31) ?_
    refine XS.iloadN X17.here hx rfl (hb hby at_32) rfl ?_
    exact kk_)
  obtain ⟨_, _, ⟨T20, L20, k20, n20⟩, -, X20, ⟨Lc20, hQ20, l20, y20, z20⟩, st20⟩ := Jvm.LawKit.callS X17 hx (y := mn_22) hown (mw hZ hw 1 rfl) (mw hZ hw 2 rfl) (mw hZ hw 3 rfl) (mw hZ hw 4 rfl) (by decide) (backOf (W := 2) (rm_ch l Z a0 hw [] pd_ h17 n0 (Nat.le_trans Z0 K17.1)) hZ (ww hw 4 rfl) (ww hw 3 rfl) (by decide) (by decide)) (g := (mkF m 33 #[.val (.int pa), .val (.int pb), .val (.int pc_), .val (.int pd_), .val (.int pe), .val (.ref b2), .unset, .unset, .unset, .unset, .unset, .unset] [(.int pd_), (.int (3 : Int32)), (.ref b2)])) rfl (by rw [hml]; rfl) (argsL := [(.int pd_)]) (rest := [(.int (3 : Int32)), (.ref b2)]) (lenOf pd_15 rfl) rfl (by show 2 * 0 + _ ≤ _; exact Nat.le_of_eq rfl) (hb hby at_33) (fun _ _ => ⟨rfl, e17, (by decide : 1 + 0 ≤ _), (by decide : 4 + 0 ≤ _)⟩)
  dsimp only [Pt.U, Pt.locs, Pt.cells, Pt.slots] at X20 l20 y20 z20 st20 hQ20
  subst l20 y20 z20
  obtain ⟨r_20, rfl, N20q, e20, po20_0⟩ := hQ20
  have N20 := Fr.app N17 N20q
  have P21 : ∀ t, GG p e below T20 (mkF m 36 #[.val (.int pa), .val (.int pb), .val (.int pc_), .val (.int pd_), .val (.int pe), .val (.ref b2), .unset, .unset, .unset, .unset, .unset, .unset] [(.int r_20), (.int (3 : Int32)), (.ref b2)]) t → Steps p.tables e below s0 t := fun t kk_ => P19 t (st20 _ kk_)
  have okr_20 := po20_0
  obtain ⟨cl22, Ar22, q22, S22, M22, Hs22, G22⟩ := V_b2
  obtain ⟨T22, h22, X22, e22, W22, st22⟩ := stC X20 hx hZ e20 Ar22 (j := (3 : Int32)) (inb_of S22 ⟨by decide, by decide⟩) (g := (mkF m 36 #[.val (.int pa), .val (.int pb), .val (.int pc_), .val (.int pd_), .val (.int pe), .val (.ref b2), .unset, .unset, .unset, .unset, .unset, .unset] [(.int r_20), (.int (3 : Int32)), (.ref b2)])) rfl rfl (hb hby at_36)
  have P23 : ∀ t, GG p e below T22 (mkF m 37 #[.val (.int pa), .val (.int pb), .val (.int pc_), .val (.int pd_), .val (.int pe), .val (.ref b2), .unset, .unset, .unset, .unset, .unset, .unset] []) t → Steps p.tables e below s0 t := fun t kk_ => P21 t (st22 _ kk_)
  have N22 := Fr.snoc X22 N20 (Nat.le_trans Z0 sz_b2)
  have K22 : Keep h0 h22 [] := K17.wr W22 (Or.inr sz_b2)
  replace OL : Old Z n0 h22 := OL.wr W22 (Nat.le_trans Z0 sz_b2)
  have V_b2 : Arv Z h22 b2 k2 .char (4 : Int32) [(.int (nar .char r_5)), (.int (nar .char r_10)), (.int (nar .char r_15)), (.int (nar .char r_20))] (.int (0 : Int32)) := Arv.set Ar22 q22 S22 M22 Hs22 G22 (fits_nar_char _) W22 3 rfl (Nat.le_of_ble_eq_true rfl)
  replace V_b2 : Arv Z h22 b2 k2 .char (4 : Int32) [(.int r_5), (.int r_10), (.int r_15), (.int r_20)] (.int (0 : Int32)) := by
    have q := V_b2
    rw [own_narc okr_5, own_narc okr_10, own_narc okr_15, own_narc okr_20] at q
    exact q
  have ir_5 : isC r_5 := okr_5
  have ir_10 : isC r_10 := okr_10
  have ir_15 : isC r_15 := okr_15
  have ir_20 : isC r_20 := okr_20
  obtain ⟨T24, h24, X24, e24, E24, A24, D24, -, st24⟩ := newO X22 hx hZ hown (ww hw 6 rfl) (ww hw 7 rfl) (ww hw 8 rfl) e22 (g := (mkF m 37 #[.val (.int pa), .val (.int pb), .val (.int pc_), .val (.int pd_), .val (.int pe), .val (.ref b2), .unset, .unset, .unset, .unset, .unset, .unset] [])) rfl (hb hby at_37) (by decide) (by decide)
  obtain ⟨b24, g24⟩ : ∃ z, z = h22.size := ⟨_, rfl⟩
  rw [← g24] at A24 D24 st24
  have P25 : ∀ t, GG p e below T24 (mkF m 40 #[.val (.int pa), .val (.int pb), .val (.int pc_), .val (.int pd_), .val (.int pe), .val (.ref b2), .unset, .unset, .unset, .unset, .unset, .unset] [(.ref b24)]) t → Steps p.tables e below s0 t := fun t kk_ => P23 t (st24 _ kk_)
  have ne_b2_b24 : b2 ≠ b24 := Nat.ne_of_lt (Nat.lt_of_lt_of_le V_b2.lt (Nat.le_of_eq g24.symm))
  have sz_b24 : h0.size ≤ b24 := Nat.le_trans K22.1 (Nat.le_of_eq g24.symm)
  replace OL : Old Z n0 h24 := OL.ext E24
  replace V_b2 : Arv Z h24 b2 k2 .char (4 : Int32) [(.int r_5), (.int r_10), (.int r_15), (.int r_20)] (.int (0 : Int32)) := V_b2.ext E24
  have K24 : Keep h0 h24 [] := K22.ext E24
  have E_b24 : Exa Z h24 b24 "java/lang/String" := A24
  have F_coder_b24 : Fld Z h24 b24 "java/lang/String" "coder" "B" (.int (0 : Int32)) := D24 (Or.inr (ww hw 51 rfl)) (ty := .byte) (by decide)
  have F_value_b24 : Fld Z h24 b24 "java/lang/String" "value" "[B" .null := D24 (Or.inr (ww hw 53 rfl)) (ty := (.array .byte)) (by decide)
  have P26 : ∀ t, GG p e below T24 (mkF m 43 #[.val (.int pa), .val (.int pb), .val (.int pc_), .val (.int pd_), .val (.int pe), .val (.ref b2), .unset, .unset, .unset, .unset, .unset, .unset] [(.ref b2), (.ref b24), (.ref b24)]) t → Steps p.tables e below s0 t := fun t kk_ => P25 t (by
    refine XS.dup X24.here hx rfl (hb hby at_40) rfl rfl ?_
    refine XS.aload X24.here hx rfl (hb hby at_41) rfl rfl ?_
    exact kk_)
  obtain ⟨_, _, ⟨T27, L27, k27, n27⟩, -, X27, ⟨Lc27, hQ27, l27, y27, z27⟩, st27⟩ := X24.specialBack hx (y := mn_23) rfl hown (mw hZ hw 9 rfl) (mw hZ hw 10 rfl) (mw hZ hw 11 rfl) (by decide) (backOf (W := 1) (rm_init1 l Z a0 hw [] b24 b2 k2 .null (.int (0 : Int32)) G1 r_5 r_10 r_15 r_20 h24 n0 (Nat.le_trans Z0 K24.1) E_b24 F_value_b24 F_coder_b24 (Nat.le_trans Z0 sz_b24) V_b2 (Ne.symm ne_b2_b24) S_COMPACT_STRINGS S__assertionsDisabled S_HI_BYTE_SHIFT S_LO_BYTE_SHIFT OL hz ir_5 ir_10 ir_15 ir_20) hZ (ww hw 11 rfl) (ww hw 8 rfl) (by decide) (by decide)) (g := (mkF m 43 #[.val (.int pa), .val (.int pb), .val (.int pc_), .val (.int pd_), .val (.int pe), .val (.ref b2), .unset, .unset, .unset, .unset, .unset, .unset] [(.ref b2), (.ref b24), (.ref b24)])) rfl (by rw [hml]; rfl) (Steps.refl _) (a := b24) (argsL := [(.ref b2)]) (rest := [(.ref b24)]) (lenOf pd_17 rfl) rfl (by show 2 * 0 + _ ≤ _; exact Nat.le_of_eq rfl) (hb hby at_43) (fun _ _ => ⟨rfl, e24, (by decide : 2 + 2 ≤ _), (by decide : 8 + 12 ≤ _)⟩)
  dsimp only [Pt.U, Pt.locs, Pt.cells, Pt.slots] at X27 l27 y27 z27 st27 hQ27
  subst l27 y27 z27
  obtain ⟨t_27, kb_27, cd_27, nB_27, vs_27, rfl, N27q, Kc27, po27_0, po27_1, po27_2, po27_3, po27_4, po27_5⟩ := hQ27
  have N27 := Fr.app N22 N27q
  have P28 : ∀ t, GG p e below T27 (mkF m 46 #[.val (.int pa), .val (.int pb), .val (.int pc_), .val (.int pd_), .val (.int pe), .val (.ref b2), .unset, .unset, .unset, .unset, .unset, .unset] [(.ref b24)]) t → Steps p.tables e below s0 t := fun t kk_ => P26 t (st27.trans kk_)
  have ne_b2_t_27 : b2 ≠ t_27 := Nat.ne_of_lt (Nat.lt_of_lt_of_le V_b2.lt po27_0)
  have ne_b24_t_27 : b24 ≠ t_27 := Nat.ne_of_lt (Nat.lt_of_lt_of_le E_b24.lt po27_0)
  have sz_t_27 : h0.size ≤ t_27 := Nat.le_trans K24.1 po27_0
  replace OL : Old Z n0 T27.heap := OL.keep Kc27 (allS (Nat.le_trans Z0 sz_b24) all0)
  replace V_b2 : Arv Z T27.heap b2 k2 .char (4 : Int32) [(.int r_5), (.int r_10), (.int r_15), (.int r_20)] (.int (0 : Int32)) := V_b2.keep Kc27 (ninS ne_b2_b24 nin0)
  replace E_b24 : Exa Z T27.heap b24 "java/lang/String" := E_b24.keep Kc27
  have K27 : Keep h0 T27.heap [] := K24.trans Kc27 (allS (P := fun x => x ∈ [] ∨ h0.size ≤ x) (Or.inr sz_b24) all0)
  have E_b24 : Exa Z T27.heap b24 "java/lang/String" := po27_1
  have F_value_b24 : Fld Z T27.heap b24 "java/lang/String" "value" "[B" (.ref t_27) := po27_2
  have F_coder_b24 : Fld Z T27.heap b24 "java/lang/String" "coder" "B" (.int cd_27) := po27_3
  have V_t_27 : Arv Z T27.heap t_27 kb_27 .byte nB_27 vs_27 (.int (0 : Int32)) := po27_4
  have s4_27 := po27_5
  have P29 : ∀ t, GG p e below T27 (mkF m 52 #[.val (.int pa), .val (.int pb), .val (.int pc_), .val (.int pd_), .val (.int pe), .val (.ref b2), .val (.ref b24), .unset, .unset, .unset, .unset, .unset] [(.int (pe &&& (3 : Int32)))]) t → Steps p.tables e below s0 t := fun t kk_ => P28 t (by
    refine XS.astore X27.here hx rfl (hb hby at_46) rfl rfl (l' := #[.val (.int pa), .val (.int pb), .val (.int pc_), .val (.int pd_), .val (.int pe), .val (.ref b2), .val (.ref b24), .unset, .unset, .unset, .unset, .unset]) rfl ?_
    refine XS.iload X27.here hx rfl (hb hby at_48) rfl ?_
    refine XS.iconst X27.here hx rfl (hb hby at_50) ?_
    refine XS.iand X27.here hx rfl (hb hby at_51) rfl ?_
    exact kk_)
  rcases own_three pe with hk | hk | hk | hk
  ·
    have P30 : ∀ t, GG p e below T27 (mkF m 52 #[.val (.int pa), .val (.int pb), .val (.int pc_), .val (.int pd_), .val (.int pe), .val (.ref b2), .val (.ref b24), .unset, .unset, .unset, .unset, .unset] [(.int (0 : Int32))]) t → Steps p.tables e below s0 t := fun t kk_ => P29 t (by rw [hk]; exact kk_)
    have P31 : ∀ t, GG p e below T27 (mkF m 58 #[.val (.int pa), .val (.int pb), .val (.int pc_), .val (.int pd_), .val (.int pe), .val (.ref b2), .val (.ref b24), .val (.int (0 : Int32)), .unset, .unset, .unset, .unset] [(.int (0 : Int32)), (.ref b2)]) t → Steps p.tables e below s0 t := fun t kk_ => P30 t (by
      refine XS.istore X27.here hx rfl (hb hby at_52) rfl (l' := #[.val (.int pa), .val (.int pb), .val (.int pc_), .val (.int pd_), .val (.int pe), .val (.ref b2), .val (.ref b24), .val (.int (0 : Int32)), .unset, .unset, .unset, .unset]) rfl ?_
      refine XS.aload X27.here hx rfl (hb hby at_54) rfl rfl ?_
      refine XS.iload X27.here hx rfl (hb hby at_56) rfl ?_
      exact kk_)
    obtain ⟨cl32, Ar32, q32, S32, M32, Hs32, G32⟩ := id V_b2
    have hin32 := inb_of (j := (0 : Int32)) S32 ⟨by decide, by decide⟩
    have hat32 : cl32.slots[((0 : Int32)).toNatClampNeg]? = some (.int r_5) := Has.at Hs32 hin32 (rfl)
    have P33 : ∀ t, GG p e below T27 (mkF m 59 #[.val (.int pa), .val (.int pb), .val (.int pc_), .val (.int pd_), .val (.int pe), .val (.ref b2), .val (.ref b24), .val (.int (0 : Int32)), .unset, .unset, .unset, .unset] [(.int r_5)]) t → Steps p.tables e below s0 t := fun t kk_ => P31 t (by
      refine X27.caload hx (j := (0 : Int32)) (v := (.int r_5)) (Ar32.1) (State.isArrayOf_alike hZ.alike Ar32.2.1) Ar32.2.2 hin32 hat32 (g := (mkF m 58 #[.val (.int pa), .val (.int pb), .val (.int pc_), .val (.int pd_), .val (.int pe), .val (.ref b2), .val (.ref b24), .val (.int (0 : Int32)), .unset, .unset, .unset, .unset] [(.int (0 : Int32)), (.ref b2)])) rfl rfl (hb hby at_58) _ ?_
      exact kk_)
    have P34 : ∀ t, GG p e below T27 (mkF m 61 #[.val (.int pa), .val (.int pb), .val (.int pc_), .val (.int pd_), .val (.int pe), .val (.ref b2), .val (.ref b24), .val (.int (0 : Int32)), .unset, .unset, .unset, .unset] [(.int (34 : Int32)), (.int r_5)]) t → Steps p.tables e below s0 t := fun t kk_ => P33 t (by
      refine XS.bipush X27.here hx rfl (hb hby at_59) ?_
      exact kk_)
    by_cases hc61_35 : r_5 = (34 : Int32)
    ·
      have P36 : ∀ t, GG p e below T27 (mkF m 83 #[.val (.int pa), .val (.int pb), .val (.int pc_), .val (.int pd_), .val (.int pe), .val (.ref b2), .val (.ref b24), .val (.int (0 : Int32)), .val (.int (1 : Int32)), .val (.int (-1 : Int32)), .unset, .unset] [(.int (1 : Int32)), (.ref b2)]) t → Steps p.tables e below s0 t := fun t kk_ => P34 t (by
        refine XS.icmpNo X27.here hx rfl (hb hby at_61) rfl (teq (hc61_35 : r_5 = (34 : Int32))).2 ?_
        refine XS.iconst X27.here hx rfl (hb hby at_64) ?_
        refine XS.goto X27.here hx rfl (pc0 := 65) (pc' := 69) rfl (hb hby at_65) (by decide) (by decide) ?_
        refine XS.istore X27.here hx rfl (hb hby at_69) rfl (l' := #[.val (.int pa), .val (.int pb), .val (.int pc_), .val (.int pd_), .val (.int pe), .val (.ref b2), .val (.ref b24), .val (.int (0 : Int32)), .val (.int (1 : Int32)), .unset, .unset, .unset]) rfl ?_
        refine XS.iconst X27.here hx rfl (hb hby at_71) ?_
        refine XS.istore X27.here hx rfl (hb hby at_72) rfl (l' := #[.val (.int pa), .val (.int pb), .val (.int pc_), .val (.int pd_), .val (.int pe), .val (.ref b2), .val (.ref b24), .val (.int (0 : Int32)), .val (.int (1 : Int32)), .val (.int (-1 : Int32)), .unset, .unset]) rfl ?_
        refine XS.iload X27.here hx rfl (hb hby at_74) rfl ?_
        refine XS.iconst X27.here hx rfl (hb hby at_76) ?_
        refine XS.icmpNo X27.here hx rfl (hb hby at_77) rfl (tlt ((by decide) : (0 : Int32) < (1 : Int32))).2.1 ?_
        refine XS.aload X27.here hx rfl (hb hby at_80) rfl rfl ?_
        refine XS.iconst X27.here hx rfl (hb hby at_82) ?_
        exact kk_)
      obtain ⟨cl37, Ar37, q37, S37, M37, Hs37, G37⟩ := id V_b2
      have hin37 := inb_of (j := (1 : Int32)) S37 ⟨by decide, by decide⟩
      have hat37 : cl37.slots[((1 : Int32)).toNatClampNeg]? = some (.int r_10) := Has.at Hs37 hin37 (rfl)
      have P38 : ∀ t, GG p e below T27 (mkF m 84 #[.val (.int pa), .val (.int pb), .val (.int pc_), .val (.int pd_), .val (.int pe), .val (.ref b2), .val (.ref b24), .val (.int (0 : Int32)), .val (.int (1 : Int32)), .val (.int (-1 : Int32)), .unset, .unset] [(.int r_10)]) t → Steps p.tables e below s0 t := fun t kk_ => P36 t (by
        refine X27.caload hx (j := (1 : Int32)) (v := (.int r_10)) (Ar37.1) (State.isArrayOf_alike hZ.alike Ar37.2.1) Ar37.2.2 hin37 hat37 (g := (mkF m 83 #[.val (.int pa), .val (.int pb), .val (.int pc_), .val (.int pd_), .val (.int pe), .val (.ref b2), .val (.ref b24), .val (.int (0 : Int32)), .val (.int (1 : Int32)), .val (.int (-1 : Int32)), .unset, .unset] [(.int (1 : Int32)), (.ref b2)])) rfl rfl (hb hby at_83) _ ?_
        exact kk_)
      have P39 : ∀ t, GG p e below T27 (mkF m 86 #[.val (.int pa), .val (.int pb), .val (.int pc_), .val (.int pd_), .val (.int pe), .val (.ref b2), .val (.ref b24), .val (.int (0 : Int32)), .val (.int (1 : Int32)), .val (.int (-1 : Int32)), .unset, .unset] [(.int (1 : Int32)), (.int r_10)]) t → Steps p.tables e below s0 t := fun t kk_ => P38 t (by
        refine XS.iload X27.here hx rfl (hb hby at_84) rfl ?_
        exact kk_)
      obtain ⟨_, _, ⟨T40, L40, k40, n40⟩, -, X40, ⟨Lc40, hQ40, l40, y40, z40⟩, st40⟩ := Jvm.LawKit.callS X27 hx (y := mn_24) hown (mw hZ hw 54 rfl) (mw hZ hw 55 rfl) (mw hZ hw 3 rfl) (mw hZ hw 56 rfl) (by decide) (backOf (W := 0) (rm_stp1 l Z a0 hw [] r_10 T27.heap n0 (Nat.le_trans Z0 K27.1)) hZ (ww hw 56 rfl) (ww hw 3 rfl) (by decide) (by decide)) (g := (mkF m 86 #[.val (.int pa), .val (.int pb), .val (.int pc_), .val (.int pd_), .val (.int pe), .val (.ref b2), .val (.ref b24), .val (.int (0 : Int32)), .val (.int (1 : Int32)), .val (.int (-1 : Int32)), .unset, .unset] [(.int (1 : Int32)), (.int r_10)])) rfl (by rw [hml]; rfl) (argsL := [(.int r_10), (.int (1 : Int32))]) (rest := []) (lenOf pd_14 rfl) rfl (by show 2 * 0 + _ ≤ _; exact Nat.le_of_eq rfl) (hb hby at_86) (fun _ _ => ⟨rfl, rfl, (by decide : 4 + 0 ≤ _), (by decide : 20 + 0 ≤ _)⟩)
      dsimp only [Pt.U, Pt.locs, Pt.cells, Pt.slots] at X40 l40 y40 z40 st40 hQ40
      subst l40 y40 z40
      obtain ⟨r_40, rfl, N40q, e40, po40_0⟩ := hQ40
      have N40 := Fr.app N27 N40q
      have P41 : ∀ t, GG p e below T40 (mkF m 89 #[.val (.int pa), .val (.int pb), .val (.int pc_), .val (.int pd_), .val (.int pe), .val (.ref b2), .val (.ref b24), .val (.int (0 : Int32)), .val (.int (1 : Int32)), .val (.int (-1 : Int32)), .unset, .unset] [(.int r_40)]) t → Steps p.tables e below s0 t := fun t kk_ => P39 t (st40 _ kk_)
      have res_40 := po40_0
      rcases res_40 with hcase | hcase
      ·
        obtain ⟨rfl, hm89⟩ := hcase
        have P42 : ∀ t, GG p e below T40 (mkF m 155 #[.val (.int pa), .val (.int pb), .val (.int pc_), .val (.int pd_), .val (.int pe), .val (.ref b2), .val (.ref b24), .val (.int (0 : Int32)), .val (.int (1 : Int32)), .val (.int (1 : Int32)), .val (.int (-1 : Int32)), .unset] [(.int (1 : Int32)), (.ref b2)]) t → Steps p.tables e below s0 t := fun t kk_ => P41 t (by
          refine XS.ifNo X40.here hx rfl (hb hby at_89) rfl ((if0 _ _).trans (feq ((by decide) : ¬ ((1 : Int32) = (0 : Int32)))).1) ?_
          refine XS.iconst X40.here hx rfl (hb hby at_92) ?_
          refine XS.istore X40.here hx rfl (hb hby at_93) rfl (l' := #[.val (.int pa), .val (.int pb), .val (.int pc_), .val (.int pd_), .val (.int pe), .val (.ref b2), .val (.ref b24), .val (.int (0 : Int32)), .val (.int (1 : Int32)), .val (.int (1 : Int32)), .unset, .unset]) rfl ?_
          refine XS.goto X40.here hx rfl (pc0 := 95) (pc' := 143) rfl (hb hby at_95) (by decide) (by decide) ?_
          refine XS.iconst X40.here hx rfl (hb hby at_143) ?_
          refine XS.istore X40.here hx rfl (hb hby at_144) rfl (l' := #[.val (.int pa), .val (.int pb), .val (.int pc_), .val (.int pd_), .val (.int pe), .val (.ref b2), .val (.ref b24), .val (.int (0 : Int32)), .val (.int (1 : Int32)), .val (.int (1 : Int32)), .val (.int (-1 : Int32)), .unset]) rfl ?_
          refine XS.iload X40.here hx rfl (hb hby at_146) rfl ?_
          refine XS.ifNo X40.here hx rfl (hb hby at_148) rfl ((if0 _ _).trans (flt ((by decide) : ¬ ((1 : Int32) < (0 : Int32)))).1) ?_
          refine XS.aload X40.here hx rfl (hb hby at_151) rfl rfl ?_
          refine XS.iload X40.here hx rfl (hb hby at_153) rfl ?_
          exact kk_)
        obtain ⟨cl43, Ar43, q43, S43, M43, Hs43, G43⟩ := id V_b2
        have hin43 := inb_of (j := (1 : Int32)) S43 ⟨by decide, by decide⟩
        have hat43 : cl43.slots[((1 : Int32)).toNatClampNeg]? = some (.int r_10) := Has.at Hs43 hin43 (rfl)
        have P44 : ∀ t, GG p e below T40 (mkF m 156 #[.val (.int pa), .val (.int pb), .val (.int pc_), .val (.int pd_), .val (.int pe), .val (.ref b2), .val (.ref b24), .val (.int (0 : Int32)), .val (.int (1 : Int32)), .val (.int (1 : Int32)), .val (.int (-1 : Int32)), .unset] [(.int r_10)]) t → Steps p.tables e below s0 t := fun t kk_ => P42 t (by
          refine X40.caload hx (j := (1 : Int32)) (v := (.int r_10)) (by rw [e40]; exact Ar43.1) (State.isArrayOf_alike hZ.alike Ar43.2.1) Ar43.2.2 hin43 hat43 (g := (mkF m 155 #[.val (.int pa), .val (.int pb), .val (.int pc_), .val (.int pd_), .val (.int pe), .val (.ref b2), .val (.ref b24), .val (.int (0 : Int32)), .val (.int (1 : Int32)), .val (.int (1 : Int32)), .val (.int (-1 : Int32)), .unset] [(.int (1 : Int32)), (.ref b2)])) rfl rfl (hb hby at_155) _ ?_
          exact kk_)
        have P45 : ∀ t, GG p e below T40 (mkF m 158 #[.val (.int pa), .val (.int pb), .val (.int pc_), .val (.int pd_), .val (.int pe), .val (.ref b2), .val (.ref b24), .val (.int (0 : Int32)), .val (.int (1 : Int32)), .val (.int (1 : Int32)), .val (.int (-1 : Int32)), .unset] [(.int (1 : Int32)), (.int r_10)]) t → Steps p.tables e below s0 t := fun t kk_ => P44 t (by
          refine XS.iload X40.here hx rfl (hb hby at_156) rfl ?_
          exact kk_)
        obtain ⟨_, _, ⟨T46, L46, k46, n46⟩, -, X46, ⟨Lc46, hQ46, l46, y46, z46⟩, st46⟩ := Jvm.LawKit.callS X40 hx (y := mn_17) hown (mw hZ hw 57 rfl) (mw hZ hw 58 rfl) (mw hZ hw 3 rfl) (mw hZ hw 59 rfl) (by decide) (backOf (W := 0) (rm_mat1 l Z a0 hw [] r_10 T27.heap n0 (Nat.le_trans Z0 K27.1)) hZ (ww hw 59 rfl) (ww hw 3 rfl) (by decide) (by decide)) (g := (mkF m 158 #[.val (.int pa), .val (.int pb), .val (.int pc_), .val (.int pd_), .val (.int pe), .val (.ref b2), .val (.ref b24), .val (.int (0 : Int32)), .val (.int (1 : Int32)), .val (.int (1 : Int32)), .val (.int (-1 : Int32)), .unset] [(.int (1 : Int32)), (.int r_10)])) rfl (by rw [hml]; rfl) (argsL := [(.int r_10), (.int (1 : Int32))]) (rest := []) (lenOf pd_14 rfl) rfl (by show 2 * 0 + _ ≤ _; exact Nat.le_of_eq rfl) (hb hby at_158) (fun _ _ => ⟨rfl, e40, (by decide : 4 + 0 ≤ _), (by decide : 20 + 0 ≤ _)⟩)
        dsimp only [Pt.U, Pt.locs, Pt.cells, Pt.slots] at X46 l46 y46 z46 st46 hQ46
        subst l46 y46 z46
        obtain ⟨r_46, rfl, N46q, e46, po46_0⟩ := hQ46
        have N46 := Fr.app N40 N46q
        have P47 : ∀ t, GG p e below T46 (mkF m 161 #[.val (.int pa), .val (.int pb), .val (.int pc_), .val (.int pd_), .val (.int pe), .val (.ref b2), .val (.ref b24), .val (.int (0 : Int32)), .val (.int (1 : Int32)), .val (.int (1 : Int32)), .val (.int (-1 : Int32)), .unset] [(.int r_46)]) t → Steps p.tables e below s0 t := fun t kk_ => P45 t (st46 _ kk_)
        have res_46 := po46_0
        rcases res_46 with hcase | hcase
        ·
          obtain ⟨rfl, hm161⟩ := hcase
          have P48 : ∀ t, GG p e below T46 (mkF m 172 #[.val (.int pa), .val (.int pb), .val (.int pc_), .val (.int pd_), .val (.int pe), .val (.ref b2), .val (.ref b24), .val (.int (0 : Int32)), .val (.int (1 : Int32)), .val (.int (1 : Int32)), .val (.int (1 : Int32)), .unset] [(.int (0 : Int32)), (.ref b24)]) t → Steps p.tables e below s0 t := fun t kk_ => P47 t (by
            refine XS.ifNo X46.here hx rfl (hb hby at_161) rfl ((if0 _ _).trans (feq ((by decide) : ¬ ((1 : Int32) = (0 : Int32)))).1) ?_
            refine XS.iload X46.here hx rfl (hb hby at_164) rfl ?_
            refine XS.istore X46.here hx rfl (hb hby at_166) rfl (l' := #[.val (.int pa), .val (.int pb), .val (.int pc_), .val (.int pd_), .val (.int pe), .val (.ref b2), .val (.ref b24), .val (.int (0 : Int32)), .val (.int (1 : Int32)), .val (.int (1 : Int32)), .val (.int (1 : Int32)), .unset]) rfl ?_
            refine XS.aload X46.here hx rfl (hb hby at_168) rfl rfl ?_
            refine XS.iload X46.here hx rfl (hb hby at_170) rfl ?_
            exact kk_)
          obtain ⟨_, _, ⟨T49, L49, k49, n49⟩, -, X49, ⟨Lc49, hQ49, l49, y49, z49⟩, st49⟩ := Jvm.LawKit.callS X46 hx (y := mn_25) hown (mw hZ hw 60 rfl) (mw hZ hw 61 rfl) (mw hZ hw 62 rfl) (mw hZ hw 63 rfl) (by decide) (backOf (W := 0) (rm_clo0 l Z a0 hw [] b24 t_27 kb_27 cd_27 nB_27 vs_27 r_5 r_10 r_15 r_20 G1 G3 T27.heap n0 (Nat.le_trans Z0 K27.1) E_b24 F_value_b24 F_coder_b24 V_t_27 S_COMPACT_STRINGS S__assertionsDisabled S_HI_BYTE_SHIFT S_LO_BYTE_SHIFT S_SIOOBE_FORMATTER OL hz rG3 s4_27 ir_5 ir_10 ir_15 ir_20) hZ (ww hw 63 rfl) (ww hw 62 rfl) (by decide) (by decide)) (g := (mkF m 172 #[.val (.int pa), .val (.int pb), .val (.int pc_), .val (.int pd_), .val (.int pe), .val (.ref b2), .val (.ref b24), .val (.int (0 : Int32)), .val (.int (1 : Int32)), .val (.int (1 : Int32)), .val (.int (1 : Int32)), .unset] [(.int (0 : Int32)), (.ref b24)])) rfl (by rw [hml]; rfl) (argsL := [(.ref b24), (.int (0 : Int32))]) (rest := []) (lenOf pd_18 rfl) rfl (by show 2 * 0 + _ ≤ _; exact Nat.le_of_eq rfl) (hb hby at_172) (fun _ _ => ⟨rfl, e46, (by decide : 4 + 0 ≤ _), (by decide : 20 + 0 ≤ _)⟩)
          dsimp only [Pt.U, Pt.locs, Pt.cells, Pt.slots] at X49 l49 y49 z49 st49 hQ49
          subst l49 y49 z49
          obtain ⟨r_49, rfl, N49q, e49, po49_0⟩ := hQ49
          have N49 := Fr.app N46 N49q
          have P50 : ∀ t, GG p e below T49 (mkF m 175 #[.val (.int pa), .val (.int pb), .val (.int pc_), .val (.int pd_), .val (.int pe), .val (.ref b2), .val (.ref b24), .val (.int (0 : Int32)), .val (.int (1 : Int32)), .val (.int (1 : Int32)), .val (.int (1 : Int32)), .unset] [(.int r_49)]) t → Steps p.tables e below s0 t := fun t kk_ => P48 t (st49 _ kk_)
          have res_49 := po49_0
          have P51 : ∀ t, GG p e below T49 (mkF m 189 #[.val (.int pa), .val (.int pb), .val (.int pc_), .val (.int pd_), .val (.int pe), .val (.ref b2), .val (.ref b24), .val (.int (0 : Int32)), .val (.int (1 : Int32)), .val (.int (1 : Int32)), .val (.int (1 : Int32)), .val (.int r_49)] [(.int (1 : Int32))]) t → Steps p.tables e below s0 t := fun t kk_ => P50 t (by
            refine XS.istore X49.here hx rfl (hb hby at_175) rfl (l' := #[.val (.int pa), .val (.int pb), .val (.int pc_), .val (.int pd_), .val (.int pe), .val (.ref b2), .val (.ref b24), .val (.int (0 : Int32)), .val (.int (1 : Int32)), .val (.int (1 : Int32)), .val (.int (1 : Int32)), .val (.int r_49)]) rfl ?_
            refine XS.iload X49.here hx rfl (hb hby at_177) rfl ?_
            refine XS.iload X49.here hx rfl (hb hby at_179) rfl ?_
            refine XS.icmpNo X49.here hx rfl (hb hby at_181) rfl (teq ((by rw [res_49]; simp [clo, hc61_35, hm89, hm161]) : r_49 = (1 : Int32))).2 ?_
            refine XS.iconst X49.here hx rfl (hb hby at_184) ?_
            refine XS.goto X49.here hx rfl (pc0 := 185) (pc' := 189) rfl (hb hby at_185) (by decide) (by decide) ?_
            exact kk_)
          subst hs0
          obtain ⟨fs, hr, hrun, hended, hW, hsame⟩ := X49.leave (v := some (.int (nar .boolean (1 : Int32)))) (fun h => by rw [Bd.returns] at h; cases h)
          refine ⟨_, _, P51 _ ?_, hrun, hended, _, _, rfl, ?_, ⟨_, rfl⟩, hW, hsame.mono (by decide) (by decide)⟩
          · show GG p e below T49 (mkF m 189 #[.val (.int pa), .val (.int pb), .val (.int pc_), .val (.int pd_), .val (.int pe), .val (.ref b2), .val (.ref b24), .val (.int (0 : Int32)), .val (.int (1 : Int32)), .val (.int (1 : Int32)), .val (.int (1 : Int32)), .val (.int r_49)] [(.int (1 : Int32))]) _
            exact retN X49 hx (t := .boolean) Bd.returns (by simp) (hb hby at_189) hr
          · show Q_law Z pa pb pc_ pd_ pe G1 G3 h0 n0 _ T49.heap _
            rw [e49]
            exact ⟨rfl, N49, K27⟩
        ·
          obtain ⟨rfl, hm161⟩ := hcase
          have P52 : ∀ t, GG p e below T46 (mkF m 172 #[.val (.int pa), .val (.int pb), .val (.int pc_), .val (.int pd_), .val (.int pe), .val (.ref b2), .val (.ref b24), .val (.int (0 : Int32)), .val (.int (1 : Int32)), .val (.int (1 : Int32)), .val (.int (-1 : Int32)), .unset] [(.int (0 : Int32)), (.ref b24)]) t → Steps p.tables e below s0 t := fun t kk_ => P47 t (by
            refine XS.ifYes X46.here hx rfl (pc0 := 161) (pc' := 168) rfl (hb hby at_161) rfl ((if0 _ _).trans (teq ((by decide) : (0 : Int32) = (0 : Int32))).1) (by decide) (by decide) ?_
            refine XS.aload X46.here hx rfl (hb hby at_168) rfl rfl ?_
            refine XS.iload X46.here hx rfl (hb hby at_170) rfl ?_
            exact kk_)
          obtain ⟨_, _, ⟨T53, L53, k53, n53⟩, -, X53, ⟨Lc53, hQ53, l53, y53, z53⟩, st53⟩ := Jvm.LawKit.callS X46 hx (y := mn_25) hown (mw hZ hw 60 rfl) (mw hZ hw 61 rfl) (mw hZ hw 62 rfl) (mw hZ hw 63 rfl) (by decide) (backOf (W := 0) (rm_clo0 l Z a0 hw [] b24 t_27 kb_27 cd_27 nB_27 vs_27 r_5 r_10 r_15 r_20 G1 G3 T27.heap n0 (Nat.le_trans Z0 K27.1) E_b24 F_value_b24 F_coder_b24 V_t_27 S_COMPACT_STRINGS S__assertionsDisabled S_HI_BYTE_SHIFT S_LO_BYTE_SHIFT S_SIOOBE_FORMATTER OL hz rG3 s4_27 ir_5 ir_10 ir_15 ir_20) hZ (ww hw 63 rfl) (ww hw 62 rfl) (by decide) (by decide)) (g := (mkF m 172 #[.val (.int pa), .val (.int pb), .val (.int pc_), .val (.int pd_), .val (.int pe), .val (.ref b2), .val (.ref b24), .val (.int (0 : Int32)), .val (.int (1 : Int32)), .val (.int (1 : Int32)), .val (.int (-1 : Int32)), .unset] [(.int (0 : Int32)), (.ref b24)])) rfl (by rw [hml]; rfl) (argsL := [(.ref b24), (.int (0 : Int32))]) (rest := []) (lenOf pd_18 rfl) rfl (by show 2 * 0 + _ ≤ _; exact Nat.le_of_eq rfl) (hb hby at_172) (fun _ _ => ⟨rfl, e46, (by decide : 4 + 0 ≤ _), (by decide : 20 + 0 ≤ _)⟩)
          dsimp only [Pt.U, Pt.locs, Pt.cells, Pt.slots] at X53 l53 y53 z53 st53 hQ53
          subst l53 y53 z53
          obtain ⟨r_53, rfl, N53q, e53, po53_0⟩ := hQ53
          have N53 := Fr.app N46 N53q
          have P54 : ∀ t, GG p e below T53 (mkF m 175 #[.val (.int pa), .val (.int pb), .val (.int pc_), .val (.int pd_), .val (.int pe), .val (.ref b2), .val (.ref b24), .val (.int (0 : Int32)), .val (.int (1 : Int32)), .val (.int (1 : Int32)), .val (.int (-1 : Int32)), .unset] [(.int r_53)]) t → Steps p.tables e below s0 t := fun t kk_ => P52 t (st53 _ kk_)
          have res_53 := po53_0
          have P55 : ∀ t, GG p e below T53 (mkF m 189 #[.val (.int pa), .val (.int pb), .val (.int pc_), .val (.int pd_), .val (.int pe), .val (.ref b2), .val (.ref b24), .val (.int (0 : Int32)), .val (.int (1 : Int32)), .val (.int (1 : Int32)), .val (.int (-1 : Int32)), .val (.int r_53)] [(.int (1 : Int32))]) t → Steps p.tables e below s0 t := fun t kk_ => P54 t (by
            refine XS.istore X53.here hx rfl (hb hby at_175) rfl (l' := #[.val (.int pa), .val (.int pb), .val (.int pc_), .val (.int pd_), .val (.int pe), .val (.ref b2), .val (.ref b24), .val (.int (0 : Int32)), .val (.int (1 : Int32)), .val (.int (1 : Int32)), .val (.int (-1 : Int32)), .val (.int r_53)]) rfl ?_
            refine XS.iload X53.here hx rfl (hb hby at_177) rfl ?_
            refine XS.iload X53.here hx rfl (hb hby at_179) rfl ?_
            refine XS.icmpNo X53.here hx rfl (hb hby at_181) rfl (teq ((absurd hm89 hm161) : r_53 = (-1 : Int32))).2 ?_
            refine XS.iconst X53.here hx rfl (hb hby at_184) ?_
            refine XS.goto X53.here hx rfl (pc0 := 185) (pc' := 189) rfl (hb hby at_185) (by decide) (by decide) ?_
            exact kk_)
          subst hs0
          obtain ⟨fs, hr, hrun, hended, hW, hsame⟩ := X53.leave (v := some (.int (nar .boolean (1 : Int32)))) (fun h => by rw [Bd.returns] at h; cases h)
          refine ⟨_, _, P55 _ ?_, hrun, hended, _, _, rfl, ?_, ⟨_, rfl⟩, hW, hsame.mono (by decide) (by decide)⟩
          · show GG p e below T53 (mkF m 189 #[.val (.int pa), .val (.int pb), .val (.int pc_), .val (.int pd_), .val (.int pe), .val (.ref b2), .val (.ref b24), .val (.int (0 : Int32)), .val (.int (1 : Int32)), .val (.int (1 : Int32)), .val (.int (-1 : Int32)), .val (.int r_53)] [(.int (1 : Int32))]) _
            exact retN X53 hx (t := .boolean) Bd.returns (by simp) (hb hby at_189) hr
          · show Q_law Z pa pb pc_ pd_ pe G1 G3 h0 n0 _ T53.heap _
            rw [e53]
            exact ⟨rfl, N53, K27⟩
      ·
        obtain ⟨rfl, hm89⟩ := hcase
        have P56 : ∀ t, GG p e below T40 (mkF m 107 #[.val (.int pa), .val (.int pb), .val (.int pc_), .val (.int pd_), .val (.int pe), .val (.ref b2), .val (.ref b24), .val (.int (0 : Int32)), .val (.int (1 : Int32)), .val (.int (-1 : Int32)), .unset, .unset] [(.int (2 : Int32)), (.ref b2)]) t → Steps p.tables e below s0 t := fun t kk_ => P41 t (by
          refine XS.ifYes X40.here hx rfl (pc0 := 89) (pc' := 98) rfl (hb hby at_89) rfl ((if0 _ _).trans (teq ((by decide) : (0 : Int32) = (0 : Int32))).1) (by decide) (by decide) ?_
          refine XS.iload X40.here hx rfl (hb hby at_98) rfl ?_
          refine XS.iconst X40.here hx rfl (hb hby at_100) ?_
          refine XS.icmpNo X40.here hx rfl (hb hby at_101) rfl (tlt ((by decide) : (0 : Int32) < (2 : Int32))).2.1 ?_
          refine XS.aload X40.here hx rfl (hb hby at_104) rfl rfl ?_
          refine XS.iconst X40.here hx rfl (hb hby at_106) ?_
          exact kk_)
        obtain ⟨cl57, Ar57, q57, S57, M57, Hs57, G57⟩ := id V_b2
        have hin57 := inb_of (j := (2 : Int32)) S57 ⟨by decide, by decide⟩
        have hat57 : cl57.slots[((2 : Int32)).toNatClampNeg]? = some (.int r_15) := Has.at Hs57 hin57 (rfl)
        have P58 : ∀ t, GG p e below T40 (mkF m 108 #[.val (.int pa), .val (.int pb), .val (.int pc_), .val (.int pd_), .val (.int pe), .val (.ref b2), .val (.ref b24), .val (.int (0 : Int32)), .val (.int (1 : Int32)), .val (.int (-1 : Int32)), .unset, .unset] [(.int r_15)]) t → Steps p.tables e below s0 t := fun t kk_ => P56 t (by
          refine X40.caload hx (j := (2 : Int32)) (v := (.int r_15)) (by rw [e40]; exact Ar57.1) (State.isArrayOf_alike hZ.alike Ar57.2.1) Ar57.2.2 hin57 hat57 (g := (mkF m 107 #[.val (.int pa), .val (.int pb), .val (.int pc_), .val (.int pd_), .val (.int pe), .val (.ref b2), .val (.ref b24), .val (.int (0 : Int32)), .val (.int (1 : Int32)), .val (.int (-1 : Int32)), .unset, .unset] [(.int (2 : Int32)), (.ref b2)])) rfl rfl (hb hby at_107) _ ?_
          exact kk_)
        have P59 : ∀ t, GG p e below T40 (mkF m 110 #[.val (.int pa), .val (.int pb), .val (.int pc_), .val (.int pd_), .val (.int pe), .val (.ref b2), .val (.ref b24), .val (.int (0 : Int32)), .val (.int (1 : Int32)), .val (.int (-1 : Int32)), .unset, .unset] [(.int (1 : Int32)), (.int r_15)]) t → Steps p.tables e below s0 t := fun t kk_ => P58 t (by
          refine XS.iload X40.here hx rfl (hb hby at_108) rfl ?_
          exact kk_)
        obtain ⟨_, _, ⟨T60, L60, k60, n60⟩, -, X60, ⟨Lc60, hQ60, l60, y60, z60⟩, st60⟩ := Jvm.LawKit.callS X40 hx (y := mn_24) hown (mw hZ hw 54 rfl) (mw hZ hw 55 rfl) (mw hZ hw 3 rfl) (mw hZ hw 56 rfl) (by decide) (backOf (W := 0) (rm_stp1 l Z a0 hw [] r_15 T27.heap n0 (Nat.le_trans Z0 K27.1)) hZ (ww hw 56 rfl) (ww hw 3 rfl) (by decide) (by decide)) (g := (mkF m 110 #[.val (.int pa), .val (.int pb), .val (.int pc_), .val (.int pd_), .val (.int pe), .val (.ref b2), .val (.ref b24), .val (.int (0 : Int32)), .val (.int (1 : Int32)), .val (.int (-1 : Int32)), .unset, .unset] [(.int (1 : Int32)), (.int r_15)])) rfl (by rw [hml]; rfl) (argsL := [(.int r_15), (.int (1 : Int32))]) (rest := []) (lenOf pd_14 rfl) rfl (by show 2 * 0 + _ ≤ _; exact Nat.le_of_eq rfl) (hb hby at_110) (fun _ _ => ⟨rfl, e40, (by decide : 4 + 0 ≤ _), (by decide : 20 + 0 ≤ _)⟩)
        dsimp only [Pt.U, Pt.locs, Pt.cells, Pt.slots] at X60 l60 y60 z60 st60 hQ60
        subst l60 y60 z60
        obtain ⟨r_60, rfl, N60q, e60, po60_0⟩ := hQ60
        have N60 := Fr.app N40 N60q
        have P61 : ∀ t, GG p e below T60 (mkF m 113 #[.val (.int pa), .val (.int pb), .val (.int pc_), .val (.int pd_), .val (.int pe), .val (.ref b2), .val (.ref b24), .val (.int (0 : Int32)), .val (.int (1 : Int32)), .val (.int (-1 : Int32)), .unset, .unset] [(.int r_60)]) t → Steps p.tables e below s0 t := fun t kk_ => P59 t (st60 _ kk_)
        have res_60 := po60_0
        rcases res_60 with hcase | hcase
        ·
          obtain ⟨rfl, hm113⟩ := hcase
          have P62 : ∀ t, GG p e below T60 (mkF m 155 #[.val (.int pa), .val (.int pb), .val (.int pc_), .val (.int pd_), .val (.int pe), .val (.ref b2), .val (.ref b24), .val (.int (0 : Int32)), .val (.int (1 : Int32)), .val (.int (2 : Int32)), .val (.int (-1 : Int32)), .unset] [(.int (2 : Int32)), (.ref b2)]) t → Steps p.tables e below s0 t := fun t kk_ => P61 t (by
            refine XS.ifNo X60.here hx rfl (hb hby at_113) rfl ((if0 _ _).trans (feq ((by decide) : ¬ ((1 : Int32) = (0 : Int32)))).1) ?_
            refine XS.iconst X60.here hx rfl (hb hby at_116) ?_
            refine XS.istore X60.here hx rfl (hb hby at_117) rfl (l' := #[.val (.int pa), .val (.int pb), .val (.int pc_), .val (.int pd_), .val (.int pe), .val (.ref b2), .val (.ref b24), .val (.int (0 : Int32)), .val (.int (1 : Int32)), .val (.int (2 : Int32)), .unset, .unset]) rfl ?_
            refine XS.goto X60.here hx rfl (pc0 := 119) (pc' := 143) rfl (hb hby at_119) (by decide) (by decide) ?_
            refine XS.iconst X60.here hx rfl (hb hby at_143) ?_
            refine XS.istore X60.here hx rfl (hb hby at_144) rfl (l' := #[.val (.int pa), .val (.int pb), .val (.int pc_), .val (.int pd_), .val (.int pe), .val (.ref b2), .val (.ref b24), .val (.int (0 : Int32)), .val (.int (1 : Int32)), .val (.int (2 : Int32)), .val (.int (-1 : Int32)), .unset]) rfl ?_
            refine XS.iload X60.here hx rfl (hb hby at_146) rfl ?_
            refine XS.ifNo X60.here hx rfl (hb hby at_148) rfl ((if0 _ _).trans (flt ((by decide) : ¬ ((2 : Int32) < (0 : Int32)))).1) ?_
            refine XS.aload X60.here hx rfl (hb hby at_151) rfl rfl ?_
            refine XS.iload X60.here hx rfl (hb hby at_153) rfl ?_
            exact kk_)
          obtain ⟨cl63, Ar63, q63, S63, M63, Hs63, G63⟩ := id V_b2
          have hin63 := inb_of (j := (2 : Int32)) S63 ⟨by decide, by decide⟩
          have hat63 : cl63.slots[((2 : Int32)).toNatClampNeg]? = some (.int r_15) := Has.at Hs63 hin63 (rfl)
          have P64 : ∀ t, GG p e below T60 (mkF m 156 #[.val (.int pa), .val (.int pb), .val (.int pc_), .val (.int pd_), .val (.int pe), .val (.ref b2), .val (.ref b24), .val (.int (0 : Int32)), .val (.int (1 : Int32)), .val (.int (2 : Int32)), .val (.int (-1 : Int32)), .unset] [(.int r_15)]) t → Steps p.tables e below s0 t := fun t kk_ => P62 t (by
            refine X60.caload hx (j := (2 : Int32)) (v := (.int r_15)) (by rw [e60]; exact Ar63.1) (State.isArrayOf_alike hZ.alike Ar63.2.1) Ar63.2.2 hin63 hat63 (g := (mkF m 155 #[.val (.int pa), .val (.int pb), .val (.int pc_), .val (.int pd_), .val (.int pe), .val (.ref b2), .val (.ref b24), .val (.int (0 : Int32)), .val (.int (1 : Int32)), .val (.int (2 : Int32)), .val (.int (-1 : Int32)), .unset] [(.int (2 : Int32)), (.ref b2)])) rfl rfl (hb hby at_155) _ ?_
            exact kk_)
          have P65 : ∀ t, GG p e below T60 (mkF m 158 #[.val (.int pa), .val (.int pb), .val (.int pc_), .val (.int pd_), .val (.int pe), .val (.ref b2), .val (.ref b24), .val (.int (0 : Int32)), .val (.int (1 : Int32)), .val (.int (2 : Int32)), .val (.int (-1 : Int32)), .unset] [(.int (1 : Int32)), (.int r_15)]) t → Steps p.tables e below s0 t := fun t kk_ => P64 t (by
            refine XS.iload X60.here hx rfl (hb hby at_156) rfl ?_
            exact kk_)
          obtain ⟨_, _, ⟨T66, L66, k66, n66⟩, -, X66, ⟨Lc66, hQ66, l66, y66, z66⟩, st66⟩ := Jvm.LawKit.callS X60 hx (y := mn_17) hown (mw hZ hw 57 rfl) (mw hZ hw 58 rfl) (mw hZ hw 3 rfl) (mw hZ hw 59 rfl) (by decide) (backOf (W := 0) (rm_mat1 l Z a0 hw [] r_15 T27.heap n0 (Nat.le_trans Z0 K27.1)) hZ (ww hw 59 rfl) (ww hw 3 rfl) (by decide) (by decide)) (g := (mkF m 158 #[.val (.int pa), .val (.int pb), .val (.int pc_), .val (.int pd_), .val (.int pe), .val (.ref b2), .val (.ref b24), .val (.int (0 : Int32)), .val (.int (1 : Int32)), .val (.int (2 : Int32)), .val (.int (-1 : Int32)), .unset] [(.int (1 : Int32)), (.int r_15)])) rfl (by rw [hml]; rfl) (argsL := [(.int r_15), (.int (1 : Int32))]) (rest := []) (lenOf pd_14 rfl) rfl (by show 2 * 0 + _ ≤ _; exact Nat.le_of_eq rfl) (hb hby at_158) (fun _ _ => ⟨rfl, e60, (by decide : 4 + 0 ≤ _), (by decide : 20 + 0 ≤ _)⟩)
          dsimp only [Pt.U, Pt.locs, Pt.cells, Pt.slots] at X66 l66 y66 z66 st66 hQ66
          subst l66 y66 z66
          obtain ⟨r_66, rfl, N66q, e66, po66_0⟩ := hQ66
          have N66 := Fr.app N60 N66q
          have P67 : ∀ t, GG p e below T66 (mkF m 161 #[.val (.int pa), .val (.int pb), .val (.int pc_), .val (.int pd_), .val (.int pe), .val (.ref b2), .val (.ref b24), .val (.int (0 : Int32)), .val (.int (1 : Int32)), .val (.int (2 : Int32)), .val (.int (-1 : Int32)), .unset] [(.int r_66)]) t → Steps p.tables e below s0 t := fun t kk_ => P65 t (st66 _ kk_)
          have res_66 := po66_0
          rcases res_66 with hcase | hcase
          ·
            obtain ⟨rfl, hm161⟩ := hcase
            have P68 : ∀ t, GG p e below T66 (mkF m 172 #[.val (.int pa), .val (.int pb), .val (.int pc_), .val (.int pd_), .val (.int pe), .val (.ref b2), .val (.ref b24), .val (.int (0 : Int32)), .val (.int (1 : Int32)), .val (.int (2 : Int32)), .val (.int (2 : Int32)), .unset] [(.int (0 : Int32)), (.ref b24)]) t → Steps p.tables e below s0 t := fun t kk_ => P67 t (by
              refine XS.ifNo X66.here hx rfl (hb hby at_161) rfl ((if0 _ _).trans (feq ((by decide) : ¬ ((1 : Int32) = (0 : Int32)))).1) ?_
              refine XS.iload X66.here hx rfl (hb hby at_164) rfl ?_
              refine XS.istore X66.here hx rfl (hb hby at_166) rfl (l' := #[.val (.int pa), .val (.int pb), .val (.int pc_), .val (.int pd_), .val (.int pe), .val (.ref b2), .val (.ref b24), .val (.int (0 : Int32)), .val (.int (1 : Int32)), .val (.int (2 : Int32)), .val (.int (2 : Int32)), .unset]) rfl ?_
              refine XS.aload X66.here hx rfl (hb hby at_168) rfl rfl ?_
              refine XS.iload X66.here hx rfl (hb hby at_170) rfl ?_
              exact kk_)
            obtain ⟨_, _, ⟨T69, L69, k69, n69⟩, -, X69, ⟨Lc69, hQ69, l69, y69, z69⟩, st69⟩ := Jvm.LawKit.callS X66 hx (y := mn_25) hown (mw hZ hw 60 rfl) (mw hZ hw 61 rfl) (mw hZ hw 62 rfl) (mw hZ hw 63 rfl) (by decide) (backOf (W := 0) (rm_clo0 l Z a0 hw [] b24 t_27 kb_27 cd_27 nB_27 vs_27 r_5 r_10 r_15 r_20 G1 G3 T27.heap n0 (Nat.le_trans Z0 K27.1) E_b24 F_value_b24 F_coder_b24 V_t_27 S_COMPACT_STRINGS S__assertionsDisabled S_HI_BYTE_SHIFT S_LO_BYTE_SHIFT S_SIOOBE_FORMATTER OL hz rG3 s4_27 ir_5 ir_10 ir_15 ir_20) hZ (ww hw 63 rfl) (ww hw 62 rfl) (by decide) (by decide)) (g := (mkF m 172 #[.val (.int pa), .val (.int pb), .val (.int pc_), .val (.int pd_), .val (.int pe), .val (.ref b2), .val (.ref b24), .val (.int (0 : Int32)), .val (.int (1 : Int32)), .val (.int (2 : Int32)), .val (.int (2 : Int32)), .unset] [(.int (0 : Int32)), (.ref b24)])) rfl (by rw [hml]; rfl) (argsL := [(.ref b24), (.int (0 : Int32))]) (rest := []) (lenOf pd_18 rfl) rfl (by show 2 * 0 + _ ≤ _; exact Nat.le_of_eq rfl) (hb hby at_172) (fun _ _ => ⟨rfl, e66, (by decide : 4 + 0 ≤ _), (by decide : 20 + 0 ≤ _)⟩)
            dsimp only [Pt.U, Pt.locs, Pt.cells, Pt.slots] at X69 l69 y69 z69 st69 hQ69
            subst l69 y69 z69
            obtain ⟨r_69, rfl, N69q, e69, po69_0⟩ := hQ69
            have N69 := Fr.app N66 N69q
            have P70 : ∀ t, GG p e below T69 (mkF m 175 #[.val (.int pa), .val (.int pb), .val (.int pc_), .val (.int pd_), .val (.int pe), .val (.ref b2), .val (.ref b24), .val (.int (0 : Int32)), .val (.int (1 : Int32)), .val (.int (2 : Int32)), .val (.int (2 : Int32)), .unset] [(.int r_69)]) t → Steps p.tables e below s0 t := fun t kk_ => P68 t (st69 _ kk_)
            have res_69 := po69_0
            have P71 : ∀ t, GG p e below T69 (mkF m 189 #[.val (.int pa), .val (.int pb), .val (.int pc_), .val (.int pd_), .val (.int pe), .val (.ref b2), .val (.ref b24), .val (.int (0 : Int32)), .val (.int (1 : Int32)), .val (.int (2 : Int32)), .val (.int (2 : Int32)), .val (.int r_69)] [(.int (1 : Int32))]) t → Steps p.tables e below s0 t := fun t kk_ => P70 t (by
              refine XS.istore X69.here hx rfl (hb hby at_175) rfl (l' := #[.val (.int pa), .val (.int pb), .val (.int pc_), .val (.int pd_), .val (.int pe), .val (.ref b2), .val (.ref b24), .val (.int (0 : Int32)), .val (.int (1 : Int32)), .val (.int (2 : Int32)), .val (.int (2 : Int32)), .val (.int r_69)]) rfl ?_
              refine XS.iload X69.here hx rfl (hb hby at_177) rfl ?_
              refine XS.iload X69.here hx rfl (hb hby at_179) rfl ?_
              refine XS.icmpNo X69.here hx rfl (hb hby at_181) rfl (teq ((by rw [res_69]; simp [clo, hc61_35, hm89, hm113, hm161]) : r_69 = (2 : Int32))).2 ?_
              refine XS.iconst X69.here hx rfl (hb hby at_184) ?_
              refine XS.goto X69.here hx rfl (pc0 := 185) (pc' := 189) rfl (hb hby at_185) (by decide) (by decide) ?_
              exact kk_)
            subst hs0
            obtain ⟨fs, hr, hrun, hended, hW, hsame⟩ := X69.leave (v := some (.int (nar .boolean (1 : Int32)))) (fun h => by rw [Bd.returns] at h; cases h)
            refine ⟨_, _, P71 _ ?_, hrun, hended, _, _, rfl, ?_, ⟨_, rfl⟩, hW, hsame.mono (by decide) (by decide)⟩
            · show GG p e below T69 (mkF m 189 #[.val (.int pa), .val (.int pb), .val (.int pc_), .val (.int pd_), .val (.int pe), .val (.ref b2), .val (.ref b24), .val (.int (0 : Int32)), .val (.int (1 : Int32)), .val (.int (2 : Int32)), .val (.int (2 : Int32)), .val (.int r_69)] [(.int (1 : Int32))]) _
              exact retN X69 hx (t := .boolean) Bd.returns (by simp) (hb hby at_189) hr
            · show Q_law Z pa pb pc_ pd_ pe G1 G3 h0 n0 _ T69.heap _
              rw [e69]
              exact ⟨rfl, N69, K27⟩
          ·
            obtain ⟨rfl, hm161⟩ := hcase
            have P72 : ∀ t, GG p e below T66 (mkF m 172 #[.val (.int pa), .val (.int pb), .val (.int pc_), .val (.int pd_), .val (.int pe), .val (.ref b2), .val (.ref b24), .val (.int (0 : Int32)), .val (.int (1 : Int32)), .val (.int (2 : Int32)), .val (.int (-1 : Int32)), .unset] [(.int (0 : Int32)), (.ref b24)]) t → Steps p.tables e below s0 t := fun t kk_ => P67 t (by
              refine XS.ifYes X66.here hx rfl (pc0 := 161) (pc' := 168) rfl (hb hby at_161) rfl ((if0 _ _).trans (teq ((by decide) : (0 : Int32) = (0 : Int32))).1) (by decide) (by decide) ?_
              refine XS.aload X66.here hx rfl (hb hby at_168) rfl rfl ?_
              refine XS.iload X66.here hx rfl (hb hby at_170) rfl ?_
              exact kk_)
            obtain ⟨_, _, ⟨T73, L73, k73, n73⟩, -, X73, ⟨Lc73, hQ73, l73, y73, z73⟩, st73⟩ := Jvm.LawKit.callS X66 hx (y := mn_25) hown (mw hZ hw 60 rfl) (mw hZ hw 61 rfl) (mw hZ hw 62 rfl) (mw hZ hw 63 rfl) (by decide) (backOf (W := 0) (rm_clo0 l Z a0 hw [] b24 t_27 kb_27 cd_27 nB_27 vs_27 r_5 r_10 r_15 r_20 G1 G3 T27.heap n0 (Nat.le_trans Z0 K27.1) E_b24 F_value_b24 F_coder_b24 V_t_27 S_COMPACT_STRINGS S__assertionsDisabled S_HI_BYTE_SHIFT S_LO_BYTE_SHIFT S_SIOOBE_FORMATTER OL hz rG3 s4_27 ir_5 ir_10 ir_15 ir_20) hZ (ww hw 63 rfl) (ww hw 62 rfl) (by decide) (by decide)) (g := (mkF m 172 #[.val (.int pa), .val (.int pb), .val (.int pc_), .val (.int pd_), .val (.int pe), .val (.ref b2), .val (.ref b24), .val (.int (0 : Int32)), .val (.int (1 : Int32)), .val (.int (2 : Int32)), .val (.int (-1 : Int32)), .unset] [(.int (0 : Int32)), (.ref b24)])) rfl (by rw [hml]; rfl) (argsL := [(.ref b24), (.int (0 : Int32))]) (rest := []) (lenOf pd_18 rfl) rfl (by show 2 * 0 + _ ≤ _; exact Nat.le_of_eq rfl) (hb hby at_172) (fun _ _ => ⟨rfl, e66, (by decide : 4 + 0 ≤ _), (by decide : 20 + 0 ≤ _)⟩)
            dsimp only [Pt.U, Pt.locs, Pt.cells, Pt.slots] at X73 l73 y73 z73 st73 hQ73
            subst l73 y73 z73
            obtain ⟨r_73, rfl, N73q, e73, po73_0⟩ := hQ73
            have N73 := Fr.app N66 N73q
            have P74 : ∀ t, GG p e below T73 (mkF m 175 #[.val (.int pa), .val (.int pb), .val (.int pc_), .val (.int pd_), .val (.int pe), .val (.ref b2), .val (.ref b24), .val (.int (0 : Int32)), .val (.int (1 : Int32)), .val (.int (2 : Int32)), .val (.int (-1 : Int32)), .unset] [(.int r_73)]) t → Steps p.tables e below s0 t := fun t kk_ => P72 t (st73 _ kk_)
            have res_73 := po73_0
            have P75 : ∀ t, GG p e below T73 (mkF m 189 #[.val (.int pa), .val (.int pb), .val (.int pc_), .val (.int pd_), .val (.int pe), .val (.ref b2), .val (.ref b24), .val (.int (0 : Int32)), .val (.int (1 : Int32)), .val (.int (2 : Int32)), .val (.int (-1 : Int32)), .val (.int r_73)] [(.int (1 : Int32))]) t → Steps p.tables e below s0 t := fun t kk_ => P74 t (by
              refine XS.istore X73.here hx rfl (hb hby at_175) rfl (l' := #[.val (.int pa), .val (.int pb), .val (.int pc_), .val (.int pd_), .val (.int pe), .val (.ref b2), .val (.ref b24), .val (.int (0 : Int32)), .val (.int (1 : Int32)), .val (.int (2 : Int32)), .val (.int (-1 : Int32)), .val (.int r_73)]) rfl ?_
              refine XS.iload X73.here hx rfl (hb hby at_177) rfl ?_
              refine XS.iload X73.here hx rfl (hb hby at_179) rfl ?_
              refine XS.icmpNo X73.here hx rfl (hb hby at_181) rfl (teq ((absurd hm113 hm161) : r_73 = (-1 : Int32))).2 ?_
              refine XS.iconst X73.here hx rfl (hb hby at_184) ?_
              refine XS.goto X73.here hx rfl (pc0 := 185) (pc' := 189) rfl (hb hby at_185) (by decide) (by decide) ?_
              exact kk_)
            subst hs0
            obtain ⟨fs, hr, hrun, hended, hW, hsame⟩ := X73.leave (v := some (.int (nar .boolean (1 : Int32)))) (fun h => by rw [Bd.returns] at h; cases h)
            refine ⟨_, _, P75 _ ?_, hrun, hended, _, _, rfl, ?_, ⟨_, rfl⟩, hW, hsame.mono (by decide) (by decide)⟩
            · show GG p e below T73 (mkF m 189 #[.val (.int pa), .val (.int pb), .val (.int pc_), .val (.int pd_), .val (.int pe), .val (.ref b2), .val (.ref b24), .val (.int (0 : Int32)), .val (.int (1 : Int32)), .val (.int (2 : Int32)), .val (.int (-1 : Int32)), .val (.int r_73)] [(.int (1 : Int32))]) _
              exact retN X73 hx (t := .boolean) Bd.returns (by simp) (hb hby at_189) hr
            · show Q_law Z pa pb pc_ pd_ pe G1 G3 h0 n0 _ T73.heap _
              rw [e73]
              exact ⟨rfl, N73, K27⟩
        ·
          obtain ⟨rfl, hm113⟩ := hcase
          have P76 : ∀ t, GG p e below T60 (mkF m 131 #[.val (.int pa), .val (.int pb), .val (.int pc_), .val (.int pd_), .val (.int pe), .val (.ref b2), .val (.ref b24), .val (.int (0 : Int32)), .val (.int (1 : Int32)), .val (.int (-1 : Int32)), .unset, .unset] [(.int (3 : Int32)), (.ref b2)]) t → Steps p.tables e below s0 t := fun t kk_ => P61 t (by
            refine XS.ifYes X60.here hx rfl (pc0 := 113) (pc' := 122) rfl (hb hby at_113) rfl ((if0 _ _).trans (teq ((by decide) : (0 : Int32) = (0 : Int32))).1) (by decide) (by decide) ?_
            refine XS.iload X60.here hx rfl (hb hby at_122) rfl ?_
            refine XS.iconst X60.here hx rfl (hb hby at_124) ?_
            refine XS.icmpNo X60.here hx rfl (hb hby at_125) rfl (tlt ((by decide) : (0 : Int32) < (3 : Int32))).2.1 ?_
            refine XS.aload X60.here hx rfl (hb hby at_128) rfl rfl ?_
            refine XS.iconst X60.here hx rfl (hb hby at_130) ?_
            exact kk_)
          obtain ⟨cl77, Ar77, q77, S77, M77, Hs77, G77⟩ := id V_b2
          have hin77 := inb_of (j := (3 : Int32)) S77 ⟨by decide, by decide⟩
          have hat77 : cl77.slots[((3 : Int32)).toNatClampNeg]? = some (.int r_20) := Has.at Hs77 hin77 (rfl)
          have P78 : ∀ t, GG p e below T60 (mkF m 132 #[.val (.int pa), .val (.int pb), .val (.int pc_), .val (.int pd_), .val (.int pe), .val (.ref b2), .val (.ref b24), .val (.int (0 : Int32)), .val (.int (1 : Int32)), .val (.int (-1 : Int32)), .unset, .unset] [(.int r_20)]) t → Steps p.tables e below s0 t := fun t kk_ => P76 t (by
            refine X60.caload hx (j := (3 : Int32)) (v := (.int r_20)) (by rw [e60]; exact Ar77.1) (State.isArrayOf_alike hZ.alike Ar77.2.1) Ar77.2.2 hin77 hat77 (g := (mkF m 131 #[.val (.int pa), .val (.int pb), .val (.int pc_), .val (.int pd_), .val (.int pe), .val (.ref b2), .val (.ref b24), .val (.int (0 : Int32)), .val (.int (1 : Int32)), .val (.int (-1 : Int32)), .unset, .unset] [(.int (3 : Int32)), (.ref b2)])) rfl rfl (hb hby at_131) _ ?_
            exact kk_)
          have P79 : ∀ t, GG p e below T60 (mkF m 134 #[.val (.int pa), .val (.int pb), .val (.int pc_), .val (.int pd_), .val (.int pe), .val (.ref b2), .val (.ref b24), .val (.int (0 : Int32)), .val (.int (1 : Int32)), .val (.int (-1 : Int32)), .unset, .unset] [(.int (1 : Int32)), (.int r_20)]) t → Steps p.tables e below s0 t := fun t kk_ => P78 t (by
            refine XS.iload X60.here hx rfl (hb hby at_132) rfl ?_
            exact kk_)
          obtain ⟨_, _, ⟨T80, L80, k80, n80⟩, -, X80, ⟨Lc80, hQ80, l80, y80, z80⟩, st80⟩ := Jvm.LawKit.callS X60 hx (y := mn_24) hown (mw hZ hw 54 rfl) (mw hZ hw 55 rfl) (mw hZ hw 3 rfl) (mw hZ hw 56 rfl) (by decide) (backOf (W := 0) (rm_stp1 l Z a0 hw [] r_20 T27.heap n0 (Nat.le_trans Z0 K27.1)) hZ (ww hw 56 rfl) (ww hw 3 rfl) (by decide) (by decide)) (g := (mkF m 134 #[.val (.int pa), .val (.int pb), .val (.int pc_), .val (.int pd_), .val (.int pe), .val (.ref b2), .val (.ref b24), .val (.int (0 : Int32)), .val (.int (1 : Int32)), .val (.int (-1 : Int32)), .unset, .unset] [(.int (1 : Int32)), (.int r_20)])) rfl (by rw [hml]; rfl) (argsL := [(.int r_20), (.int (1 : Int32))]) (rest := []) (lenOf pd_14 rfl) rfl (by show 2 * 0 + _ ≤ _; exact Nat.le_of_eq rfl) (hb hby at_134) (fun _ _ => ⟨rfl, e60, (by decide : 4 + 0 ≤ _), (by decide : 20 + 0 ≤ _)⟩)
          dsimp only [Pt.U, Pt.locs, Pt.cells, Pt.slots] at X80 l80 y80 z80 st80 hQ80
          subst l80 y80 z80
          obtain ⟨r_80, rfl, N80q, e80, po80_0⟩ := hQ80
          have N80 := Fr.app N60 N80q
          have P81 : ∀ t, GG p e below T80 (mkF m 137 #[.val (.int pa), .val (.int pb), .val (.int pc_), .val (.int pd_), .val (.int pe), .val (.ref b2), .val (.ref b24), .val (.int (0 : Int32)), .val (.int (1 : Int32)), .val (.int (-1 : Int32)), .unset, .unset] [(.int r_80)]) t → Steps p.tables e below s0 t := fun t kk_ => P79 t (st80 _ kk_)
          have res_80 := po80_0
          rcases res_80 with hcase | hcase
          ·
            obtain ⟨rfl, hm137⟩ := hcase
            have P82 : ∀ t, GG p e below T80 (mkF m 155 #[.val (.int pa), .val (.int pb), .val (.int pc_), .val (.int pd_), .val (.int pe), .val (.ref b2), .val (.ref b24), .val (.int (0 : Int32)), .val (.int (1 : Int32)), .val (.int (3 : Int32)), .val (.int (-1 : Int32)), .unset] [(.int (3 : Int32)), (.ref b2)]) t → Steps p.tables e below s0 t := fun t kk_ => P81 t (by
              refine XS.ifNo X80.here hx rfl (hb hby at_137) rfl ((if0 _ _).trans (feq ((by decide) : ¬ ((1 : Int32) = (0 : Int32)))).1) ?_
              refine XS.iconst X80.here hx rfl (hb hby at_140) ?_
              refine XS.istore X80.here hx rfl (hb hby at_141) rfl (l' := #[.val (.int pa), .val (.int pb), .val (.int pc_), .val (.int pd_), .val (.int pe), .val (.ref b2), .val (.ref b24), .val (.int (0 : Int32)), .val (.int (1 : Int32)), .val (.int (3 : Int32)), .unset, .unset]) rfl ?_
              refine XS.iconst X80.here hx rfl (hb hby at_143) ?_
              refine XS.istore X80.here hx rfl (hb hby at_144) rfl (l' := #[.val (.int pa), .val (.int pb), .val (.int pc_), .val (.int pd_), .val (.int pe), .val (.ref b2), .val (.ref b24), .val (.int (0 : Int32)), .val (.int (1 : Int32)), .val (.int (3 : Int32)), .val (.int (-1 : Int32)), .unset]) rfl ?_
              refine XS.iload X80.here hx rfl (hb hby at_146) rfl ?_
              refine XS.ifNo X80.here hx rfl (hb hby at_148) rfl ((if0 _ _).trans (flt ((by decide) : ¬ ((3 : Int32) < (0 : Int32)))).1) ?_
              refine XS.aload X80.here hx rfl (hb hby at_151) rfl rfl ?_
              refine XS.iload X80.here hx rfl (hb hby at_153) rfl ?_
              exact kk_)
            obtain ⟨cl83, Ar83, q83, S83, M83, Hs83, G83⟩ := id V_b2
            have hin83 := inb_of (j := (3 : Int32)) S83 ⟨by decide, by decide⟩
            have hat83 : cl83.slots[((3 : Int32)).toNatClampNeg]? = some (.int r_20) := Has.at Hs83 hin83 (rfl)
            have P84 : ∀ t, GG p e below T80 (mkF m 156 #[.val (.int pa), .val (.int pb), .val (.int pc_), .val (.int pd_), .val (.int pe), .val (.ref b2), .val (.ref b24), .val (.int (0 : Int32)), .val (.int (1 : Int32)), .val (.int (3 : Int32)), .val (.int (-1 : Int32)), .unset] [(.int r_20)]) t → Steps p.tables e below s0 t := fun t kk_ => P82 t (by
              refine X80.caload hx (j := (3 : Int32)) (v := (.int r_20)) (by rw [e80]; exact Ar83.1) (State.isArrayOf_alike hZ.alike Ar83.2.1) Ar83.2.2 hin83 hat83 (g := (mkF m 155 #[.val (.int pa), .val (.int pb), .val (.int pc_), .val (.int pd_), .val (.int pe), .val (.ref b2), .val (.ref b24), .val (.int (0 : Int32)), .val (.int (1 : Int32)), .val (.int (3 : Int32)), .val (.int (-1 : Int32)), .unset] [(.int (3 : Int32)), (.ref b2)])) rfl rfl (hb hby at_155) _ ?_
              exact kk_)
            have P85 : ∀ t, GG p e below T80 (mkF m 158 #[.val (.int pa), .val (.int pb), .val (.int pc_), .val (.int pd_), .val (.int pe), .val (.ref b2), .val (.ref b24), .val (.int (0 : Int32)), .val (.int (1 : Int32)), .val (.int (3 : Int32)), .val (.int (-1 : Int32)), .unset] [(.int (1 : Int32)), (.int r_20)]) t → Steps p.tables e below s0 t := fun t kk_ => P84 t (by
              refine XS.iload X80.here hx rfl (hb hby at_156) rfl ?_
              exact kk_)
            obtain ⟨_, _, ⟨T86, L86, k86, n86⟩, -, X86, ⟨Lc86, hQ86, l86, y86, z86⟩, st86⟩ := Jvm.LawKit.callS X80 hx (y := mn_17) hown (mw hZ hw 57 rfl) (mw hZ hw 58 rfl) (mw hZ hw 3 rfl) (mw hZ hw 59 rfl) (by decide) (backOf (W := 0) (rm_mat1 l Z a0 hw [] r_20 T27.heap n0 (Nat.le_trans Z0 K27.1)) hZ (ww hw 59 rfl) (ww hw 3 rfl) (by decide) (by decide)) (g := (mkF m 158 #[.val (.int pa), .val (.int pb), .val (.int pc_), .val (.int pd_), .val (.int pe), .val (.ref b2), .val (.ref b24), .val (.int (0 : Int32)), .val (.int (1 : Int32)), .val (.int (3 : Int32)), .val (.int (-1 : Int32)), .unset] [(.int (1 : Int32)), (.int r_20)])) rfl (by rw [hml]; rfl) (argsL := [(.int r_20), (.int (1 : Int32))]) (rest := []) (lenOf pd_14 rfl) rfl (by show 2 * 0 + _ ≤ _; exact Nat.le_of_eq rfl) (hb hby at_158) (fun _ _ => ⟨rfl, e80, (by decide : 4 + 0 ≤ _), (by decide : 20 + 0 ≤ _)⟩)
            dsimp only [Pt.U, Pt.locs, Pt.cells, Pt.slots] at X86 l86 y86 z86 st86 hQ86
            subst l86 y86 z86
            obtain ⟨r_86, rfl, N86q, e86, po86_0⟩ := hQ86
            have N86 := Fr.app N80 N86q
            have P87 : ∀ t, GG p e below T86 (mkF m 161 #[.val (.int pa), .val (.int pb), .val (.int pc_), .val (.int pd_), .val (.int pe), .val (.ref b2), .val (.ref b24), .val (.int (0 : Int32)), .val (.int (1 : Int32)), .val (.int (3 : Int32)), .val (.int (-1 : Int32)), .unset] [(.int r_86)]) t → Steps p.tables e below s0 t := fun t kk_ => P85 t (st86 _ kk_)
            have res_86 := po86_0
            rcases res_86 with hcase | hcase
            ·
              obtain ⟨rfl, hm161⟩ := hcase
              have P88 : ∀ t, GG p e below T86 (mkF m 172 #[.val (.int pa), .val (.int pb), .val (.int pc_), .val (.int pd_), .val (.int pe), .val (.ref b2), .val (.ref b24), .val (.int (0 : Int32)), .val (.int (1 : Int32)), .val (.int (3 : Int32)), .val (.int (3 : Int32)), .unset] [(.int (0 : Int32)), (.ref b24)]) t → Steps p.tables e below s0 t := fun t kk_ => P87 t (by
                refine XS.ifNo X86.here hx rfl (hb hby at_161) rfl ((if0 _ _).trans (feq ((by decide) : ¬ ((1 : Int32) = (0 : Int32)))).1) ?_
                refine XS.iload X86.here hx rfl (hb hby at_164) rfl ?_
                refine XS.istore X86.here hx rfl (hb hby at_166) rfl (l' := #[.val (.int pa), .val (.int pb), .val (.int pc_), .val (.int pd_), .val (.int pe), .val (.ref b2), .val (.ref b24), .val (.int (0 : Int32)), .val (.int (1 : Int32)), .val (.int (3 : Int32)), .val (.int (3 : Int32)), .unset]) rfl ?_
                refine XS.aload X86.here hx rfl (hb hby at_168) rfl rfl ?_
                refine XS.iload X86.here hx rfl (hb hby at_170) rfl ?_
                exact kk_)
              obtain ⟨_, _, ⟨T89, L89, k89, n89⟩, -, X89, ⟨Lc89, hQ89, l89, y89, z89⟩, st89⟩ := Jvm.LawKit.callS X86 hx (y := mn_25) hown (mw hZ hw 60 rfl) (mw hZ hw 61 rfl) (mw hZ hw 62 rfl) (mw hZ hw 63 rfl) (by decide) (backOf (W := 0) (rm_clo0 l Z a0 hw [] b24 t_27 kb_27 cd_27 nB_27 vs_27 r_5 r_10 r_15 r_20 G1 G3 T27.heap n0 (Nat.le_trans Z0 K27.1) E_b24 F_value_b24 F_coder_b24 V_t_27 S_COMPACT_STRINGS S__assertionsDisabled S_HI_BYTE_SHIFT S_LO_BYTE_SHIFT S_SIOOBE_FORMATTER OL hz rG3 s4_27 ir_5 ir_10 ir_15 ir_20) hZ (ww hw 63 rfl) (ww hw 62 rfl) (by decide) (by decide)) (g := (mkF m 172 #[.val (.int pa), .val (.int pb), .val (.int pc_), .val (.int pd_), .val (.int pe), .val (.ref b2), .val (.ref b24), .val (.int (0 : Int32)), .val (.int (1 : Int32)), .val (.int (3 : Int32)), .val (.int (3 : Int32)), .unset] [(.int (0 : Int32)), (.ref b24)])) rfl (by rw [hml]; rfl) (argsL := [(.ref b24), (.int (0 : Int32))]) (rest := []) (lenOf pd_18 rfl) rfl (by show 2 * 0 + _ ≤ _; exact Nat.le_of_eq rfl) (hb hby at_172) (fun _ _ => ⟨rfl, e86, (by decide : 4 + 0 ≤ _), (by decide : 20 + 0 ≤ _)⟩)
              dsimp only [Pt.U, Pt.locs, Pt.cells, Pt.slots] at X89 l89 y89 z89 st89 hQ89
              subst l89 y89 z89
              obtain ⟨r_89, rfl, N89q, e89, po89_0⟩ := hQ89
              have N89 := Fr.app N86 N89q
              have P90 : ∀ t, GG p e below T89 (mkF m 175 #[.val (.int pa), .val (.int pb), .val (.int pc_), .val (.int pd_), .val (.int pe), .val (.ref b2), .val (.ref b24), .val (.int (0 : Int32)), .val (.int (1 : Int32)), .val (.int (3 : Int32)), .val (.int (3 : Int32)), .unset] [(.int r_89)]) t → Steps p.tables e below s0 t := fun t kk_ => P88 t (st89 _ kk_)
              have res_89 := po89_0
              have P91 : ∀ t, GG p e below T89 (mkF m 189 #[.val (.int pa), .val (.int pb), .val (.int pc_), .val (.int pd_), .val (.int pe), .val (.ref b2), .val (.ref b24), .val (.int (0 : Int32)), .val (.int (1 : Int32)), .val (.int (3 : Int32)), .val (.int (3 : Int32)), .val (.int r_89)] [(.int (1 : Int32))]) t → Steps p.tables e below s0 t := fun t kk_ => P90 t (by
                refine XS.istore X89.here hx rfl (hb hby at_175) rfl (l' := #[.val (.int pa), .val (.int pb), .val (.int pc_), .val (.int pd_), .val (.int pe), .val (.ref b2), .val (.ref b24), .val (.int (0 : Int32)), .val (.int (1 : Int32)), .val (.int (3 : Int32)), .val (.int (3 : Int32)), .val (.int r_89)]) rfl ?_
                refine XS.iload X89.here hx rfl (hb hby at_177) rfl ?_
                refine XS.iload X89.here hx rfl (hb hby at_179) rfl ?_
                refine XS.icmpNo X89.here hx rfl (hb hby at_181) rfl (teq ((by rw [res_89]; simp [clo, hc61_35, hm89, hm113, hm137, hm161]) : r_89 = (3 : Int32))).2 ?_
                refine XS.iconst X89.here hx rfl (hb hby at_184) ?_
                refine XS.goto X89.here hx rfl (pc0 := 185) (pc' := 189) rfl (hb hby at_185) (by decide) (by decide) ?_
                exact kk_)
              subst hs0
              obtain ⟨fs, hr, hrun, hended, hW, hsame⟩ := X89.leave (v := some (.int (nar .boolean (1 : Int32)))) (fun h => by rw [Bd.returns] at h; cases h)
              refine ⟨_, _, P91 _ ?_, hrun, hended, _, _, rfl, ?_, ⟨_, rfl⟩, hW, hsame.mono (by decide) (by decide)⟩
              · show GG p e below T89 (mkF m 189 #[.val (.int pa), .val (.int pb), .val (.int pc_), .val (.int pd_), .val (.int pe), .val (.ref b2), .val (.ref b24), .val (.int (0 : Int32)), .val (.int (1 : Int32)), .val (.int (3 : Int32)), .val (.int (3 : Int32)), .val (.int r_89)] [(.int (1 : Int32))]) _
                exact retN X89 hx (t := .boolean) Bd.returns (by simp) (hb hby at_189) hr
              · show Q_law Z pa pb pc_ pd_ pe G1 G3 h0 n0 _ T89.heap _
                rw [e89]
                exact ⟨rfl, N89, K27⟩
            ·
              obtain ⟨rfl, hm161⟩ := hcase
              have P92 : ∀ t, GG p e below T86 (mkF m 172 #[.val (.int pa), .val (.int pb), .val (.int pc_), .val (.int pd_), .val (.int pe), .val (.ref b2), .val (.ref b24), .val (.int (0 : Int32)), .val (.int (1 : Int32)), .val (.int (3 : Int32)), .val (.int (-1 : Int32)), .unset] [(.int (0 : Int32)), (.ref b24)]) t → Steps p.tables e below s0 t := fun t kk_ => P87 t (by
                refine XS.ifYes X86.here hx rfl (pc0 := 161) (pc' := 168) rfl (hb hby at_161) rfl ((if0 _ _).trans (teq ((by decide) : (0 : Int32) = (0 : Int32))).1) (by decide) (by decide) ?_
                refine XS.aload X86.here hx rfl (hb hby at_168) rfl rfl ?_
                refine XS.iload X86.here hx rfl (hb hby at_170) rfl ?_
                exact kk_)
              obtain ⟨_, _, ⟨T93, L93, k93, n93⟩, -, X93, ⟨Lc93, hQ93, l93, y93, z93⟩, st93⟩ := Jvm.LawKit.callS X86 hx (y := mn_25) hown (mw hZ hw 60 rfl) (mw hZ hw 61 rfl) (mw hZ hw 62 rfl) (mw hZ hw 63 rfl) (by decide) (backOf (W := 0) (rm_clo0 l Z a0 hw [] b24 t_27 kb_27 cd_27 nB_27 vs_27 r_5 r_10 r_15 r_20 G1 G3 T27.heap n0 (Nat.le_trans Z0 K27.1) E_b24 F_value_b24 F_coder_b24 V_t_27 S_COMPACT_STRINGS S__assertionsDisabled S_HI_BYTE_SHIFT S_LO_BYTE_SHIFT S_SIOOBE_FORMATTER OL hz rG3 s4_27 ir_5 ir_10 ir_15 ir_20) hZ (ww hw 63 rfl) (ww hw 62 rfl) (by decide) (by decide)) (g := (mkF m 172 #[.val (.int pa), .val (.int pb), .val (.int pc_), .val (.int pd_), .val (.int pe), .val (.ref b2), .val (.ref b24), .val (.int (0 : Int32)), .val (.int (1 : Int32)), .val (.int (3 : Int32)), .val (.int (-1 : Int32)), .unset] [(.int (0 : Int32)), (.ref b24)])) rfl (by rw [hml]; rfl) (argsL := [(.ref b24), (.int (0 : Int32))]) (rest := []) (lenOf pd_18 rfl) rfl (by show 2 * 0 + _ ≤ _; exact Nat.le_of_eq rfl) (hb hby at_172) (fun _ _ => ⟨rfl, e86, (by decide : 4 + 0 ≤ _), (by decide : 20 + 0 ≤ _)⟩)
              dsimp only [Pt.U, Pt.locs, Pt.cells, Pt.slots] at X93 l93 y93 z93 st93 hQ93
              subst l93 y93 z93
              obtain ⟨r_93, rfl, N93q, e93, po93_0⟩ := hQ93
              have N93 := Fr.app N86 N93q
              have P94 : ∀ t, GG p e below T93 (mkF m 175 #[.val (.int pa), .val (.int pb), .val (.int pc_), .val (.int pd_), .val (.int pe), .val (.ref b2), .val (.ref b24), .val (.int (0 : Int32)), .val (.int (1 : Int32)), .val (.int (3 : Int32)), .val (.int (-1 : Int32)), .unset] [(.int r_93)]) t → Steps p.tables e below s0 t := fun t kk_ => P92 t (st93 _ kk_)
              have res_93 := po93_0
              have P95 : ∀ t, GG p e below T93 (mkF m 189 #[.val (.int pa), .val (.int pb), .val (.int pc_), .val (.int pd_), .val (.int pe), .val (.ref b2), .val (.ref b24), .val (.int (0 : Int32)), .val (.int (1 : Int32)), .val (.int (3 : Int32)), .val (.int (-1 : Int32)), .val (.int r_93)] [(.int (1 : Int32))]) t → Steps p.tables e below s0 t := fun t kk_ => P94 t (by
                refine XS.istore X93.here hx rfl (hb hby at_175) rfl (l' := #[.val (.int pa), .val (.int pb), .val (.int pc_), .val (.int pd_), .val (.int pe), .val (.ref b2), .val (.ref b24), .val (.int (0 : Int32)), .val (.int (1 : Int32)), .val (.int (3 : Int32)), .val (.int (-1 : Int32)), .val (.int r_93)]) rfl ?_
                refine XS.iload X93.here hx rfl (hb hby at_177) rfl ?_
                refine XS.iload X93.here hx rfl (hb hby at_179) rfl ?_
                refine XS.icmpNo X93.here hx rfl (hb hby at_181) rfl (teq ((absurd hm137 hm161) : r_93 = (-1 : Int32))).2 ?_
                refine XS.iconst X93.here hx rfl (hb hby at_184) ?_
                refine XS.goto X93.here hx rfl (pc0 := 185) (pc' := 189) rfl (hb hby at_185) (by decide) (by decide) ?_
                exact kk_)
              subst hs0
              obtain ⟨fs, hr, hrun, hended, hW, hsame⟩ := X93.leave (v := some (.int (nar .boolean (1 : Int32)))) (fun h => by rw [Bd.returns] at h; cases h)
              refine ⟨_, _, P95 _ ?_, hrun, hended, _, _, rfl, ?_, ⟨_, rfl⟩, hW, hsame.mono (by decide) (by decide)⟩
              · show GG p e below T93 (mkF m 189 #[.val (.int pa), .val (.int pb), .val (.int pc_), .val (.int pd_), .val (.int pe), .val (.ref b2), .val (.ref b24), .val (.int (0 : Int32)), .val (.int (1 : Int32)), .val (.int (3 : Int32)), .val (.int (-1 : Int32)), .val (.int r_93)] [(.int (1 : Int32))]) _
                exact retN X93 hx (t := .boolean) Bd.returns (by simp) (hb hby at_189) hr
              · show Q_law Z pa pb pc_ pd_ pe G1 G3 h0 n0 _ T93.heap _
                rw [e93]
                exact ⟨rfl, N93, K27⟩
          ·
            obtain ⟨rfl, hm137⟩ := hcase
            have P96 : ∀ t, GG p e below T80 (mkF m 172 #[.val (.int pa), .val (.int pb), .val (.int pc_), .val (.int pd_), .val (.int pe), .val (.ref b2), .val (.ref b24), .val (.int (0 : Int32)), .val (.int (1 : Int32)), .val (.int (-1 : Int32)), .val (.int (-1 : Int32)), .unset] [(.int (0 : Int32)), (.ref b24)]) t → Steps p.tables e below s0 t := fun t kk_ => P81 t (by
              refine XS.ifYes X80.here hx rfl (pc0 := 137) (pc' := 143) rfl (hb hby at_137) rfl ((if0 _ _).trans (teq ((by decide) : (0 : Int32) = (0 : Int32))).1) (by decide) (by decide) ?_
              refine XS.iconst X80.here hx rfl (hb hby at_143) ?_
              refine XS.istore X80.here hx rfl (hb hby at_144) rfl (l' := #[.val (.int pa), .val (.int pb), .val (.int pc_), .val (.int pd_), .val (.int pe), .val (.ref b2), .val (.ref b24), .val (.int (0 : Int32)), .val (.int (1 : Int32)), .val (.int (-1 : Int32)), .val (.int (-1 : Int32)), .unset]) rfl ?_
              refine XS.iload X80.here hx rfl (hb hby at_146) rfl ?_
              refine XS.ifYes X80.here hx rfl (pc0 := 148) (pc' := 168) rfl (hb hby at_148) rfl ((if0 _ _).trans (tlt ((by decide) : (-1 : Int32) < (0 : Int32))).1) (by decide) (by decide) ?_
              refine XS.aload X80.here hx rfl (hb hby at_168) rfl rfl ?_
              refine XS.iload X80.here hx rfl (hb hby at_170) rfl ?_
              exact kk_)
            obtain ⟨_, _, ⟨T97, L97, k97, n97⟩, -, X97, ⟨Lc97, hQ97, l97, y97, z97⟩, st97⟩ := Jvm.LawKit.callS X80 hx (y := mn_25) hown (mw hZ hw 60 rfl) (mw hZ hw 61 rfl) (mw hZ hw 62 rfl) (mw hZ hw 63 rfl) (by decide) (backOf (W := 0) (rm_clo0 l Z a0 hw [] b24 t_27 kb_27 cd_27 nB_27 vs_27 r_5 r_10 r_15 r_20 G1 G3 T27.heap n0 (Nat.le_trans Z0 K27.1) E_b24 F_value_b24 F_coder_b24 V_t_27 S_COMPACT_STRINGS S__assertionsDisabled S_HI_BYTE_SHIFT S_LO_BYTE_SHIFT S_SIOOBE_FORMATTER OL hz rG3 s4_27 ir_5 ir_10 ir_15 ir_20) hZ (ww hw 63 rfl) (ww hw 62 rfl) (by decide) (by decide)) (g := (mkF m 172 #[.val (.int pa), .val (.int pb), .val (.int pc_), .val (.int pd_), .val (.int pe), .val (.ref b2), .val (.ref b24), .val (.int (0 : Int32)), .val (.int (1 : Int32)), .val (.int (-1 : Int32)), .val (.int (-1 : Int32)), .unset] [(.int (0 : Int32)), (.ref b24)])) rfl (by rw [hml]; rfl) (argsL := [(.ref b24), (.int (0 : Int32))]) (rest := []) (lenOf pd_18 rfl) rfl (by show 2 * 0 + _ ≤ _; exact Nat.le_of_eq rfl) (hb hby at_172) (fun _ _ => ⟨rfl, e80, (by decide : 4 + 0 ≤ _), (by decide : 20 + 0 ≤ _)⟩)
            dsimp only [Pt.U, Pt.locs, Pt.cells, Pt.slots] at X97 l97 y97 z97 st97 hQ97
            subst l97 y97 z97
            obtain ⟨r_97, rfl, N97q, e97, po97_0⟩ := hQ97
            have N97 := Fr.app N80 N97q
            have P98 : ∀ t, GG p e below T97 (mkF m 175 #[.val (.int pa), .val (.int pb), .val (.int pc_), .val (.int pd_), .val (.int pe), .val (.ref b2), .val (.ref b24), .val (.int (0 : Int32)), .val (.int (1 : Int32)), .val (.int (-1 : Int32)), .val (.int (-1 : Int32)), .unset] [(.int r_97)]) t → Steps p.tables e below s0 t := fun t kk_ => P96 t (st97 _ kk_)
            have res_97 := po97_0
            have P99 : ∀ t, GG p e below T97 (mkF m 189 #[.val (.int pa), .val (.int pb), .val (.int pc_), .val (.int pd_), .val (.int pe), .val (.ref b2), .val (.ref b24), .val (.int (0 : Int32)), .val (.int (1 : Int32)), .val (.int (-1 : Int32)), .val (.int (-1 : Int32)), .val (.int r_97)] [(.int (1 : Int32))]) t → Steps p.tables e below s0 t := fun t kk_ => P98 t (by
              refine XS.istore X97.here hx rfl (hb hby at_175) rfl (l' := #[.val (.int pa), .val (.int pb), .val (.int pc_), .val (.int pd_), .val (.int pe), .val (.ref b2), .val (.ref b24), .val (.int (0 : Int32)), .val (.int (1 : Int32)), .val (.int (-1 : Int32)), .val (.int (-1 : Int32)), .val (.int r_97)]) rfl ?_
              refine XS.iload X97.here hx rfl (hb hby at_177) rfl ?_
              refine XS.iload X97.here hx rfl (hb hby at_179) rfl ?_
              refine XS.icmpNo X97.here hx rfl (hb hby at_181) rfl (teq ((by rw [res_97]; simp [clo, hc61_35, hm89, hm113, hm137]) : r_97 = (-1 : Int32))).2 ?_
              refine XS.iconst X97.here hx rfl (hb hby at_184) ?_
              refine XS.goto X97.here hx rfl (pc0 := 185) (pc' := 189) rfl (hb hby at_185) (by decide) (by decide) ?_
              exact kk_)
            subst hs0
            obtain ⟨fs, hr, hrun, hended, hW, hsame⟩ := X97.leave (v := some (.int (nar .boolean (1 : Int32)))) (fun h => by rw [Bd.returns] at h; cases h)
            refine ⟨_, _, P99 _ ?_, hrun, hended, _, _, rfl, ?_, ⟨_, rfl⟩, hW, hsame.mono (by decide) (by decide)⟩
            · show GG p e below T97 (mkF m 189 #[.val (.int pa), .val (.int pb), .val (.int pc_), .val (.int pd_), .val (.int pe), .val (.ref b2), .val (.ref b24), .val (.int (0 : Int32)), .val (.int (1 : Int32)), .val (.int (-1 : Int32)), .val (.int (-1 : Int32)), .val (.int r_97)] [(.int (1 : Int32))]) _
              exact retN X97 hx (t := .boolean) Bd.returns (by simp) (hb hby at_189) hr
            · show Q_law Z pa pb pc_ pd_ pe G1 G3 h0 n0 _ T97.heap _
              rw [e97]
              exact ⟨rfl, N97, K27⟩
    ·
      have P100 : ∀ t, GG p e below T27 (mkF m 83 #[.val (.int pa), .val (.int pb), .val (.int pc_), .val (.int pd_), .val (.int pe), .val (.ref b2), .val (.ref b24), .val (.int (0 : Int32)), .val (.int (0 : Int32)), .val (.int (-1 : Int32)), .unset, .unset] [(.int (1 : Int32)), (.ref b2)]) t → Steps p.tables e below s0 t := fun t kk_ => P34 t (by
        refine XS.icmpYes X27.here hx rfl (pc0 := 61) (pc' := 68) rfl (hb hby at_61) rfl (feq (hc61_35 : ¬ (r_5 = (34 : Int32)))).2 (by decide) (by decide) ?_
        refine XS.iconst X27.here hx rfl (hb hby at_68) ?_
        refine XS.istore X27.here hx rfl (hb hby at_69) rfl (l' := #[.val (.int pa), .val (.int pb), .val (.int pc_), .val (.int pd_), .val (.int pe), .val (.ref b2), .val (.ref b24), .val (.int (0 : Int32)), .val (.int (0 : Int32)), .unset, .unset, .unset]) rfl ?_
        refine XS.iconst X27.here hx rfl (hb hby at_71) ?_
        refine XS.istore X27.here hx rfl (hb hby at_72) rfl (l' := #[.val (.int pa), .val (.int pb), .val (.int pc_), .val (.int pd_), .val (.int pe), .val (.ref b2), .val (.ref b24), .val (.int (0 : Int32)), .val (.int (0 : Int32)), .val (.int (-1 : Int32)), .unset, .unset]) rfl ?_
        refine XS.iload X27.here hx rfl (hb hby at_74) rfl ?_
        refine XS.iconst X27.here hx rfl (hb hby at_76) ?_
        refine XS.icmpNo X27.here hx rfl (hb hby at_77) rfl (tlt ((by decide) : (0 : Int32) < (1 : Int32))).2.1 ?_
        refine XS.aload X27.here hx rfl (hb hby at_80) rfl rfl ?_
        refine XS.iconst X27.here hx rfl (hb hby at_82) ?_
        exact kk_)
      obtain ⟨cl101, Ar101, q101, S101, M101, Hs101, G101⟩ := id V_b2
      have hin101 := inb_of (j := (1 : Int32)) S101 ⟨by decide, by decide⟩
      have hat101 : cl101.slots[((1 : Int32)).toNatClampNeg]? = some (.int r_10) := Has.at Hs101 hin101 (rfl)
      have P102 : ∀ t, GG p e below T27 (mkF m 84 #[.val (.int pa), .val (.int pb), .val (.int pc_), .val (.int pd_), .val (.int pe), .val (.ref b2), .val (.ref b24), .val (.int (0 : Int32)), .val (.int (0 : Int32)), .val (.int (-1 : Int32)), .unset, .unset] [(.int r_10)]) t → Steps p.tables e below s0 t := fun t kk_ => P100 t (by
        refine X27.caload hx (j := (1 : Int32)) (v := (.int r_10)) (Ar101.1) (State.isArrayOf_alike hZ.alike Ar101.2.1) Ar101.2.2 hin101 hat101 (g := (mkF m 83 #[.val (.int pa), .val (.int pb), .val (.int pc_), .val (.int pd_), .val (.int pe), .val (.ref b2), .val (.ref b24), .val (.int (0 : Int32)), .val (.int (0 : Int32)), .val (.int (-1 : Int32)), .unset, .unset] [(.int (1 : Int32)), (.ref b2)])) rfl rfl (hb hby at_83) _ ?_
        exact kk_)
      have P103 : ∀ t, GG p e below T27 (mkF m 86 #[.val (.int pa), .val (.int pb), .val (.int pc_), .val (.int pd_), .val (.int pe), .val (.ref b2), .val (.ref b24), .val (.int (0 : Int32)), .val (.int (0 : Int32)), .val (.int (-1 : Int32)), .unset, .unset] [(.int (0 : Int32)), (.int r_10)]) t → Steps p.tables e below s0 t := fun t kk_ => P102 t (by
        refine XS.iload X27.here hx rfl (hb hby at_84) rfl ?_
        exact kk_)
      obtain ⟨_, _, ⟨T104, L104, k104, n104⟩, -, X104, ⟨Lc104, hQ104, l104, y104, z104⟩, st104⟩ := Jvm.LawKit.callS X27 hx (y := mn_24) hown (mw hZ hw 54 rfl) (mw hZ hw 55 rfl) (mw hZ hw 3 rfl) (mw hZ hw 56 rfl) (by decide) (backOf (W := 0) (rm_stp0 l Z a0 hw [] r_10 T27.heap n0 (Nat.le_trans Z0 K27.1)) hZ (ww hw 56 rfl) (ww hw 3 rfl) (by decide) (by decide)) (g := (mkF m 86 #[.val (.int pa), .val (.int pb), .val (.int pc_), .val (.int pd_), .val (.int pe), .val (.ref b2), .val (.ref b24), .val (.int (0 : Int32)), .val (.int (0 : Int32)), .val (.int (-1 : Int32)), .unset, .unset] [(.int (0 : Int32)), (.int r_10)])) rfl (by rw [hml]; rfl) (argsL := [(.int r_10), (.int (0 : Int32))]) (rest := []) (lenOf pd_14 rfl) rfl (by show 2 * 0 + _ ≤ _; exact Nat.le_of_eq rfl) (hb hby at_86) (fun _ _ => ⟨rfl, rfl, (by decide : 4 + 0 ≤ _), (by decide : 20 + 0 ≤ _)⟩)
      dsimp only [Pt.U, Pt.locs, Pt.cells, Pt.slots] at X104 l104 y104 z104 st104 hQ104
      subst l104 y104 z104
      obtain ⟨r_104, rfl, N104q, e104, po104_0⟩ := hQ104
      have N104 := Fr.app N27 N104q
      have P105 : ∀ t, GG p e below T104 (mkF m 89 #[.val (.int pa), .val (.int pb), .val (.int pc_), .val (.int pd_), .val (.int pe), .val (.ref b2), .val (.ref b24), .val (.int (0 : Int32)), .val (.int (0 : Int32)), .val (.int (-1 : Int32)), .unset, .unset] [(.int r_104)]) t → Steps p.tables e below s0 t := fun t kk_ => P103 t (st104 _ kk_)
      have res_104 := po104_0
      rcases res_104 with hcase | hcase
      ·
        obtain ⟨rfl, hm89⟩ := hcase
        have P106 : ∀ t, GG p e below T104 (mkF m 155 #[.val (.int pa), .val (.int pb), .val (.int pc_), .val (.int pd_), .val (.int pe), .val (.ref b2), .val (.ref b24), .val (.int (0 : Int32)), .val (.int (0 : Int32)), .val (.int (1 : Int32)), .val (.int (-1 : Int32)), .unset] [(.int (1 : Int32)), (.ref b2)]) t → Steps p.tables e below s0 t := fun t kk_ => P105 t (by
          refine XS.ifNo X104.here hx rfl (hb hby at_89) rfl ((if0 _ _).trans (feq ((by decide) : ¬ ((1 : Int32) = (0 : Int32)))).1) ?_
          refine XS.iconst X104.here hx rfl (hb hby at_92) ?_
          refine XS.istore X104.here hx rfl (hb hby at_93) rfl (l' := #[.val (.int pa), .val (.int pb), .val (.int pc_), .val (.int pd_), .val (.int pe), .val (.ref b2), .val (.ref b24), .val (.int (0 : Int32)), .val (.int (0 : Int32)), .val (.int (1 : Int32)), .unset, .unset]) rfl ?_
          refine XS.goto X104.here hx rfl (pc0 := 95) (pc' := 143) rfl (hb hby at_95) (by decide) (by decide) ?_
          refine XS.iconst X104.here hx rfl (hb hby at_143) ?_
          refine XS.istore X104.here hx rfl (hb hby at_144) rfl (l' := #[.val (.int pa), .val (.int pb), .val (.int pc_), .val (.int pd_), .val (.int pe), .val (.ref b2), .val (.ref b24), .val (.int (0 : Int32)), .val (.int (0 : Int32)), .val (.int (1 : Int32)), .val (.int (-1 : Int32)), .unset]) rfl ?_
          refine XS.iload X104.here hx rfl (hb hby at_146) rfl ?_
          refine XS.ifNo X104.here hx rfl (hb hby at_148) rfl ((if0 _ _).trans (flt ((by decide) : ¬ ((1 : Int32) < (0 : Int32)))).1) ?_
          refine XS.aload X104.here hx rfl (hb hby at_151) rfl rfl ?_
          refine XS.iload X104.here hx rfl (hb hby at_153) rfl ?_
          exact kk_)
        obtain ⟨cl107, Ar107, q107, S107, M107, Hs107, G107⟩ := id V_b2
        have hin107 := inb_of (j := (1 : Int32)) S107 ⟨by decide, by decide⟩
        have hat107 : cl107.slots[((1 : Int32)).toNatClampNeg]? = some (.int r_10) := Has.at Hs107 hin107 (rfl)
        have P108 : ∀ t, GG p e below T104 (mkF m 156 #[.val (.int pa), .val (.int pb), .val (.int pc_), .val (.int pd_), .val (.int pe), .val (.ref b2), .val (.ref b24), .val (.int (0 : Int32)), .val (.int (0 : Int32)), .val (.int (1 : Int32)), .val (.int (-1 : Int32)), .unset] [(.int r_10)]) t → Steps p.tables e below s0 t := fun t kk_ => P106 t (by
          refine X104.caload hx (j := (1 : Int32)) (v := (.int r_10)) (by rw [e104]; exact Ar107.1) (State.isArrayOf_alike hZ.alike Ar107.2.1) Ar107.2.2 hin107 hat107 (g := (mkF m 155 #[.val (.int pa), .val (.int pb), .val (.int pc_), .val (.int pd_), .val (.int pe), .val (.ref b2), .val (.ref b24), .val (.int (0 : Int32)), .val (.int (0 : Int32)), .val (.int (1 : Int32)), .val (.int (-1 : Int32)), .unset] [(.int (1 : Int32)), (.ref b2)])) rfl rfl (hb hby at_155) _ ?_
          exact kk_)
        have P109 : ∀ t, GG p e below T104 (mkF m 158 #[.val (.int pa), .val (.int pb), .val (.int pc_), .val (.int pd_), .val (.int pe), .val (.ref b2), .val (.ref b24), .val (.int (0 : Int32)), .val (.int (0 : Int32)), .val (.int (1 : Int32)), .val (.int (-1 : Int32)), .unset] [(.int (0 : Int32)), (.int r_10)]) t → Steps p.tables e below s0 t := fun t kk_ => P108 t (by
          refine XS.iload X104.here hx rfl (hb hby at_156) rfl ?_
          exact kk_)
        obtain ⟨_, _, ⟨T110, L110, k110, n110⟩, -, X110, ⟨Lc110, hQ110, l110, y110, z110⟩, st110⟩ := Jvm.LawKit.callS X104 hx (y := mn_17) hown (mw hZ hw 57 rfl) (mw hZ hw 58 rfl) (mw hZ hw 3 rfl) (mw hZ hw 59 rfl) (by decide) (backOf (W := 0) (rm_mat0 l Z a0 hw [] r_10 T27.heap n0 (Nat.le_trans Z0 K27.1)) hZ (ww hw 59 rfl) (ww hw 3 rfl) (by decide) (by decide)) (g := (mkF m 158 #[.val (.int pa), .val (.int pb), .val (.int pc_), .val (.int pd_), .val (.int pe), .val (.ref b2), .val (.ref b24), .val (.int (0 : Int32)), .val (.int (0 : Int32)), .val (.int (1 : Int32)), .val (.int (-1 : Int32)), .unset] [(.int (0 : Int32)), (.int r_10)])) rfl (by rw [hml]; rfl) (argsL := [(.int r_10), (.int (0 : Int32))]) (rest := []) (lenOf pd_14 rfl) rfl (by show 2 * 0 + _ ≤ _; exact Nat.le_of_eq rfl) (hb hby at_158) (fun _ _ => ⟨rfl, e104, (by decide : 4 + 0 ≤ _), (by decide : 20 + 0 ≤ _)⟩)
        dsimp only [Pt.U, Pt.locs, Pt.cells, Pt.slots] at X110 l110 y110 z110 st110 hQ110
        subst l110 y110 z110
        obtain ⟨r_110, rfl, N110q, e110, po110_0⟩ := hQ110
        have N110 := Fr.app N104 N110q
        have P111 : ∀ t, GG p e below T110 (mkF m 161 #[.val (.int pa), .val (.int pb), .val (.int pc_), .val (.int pd_), .val (.int pe), .val (.ref b2), .val (.ref b24), .val (.int (0 : Int32)), .val (.int (0 : Int32)), .val (.int (1 : Int32)), .val (.int (-1 : Int32)), .unset] [(.int r_110)]) t → Steps p.tables e below s0 t := fun t kk_ => P109 t (st110 _ kk_)
        have res_110 := po110_0
        rcases res_110 with hcase | hcase
        ·
          obtain ⟨rfl, hm161⟩ := hcase
          have P112 : ∀ t, GG p e below T110 (mkF m 172 #[.val (.int pa), .val (.int pb), .val (.int pc_), .val (.int pd_), .val (.int pe), .val (.ref b2), .val (.ref b24), .val (.int (0 : Int32)), .val (.int (0 : Int32)), .val (.int (1 : Int32)), .val (.int (1 : Int32)), .unset] [(.int (0 : Int32)), (.ref b24)]) t → Steps p.tables e below s0 t := fun t kk_ => P111 t (by
            refine XS.ifNo X110.here hx rfl (hb hby at_161) rfl ((if0 _ _).trans (feq ((by decide) : ¬ ((1 : Int32) = (0 : Int32)))).1) ?_
            refine XS.iload X110.here hx rfl (hb hby at_164) rfl ?_
            refine XS.istore X110.here hx rfl (hb hby at_166) rfl (l' := #[.val (.int pa), .val (.int pb), .val (.int pc_), .val (.int pd_), .val (.int pe), .val (.ref b2), .val (.ref b24), .val (.int (0 : Int32)), .val (.int (0 : Int32)), .val (.int (1 : Int32)), .val (.int (1 : Int32)), .unset]) rfl ?_
            refine XS.aload X110.here hx rfl (hb hby at_168) rfl rfl ?_
            refine XS.iload X110.here hx rfl (hb hby at_170) rfl ?_
            exact kk_)
          obtain ⟨_, _, ⟨T113, L113, k113, n113⟩, -, X113, ⟨Lc113, hQ113, l113, y113, z113⟩, st113⟩ := Jvm.LawKit.callS X110 hx (y := mn_25) hown (mw hZ hw 60 rfl) (mw hZ hw 61 rfl) (mw hZ hw 62 rfl) (mw hZ hw 63 rfl) (by decide) (backOf (W := 0) (rm_clo0 l Z a0 hw [] b24 t_27 kb_27 cd_27 nB_27 vs_27 r_5 r_10 r_15 r_20 G1 G3 T27.heap n0 (Nat.le_trans Z0 K27.1) E_b24 F_value_b24 F_coder_b24 V_t_27 S_COMPACT_STRINGS S__assertionsDisabled S_HI_BYTE_SHIFT S_LO_BYTE_SHIFT S_SIOOBE_FORMATTER OL hz rG3 s4_27 ir_5 ir_10 ir_15 ir_20) hZ (ww hw 63 rfl) (ww hw 62 rfl) (by decide) (by decide)) (g := (mkF m 172 #[.val (.int pa), .val (.int pb), .val (.int pc_), .val (.int pd_), .val (.int pe), .val (.ref b2), .val (.ref b24), .val (.int (0 : Int32)), .val (.int (0 : Int32)), .val (.int (1 : Int32)), .val (.int (1 : Int32)), .unset] [(.int (0 : Int32)), (.ref b24)])) rfl (by rw [hml]; rfl) (argsL := [(.ref b24), (.int (0 : Int32))]) (rest := []) (lenOf pd_18 rfl) rfl (by show 2 * 0 + _ ≤ _; exact Nat.le_of_eq rfl) (hb hby at_172) (fun _ _ => ⟨rfl, e110, (by decide : 4 + 0 ≤ _), (by decide : 20 + 0 ≤ _)⟩)
          dsimp only [Pt.U, Pt.locs, Pt.cells, Pt.slots] at X113 l113 y113 z113 st113 hQ113
          subst l113 y113 z113
          obtain ⟨r_113, rfl, N113q, e113, po113_0⟩ := hQ113
          have N113 := Fr.app N110 N113q
          have P114 : ∀ t, GG p e below T113 (mkF m 175 #[.val (.int pa), .val (.int pb), .val (.int pc_), .val (.int pd_), .val (.int pe), .val (.ref b2), .val (.ref b24), .val (.int (0 : Int32)), .val (.int (0 : Int32)), .val (.int (1 : Int32)), .val (.int (1 : Int32)), .unset] [(.int r_113)]) t → Steps p.tables e below s0 t := fun t kk_ => P112 t (st113 _ kk_)
          have res_113 := po113_0
          have P115 : ∀ t, GG p e below T113 (mkF m 189 #[.val (.int pa), .val (.int pb), .val (.int pc_), .val (.int pd_), .val (.int pe), .val (.ref b2), .val (.ref b24), .val (.int (0 : Int32)), .val (.int (0 : Int32)), .val (.int (1 : Int32)), .val (.int (1 : Int32)), .val (.int r_113)] [(.int (1 : Int32))]) t → Steps p.tables e below s0 t := fun t kk_ => P114 t (by
            refine XS.istore X113.here hx rfl (hb hby at_175) rfl (l' := #[.val (.int pa), .val (.int pb), .val (.int pc_), .val (.int pd_), .val (.int pe), .val (.ref b2), .val (.ref b24), .val (.int (0 : Int32)), .val (.int (0 : Int32)), .val (.int (1 : Int32)), .val (.int (1 : Int32)), .val (.int r_113)]) rfl ?_
            refine XS.iload X113.here hx rfl (hb hby at_177) rfl ?_
            refine XS.iload X113.here hx rfl (hb hby at_179) rfl ?_
            refine XS.icmpNo X113.here hx rfl (hb hby at_181) rfl (teq ((by rw [res_113]; simp [clo, hc61_35, hm89, hm161]) : r_113 = (1 : Int32))).2 ?_
            refine XS.iconst X113.here hx rfl (hb hby at_184) ?_
            refine XS.goto X113.here hx rfl (pc0 := 185) (pc' := 189) rfl (hb hby at_185) (by decide) (by decide) ?_
            exact kk_)
          subst hs0
          obtain ⟨fs, hr, hrun, hended, hW, hsame⟩ := X113.leave (v := some (.int (nar .boolean (1 : Int32)))) (fun h => by rw [Bd.returns] at h; cases h)
          refine ⟨_, _, P115 _ ?_, hrun, hended, _, _, rfl, ?_, ⟨_, rfl⟩, hW, hsame.mono (by decide) (by decide)⟩
          · show GG p e below T113 (mkF m 189 #[.val (.int pa), .val (.int pb), .val (.int pc_), .val (.int pd_), .val (.int pe), .val (.ref b2), .val (.ref b24), .val (.int (0 : Int32)), .val (.int (0 : Int32)), .val (.int (1 : Int32)), .val (.int (1 : Int32)), .val (.int r_113)] [(.int (1 : Int32))]) _
            exact retN X113 hx (t := .boolean) Bd.returns (by simp) (hb hby at_189) hr
          · show Q_law Z pa pb pc_ pd_ pe G1 G3 h0 n0 _ T113.heap _
            rw [e113]
            exact ⟨rfl, N113, K27⟩
        ·
          obtain ⟨rfl, hm161⟩ := hcase
          have P116 : ∀ t, GG p e below T110 (mkF m 172 #[.val (.int pa), .val (.int pb), .val (.int pc_), .val (.int pd_), .val (.int pe), .val (.ref b2), .val (.ref b24), .val (.int (0 : Int32)), .val (.int (0 : Int32)), .val (.int (1 : Int32)), .val (.int (-1 : Int32)), .unset] [(.int (0 : Int32)), (.ref b24)]) t → Steps p.tables e below s0 t := fun t kk_ => P111 t (by
            refine XS.ifYes X110.here hx rfl (pc0 := 161) (pc' := 168) rfl (hb hby at_161) rfl ((if0 _ _).trans (teq ((by decide) : (0 : Int32) = (0 : Int32))).1) (by decide) (by decide) ?_
            refine XS.aload X110.here hx rfl (hb hby at_168) rfl rfl ?_
            refine XS.iload X110.here hx rfl (hb hby at_170) rfl ?_
            exact kk_)
          obtain ⟨_, _, ⟨T117, L117, k117, n117⟩, -, X117, ⟨Lc117, hQ117, l117, y117, z117⟩, st117⟩ := Jvm.LawKit.callS X110 hx (y := mn_25) hown (mw hZ hw 60 rfl) (mw hZ hw 61 rfl) (mw hZ hw 62 rfl) (mw hZ hw 63 rfl) (by decide) (backOf (W := 0) (rm_clo0 l Z a0 hw [] b24 t_27 kb_27 cd_27 nB_27 vs_27 r_5 r_10 r_15 r_20 G1 G3 T27.heap n0 (Nat.le_trans Z0 K27.1) E_b24 F_value_b24 F_coder_b24 V_t_27 S_COMPACT_STRINGS S__assertionsDisabled S_HI_BYTE_SHIFT S_LO_BYTE_SHIFT S_SIOOBE_FORMATTER OL hz rG3 s4_27 ir_5 ir_10 ir_15 ir_20) hZ (ww hw 63 rfl) (ww hw 62 rfl) (by decide) (by decide)) (g := (mkF m 172 #[.val (.int pa), .val (.int pb), .val (.int pc_), .val (.int pd_), .val (.int pe), .val (.ref b2), .val (.ref b24), .val (.int (0 : Int32)), .val (.int (0 : Int32)), .val (.int (1 : Int32)), .val (.int (-1 : Int32)), .unset] [(.int (0 : Int32)), (.ref b24)])) rfl (by rw [hml]; rfl) (argsL := [(.ref b24), (.int (0 : Int32))]) (rest := []) (lenOf pd_18 rfl) rfl (by show 2 * 0 + _ ≤ _; exact Nat.le_of_eq rfl) (hb hby at_172) (fun _ _ => ⟨rfl, e110, (by decide : 4 + 0 ≤ _), (by decide : 20 + 0 ≤ _)⟩)
          dsimp only [Pt.U, Pt.locs, Pt.cells, Pt.slots] at X117 l117 y117 z117 st117 hQ117
          subst l117 y117 z117
          obtain ⟨r_117, rfl, N117q, e117, po117_0⟩ := hQ117
          have N117 := Fr.app N110 N117q
          have P118 : ∀ t, GG p e below T117 (mkF m 175 #[.val (.int pa), .val (.int pb), .val (.int pc_), .val (.int pd_), .val (.int pe), .val (.ref b2), .val (.ref b24), .val (.int (0 : Int32)), .val (.int (0 : Int32)), .val (.int (1 : Int32)), .val (.int (-1 : Int32)), .unset] [(.int r_117)]) t → Steps p.tables e below s0 t := fun t kk_ => P116 t (st117 _ kk_)
          have res_117 := po117_0
          have P119 : ∀ t, GG p e below T117 (mkF m 189 #[.val (.int pa), .val (.int pb), .val (.int pc_), .val (.int pd_), .val (.int pe), .val (.ref b2), .val (.ref b24), .val (.int (0 : Int32)), .val (.int (0 : Int32)), .val (.int (1 : Int32)), .val (.int (-1 : Int32)), .val (.int r_117)] [(.int (1 : Int32))]) t → Steps p.tables e below s0 t := fun t kk_ => P118 t (by
            refine XS.istore X117.here hx rfl (hb hby at_175) rfl (l' := #[.val (.int pa), .val (.int pb), .val (.int pc_), .val (.int pd_), .val (.int pe), .val (.ref b2), .val (.ref b24), .val (.int (0 : Int32)), .val (.int (0 : Int32)), .val (.int (1 : Int32)), .val (.int (-1 : Int32)), .val (.int r_117)]) rfl ?_
            refine XS.iload X117.here hx rfl (hb hby at_177) rfl ?_
            refine XS.iload X117.here hx rfl (hb hby at_179) rfl ?_
            refine XS.icmpNo X117.here hx rfl (hb hby at_181) rfl (teq ((by rw [res_117]; simp [clo, hc61_35, hm89.resolve_left hm161, hm161]) : r_117 = (-1 : Int32))).2 ?_
            refine XS.iconst X117.here hx rfl (hb hby at_184) ?_
            refine XS.goto X117.here hx rfl (pc0 := 185) (pc' := 189) rfl (hb hby at_185) (by decide) (by decide) ?_
            exact kk_)
          subst hs0
          obtain ⟨fs, hr, hrun, hended, hW, hsame⟩ := X117.leave (v := some (.int (nar .boolean (1 : Int32)))) (fun h => by rw [Bd.returns] at h; cases h)
          refine ⟨_, _, P119 _ ?_, hrun, hended, _, _, rfl, ?_, ⟨_, rfl⟩, hW, hsame.mono (by decide) (by decide)⟩
          · show GG p e below T117 (mkF m 189 #[.val (.int pa), .val (.int pb), .val (.int pc_), .val (.int pd_), .val (.int pe), .val (.ref b2), .val (.ref b24), .val (.int (0 : Int32)), .val (.int (0 : Int32)), .val (.int (1 : Int32)), .val (.int (-1 : Int32)), .val (.int r_117)] [(.int (1 : Int32))]) _
            exact retN X117 hx (t := .boolean) Bd.returns (by simp) (hb hby at_189) hr
          · show Q_law Z pa pb pc_ pd_ pe G1 G3 h0 n0 _ T117.heap _
            rw [e117]
            exact ⟨rfl, N117, K27⟩
      ·
        obtain ⟨rfl, hm89⟩ := hcase
        have P120 : ∀ t, GG p e below T104 (mkF m 107 #[.val (.int pa), .val (.int pb), .val (.int pc_), .val (.int pd_), .val (.int pe), .val (.ref b2), .val (.ref b24), .val (.int (0 : Int32)), .val (.int (0 : Int32)), .val (.int (-1 : Int32)), .unset, .unset] [(.int (2 : Int32)), (.ref b2)]) t → Steps p.tables e below s0 t := fun t kk_ => P105 t (by
          refine XS.ifYes X104.here hx rfl (pc0 := 89) (pc' := 98) rfl (hb hby at_89) rfl ((if0 _ _).trans (teq ((by decide) : (0 : Int32) = (0 : Int32))).1) (by decide) (by decide) ?_
          refine XS.iload X104.here hx rfl (hb hby at_98) rfl ?_
          refine XS.iconst X104.here hx rfl (hb hby at_100) ?_
          refine XS.icmpNo X104.here hx rfl (hb hby at_101) rfl (tlt ((by decide) : (0 : Int32) < (2 : Int32))).2.1 ?_
          refine XS.aload X104.here hx rfl (hb hby at_104) rfl rfl ?_
          refine XS.iconst X104.here hx rfl (hb hby at_106) ?_
          exact kk_)
        obtain ⟨cl121, Ar121, q121, S121, M121, Hs121, G121⟩ := id V_b2
        have hin121 := inb_of (j := (2 : Int32)) S121 ⟨by decide, by decide⟩
        have hat121 : cl121.slots[((2 : Int32)).toNatClampNeg]? = some (.int r_15) := Has.at Hs121 hin121 (rfl)
        have P122 : ∀ t, GG p e below T104 (mkF m 108 #[.val (.int pa), .val (.int pb), .val (.int pc_), .val (.int pd_), .val (.int pe), .val (.ref b2), .val (.ref b24), .val (.int (0 : Int32)), .val (.int (0 : Int32)), .val (.int (-1 : Int32)), .unset, .unset] [(.int r_15)]) t → Steps p.tables e below s0 t := fun t kk_ => P120 t (by
          refine X104.caload hx (j := (2 : Int32)) (v := (.int r_15)) (by rw [e104]; exact Ar121.1) (State.isArrayOf_alike hZ.alike Ar121.2.1) Ar121.2.2 hin121 hat121 (g := (mkF m 107 #[.val (.int pa), .val (.int pb), .val (.int pc_), .val (.int pd_), .val (.int pe), .val (.ref b2), .val (.ref b24), .val (.int (0 : Int32)), .val (.int (0 : Int32)), .val (.int (-1 : Int32)), .unset, .unset] [(.int (2 : Int32)), (.ref b2)])) rfl rfl (hb hby at_107) _ ?_
          exact kk_)
        have P123 : ∀ t, GG p e below T104 (mkF m 110 #[.val (.int pa), .val (.int pb), .val (.int pc_), .val (.int pd_), .val (.int pe), .val (.ref b2), .val (.ref b24), .val (.int (0 : Int32)), .val (.int (0 : Int32)), .val (.int (-1 : Int32)), .unset, .unset] [(.int (0 : Int32)), (.int r_15)]) t → Steps p.tables e below s0 t := fun t kk_ => P122 t (by
          refine XS.iload X104.here hx rfl (hb hby at_108) rfl ?_
          exact kk_)
        obtain ⟨_, _, ⟨T124, L124, k124, n124⟩, -, X124, ⟨Lc124, hQ124, l124, y124, z124⟩, st124⟩ := Jvm.LawKit.callS X104 hx (y := mn_24) hown (mw hZ hw 54 rfl) (mw hZ hw 55 rfl) (mw hZ hw 3 rfl) (mw hZ hw 56 rfl) (by decide) (backOf (W := 0) (rm_stp0 l Z a0 hw [] r_15 T27.heap n0 (Nat.le_trans Z0 K27.1)) hZ (ww hw 56 rfl) (ww hw 3 rfl) (by decide) (by decide)) (g := (mkF m 110 #[.val (.int pa), .val (.int pb), .val (.int pc_), .val (.int pd_), .val (.int pe), .val (.ref b2), .val (.ref b24), .val (.int (0 : Int32)), .val (.int (0 : Int32)), .val (.int (-1 : Int32)), .unset, .unset] [(.int (0 : Int32)), (.int r_15)])) rfl (by rw [hml]; rfl) (argsL := [(.int r_15), (.int (0 : Int32))]) (rest := []) (lenOf pd_14 rfl) rfl (by show 2 * 0 + _ ≤ _; exact Nat.le_of_eq rfl) (hb hby at_110) (fun _ _ => ⟨rfl, e104, (by decide : 4 + 0 ≤ _), (by decide : 20 + 0 ≤ _)⟩)
        dsimp only [Pt.U, Pt.locs, Pt.cells, Pt.slots] at X124 l124 y124 z124 st124 hQ124
        subst l124 y124 z124
        obtain ⟨r_124, rfl, N124q, e124, po124_0⟩ := hQ124
        have N124 := Fr.app N104 N124q
        have P125 : ∀ t, GG p e below T124 (mkF m 113 #[.val (.int pa), .val (.int pb), .val (.int pc_), .val (.int pd_), .val (.int pe), .val (.ref b2), .val (.ref b24), .val (.int (0 : Int32)), .val (.int (0 : Int32)), .val (.int (-1 : Int32)), .unset, .unset] [(.int r_124)]) t → Steps p.tables e below s0 t := fun t kk_ => P123 t (st124 _ kk_)
        have res_124 := po124_0
        rcases res_124 with hcase | hcase
        ·
          obtain ⟨rfl, hm113⟩ := hcase
          have P126 : ∀ t, GG p e below T124 (mkF m 155 #[.val (.int pa), .val (.int pb), .val (.int pc_), .val (.int pd_), .val (.int pe), .val (.ref b2), .val (.ref b24), .val (.int (0 : Int32)), .val (.int (0 : Int32)), .val (.int (2 : Int32)), .val (.int (-1 : Int32)), .unset] [(.int (2 : Int32)), (.ref b2)]) t → Steps p.tables e below s0 t := fun t kk_ => P125 t (by
            refine XS.ifNo X124.here hx rfl (hb hby at_113) rfl ((if0 _ _).trans (feq ((by decide) : ¬ ((1 : Int32) = (0 : Int32)))).1) ?_
            refine XS.iconst X124.here hx rfl (hb hby at_116) ?_
            refine XS.istore X124.here hx rfl (hb hby at_117) rfl (l' := #[.val (.int pa), .val (.int pb), .val (.int pc_), .val (.int pd_), .val (.int pe), .val (.ref b2), .val (.ref b24), .val (.int (0 : Int32)), .val (.int (0 : Int32)), .val (.int (2 : Int32)), .unset, .unset]) rfl ?_
            refine XS.goto X124.here hx rfl (pc0 := 119) (pc' := 143) rfl (hb hby at_119) (by decide) (by decide) ?_
            refine XS.iconst X124.here hx rfl (hb hby at_143) ?_
            refine XS.istore X124.here hx rfl (hb hby at_144) rfl (l' := #[.val (.int pa), .val (.int pb), .val (.int pc_), .val (.int pd_), .val (.int pe), .val (.ref b2), .val (.ref b24), .val (.int (0 : Int32)), .val (.int (0 : Int32)), .val (.int (2 : Int32)), .val (.int (-1 : Int32)), .unset]) rfl ?_
            refine XS.iload X124.here hx rfl (hb hby at_146) rfl ?_
            refine XS.ifNo X124.here hx rfl (hb hby at_148) rfl ((if0 _ _).trans (flt ((by decide) : ¬ ((2 : Int32) < (0 : Int32)))).1) ?_
            refine XS.aload X124.here hx rfl (hb hby at_151) rfl rfl ?_
            refine XS.iload X124.here hx rfl (hb hby at_153) rfl ?_
            exact kk_)
          obtain ⟨cl127, Ar127, q127, S127, M127, Hs127, G127⟩ := id V_b2
          have hin127 := inb_of (j := (2 : Int32)) S127 ⟨by decide, by decide⟩
          have hat127 : cl127.slots[((2 : Int32)).toNatClampNeg]? = some (.int r_15) := Has.at Hs127 hin127 (rfl)
          have P128 : ∀ t, GG p e below T124 (mkF m 156 #[.val (.int pa), .val (.int pb), .val (.int pc_), .val (.int pd_), .val (.int pe), .val (.ref b2), .val (.ref b24), .val (.int (0 : Int32)), .val (.int (0 : Int32)), .val (.int (2 : Int32)), .val (.int (-1 : Int32)), .unset] [(.int r_15)]) t → Steps p.tables e below s0 t := fun t kk_ => P126 t (by
            refine X124.caload hx (j := (2 : Int32)) (v := (.int r_15)) (by rw [e124]; exact Ar127.1) (State.isArrayOf_alike hZ.alike Ar127.2.1) Ar127.2.2 hin127 hat127 (g := (mkF m 155 #[.val (.int pa), .val (.int pb), .val (.int pc_), .val (.int pd_), .val (.int pe), .val (.ref b2), .val (.ref b24), .val (.int (0 : Int32)), .val (.int (0 : Int32)), .val (.int (2 : Int32)), .val (.int (-1 : Int32)), .unset] [(.int (2 : Int32)), (.ref b2)])) rfl rfl (hb hby at_155) _ ?_
            exact kk_)
          have P129 : ∀ t, GG p e below T124 (mkF m 158 #[.val (.int pa), .val (.int pb), .val (.int pc_), .val (.int pd_), .val (.int pe), .val (.ref b2), .val (.ref b24), .val (.int (0 : Int32)), .val (.int (0 : Int32)), .val (.int (2 : Int32)), .val (.int (-1 : Int32)), .unset] [(.int (0 : Int32)), (.int r_15)]) t → Steps p.tables e below s0 t := fun t kk_ => P128 t (by
            refine XS.iload X124.here hx rfl (hb hby at_156) rfl ?_
            exact kk_)
          obtain ⟨_, _, ⟨T130, L130, k130, n130⟩, -, X130, ⟨Lc130, hQ130, l130, y130, z130⟩, st130⟩ := Jvm.LawKit.callS X124 hx (y := mn_17) hown (mw hZ hw 57 rfl) (mw hZ hw 58 rfl) (mw hZ hw 3 rfl) (mw hZ hw 59 rfl) (by decide) (backOf (W := 0) (rm_mat0 l Z a0 hw [] r_15 T27.heap n0 (Nat.le_trans Z0 K27.1)) hZ (ww hw 59 rfl) (ww hw 3 rfl) (by decide) (by decide)) (g := (mkF m 158 #[.val (.int pa), .val (.int pb), .val (.int pc_), .val (.int pd_), .val (.int pe), .val (.ref b2), .val (.ref b24), .val (.int (0 : Int32)), .val (.int (0 : Int32)), .val (.int (2 : Int32)), .val (.int (-1 : Int32)), .unset] [(.int (0 : Int32)), (.int r_15)])) rfl (by rw [hml]; rfl) (argsL := [(.int r_15), (.int (0 : Int32))]) (rest := []) (lenOf pd_14 rfl) rfl (by show 2 * 0 + _ ≤ _; exact Nat.le_of_eq rfl) (hb hby at_158) (fun _ _ => ⟨rfl, e124, (by decide : 4 + 0 ≤ _), (by decide : 20 + 0 ≤ _)⟩)
          dsimp only [Pt.U, Pt.locs, Pt.cells, Pt.slots] at X130 l130 y130 z130 st130 hQ130
          subst l130 y130 z130
          obtain ⟨r_130, rfl, N130q, e130, po130_0⟩ := hQ130
          have N130 := Fr.app N124 N130q
          have P131 : ∀ t, GG p e below T130 (mkF m 161 #[.val (.int pa), .val (.int pb), .val (.int pc_), .val (.int pd_), .val (.int pe), .val (.ref b2), .val (.ref b24), .val (.int (0 : Int32)), .val (.int (0 : Int32)), .val (.int (2 : Int32)), .val (.int (-1 : Int32)), .unset] [(.int r_130)]) t → Steps p.tables e below s0 t := fun t kk_ => P129 t (st130 _ kk_)
          have res_130 := po130_0
          rcases res_130 with hcase | hcase
          ·
            obtain ⟨rfl, hm161⟩ := hcase
            have P132 : ∀ t, GG p e below T130 (mkF m 172 #[.val (.int pa), .val (.int pb), .val (.int pc_), .val (.int pd_), .val (.int pe), .val (.ref b2), .val (.ref b24), .val (.int (0 : Int32)), .val (.int (0 : Int32)), .val (.int (2 : Int32)), .val (.int (2 : Int32)), .unset] [(.int (0 : Int32)), (.ref b24)]) t → Steps p.tables e below s0 t := fun t kk_ => P131 t (by
              refine XS.ifNo X130.here hx rfl (hb hby at_161) rfl ((if0 _ _).trans (feq ((by decide) : ¬ ((1 : Int32) = (0 : Int32)))).1) ?_
              refine XS.iload X130.here hx rfl (hb hby at_164) rfl ?_
              refine XS.istore X130.here hx rfl (hb hby at_166) rfl (l' := #[.val (.int pa), .val (.int pb), .val (.int pc_), .val (.int pd_), .val (.int pe), .val (.ref b2), .val (.ref b24), .val (.int (0 : Int32)), .val (.int (0 : Int32)), .val (.int (2 : Int32)), .val (.int (2 : Int32)), .unset]) rfl ?_
              refine XS.aload X130.here hx rfl (hb hby at_168) rfl rfl ?_
              refine XS.iload X130.here hx rfl (hb hby at_170) rfl ?_
              exact kk_)
            obtain ⟨_, _, ⟨T133, L133, k133, n133⟩, -, X133, ⟨Lc133, hQ133, l133, y133, z133⟩, st133⟩ := Jvm.LawKit.callS X130 hx (y := mn_25) hown (mw hZ hw 60 rfl) (mw hZ hw 61 rfl) (mw hZ hw 62 rfl) (mw hZ hw 63 rfl) (by decide) (backOf (W := 0) (rm_clo0 l Z a0 hw [] b24 t_27 kb_27 cd_27 nB_27 vs_27 r_5 r_10 r_15 r_20 G1 G3 T27.heap n0 (Nat.le_trans Z0 K27.1) E_b24 F_value_b24 F_coder_b24 V_t_27 S_COMPACT_STRINGS S__assertionsDisabled S_HI_BYTE_SHIFT S_LO_BYTE_SHIFT S_SIOOBE_FORMATTER OL hz rG3 s4_27 ir_5 ir_10 ir_15 ir_20) hZ (ww hw 63 rfl) (ww hw 62 rfl) (by decide) (by decide)) (g := (mkF m 172 #[.val (.int pa), .val (.int pb), .val (.int pc_), .val (.int pd_), .val (.int pe), .val (.ref b2), .val (.ref b24), .val (.int (0 : Int32)), .val (.int (0 : Int32)), .val (.int (2 : Int32)), .val (.int (2 : Int32)), .unset] [(.int (0 : Int32)), (.ref b24)])) rfl (by rw [hml]; rfl) (argsL := [(.ref b24), (.int (0 : Int32))]) (rest := []) (lenOf pd_18 rfl) rfl (by show 2 * 0 + _ ≤ _; exact Nat.le_of_eq rfl) (hb hby at_172) (fun _ _ => ⟨rfl, e130, (by decide : 4 + 0 ≤ _), (by decide : 20 + 0 ≤ _)⟩)
            dsimp only [Pt.U, Pt.locs, Pt.cells, Pt.slots] at X133 l133 y133 z133 st133 hQ133
            subst l133 y133 z133
            obtain ⟨r_133, rfl, N133q, e133, po133_0⟩ := hQ133
            have N133 := Fr.app N130 N133q
            have P134 : ∀ t, GG p e below T133 (mkF m 175 #[.val (.int pa), .val (.int pb), .val (.int pc_), .val (.int pd_), .val (.int pe), .val (.ref b2), .val (.ref b24), .val (.int (0 : Int32)), .val (.int (0 : Int32)), .val (.int (2 : Int32)), .val (.int (2 : Int32)), .unset] [(.int r_133)]) t → Steps p.tables e below s0 t := fun t kk_ => P132 t (st133 _ kk_)
            have res_133 := po133_0
            have P135 : ∀ t, GG p e below T133 (mkF m 189 #[.val (.int pa), .val (.int pb), .val (.int pc_), .val (.int pd_), .val (.int pe), .val (.ref b2), .val (.ref b24), .val (.int (0 : Int32)), .val (.int (0 : Int32)), .val (.int (2 : Int32)), .val (.int (2 : Int32)), .val (.int r_133)] [(.int (1 : Int32))]) t → Steps p.tables e below s0 t := fun t kk_ => P134 t (by
              refine XS.istore X133.here hx rfl (hb hby at_175) rfl (l' := #[.val (.int pa), .val (.int pb), .val (.int pc_), .val (.int pd_), .val (.int pe), .val (.ref b2), .val (.ref b24), .val (.int (0 : Int32)), .val (.int (0 : Int32)), .val (.int (2 : Int32)), .val (.int (2 : Int32)), .val (.int r_133)]) rfl ?_
              refine XS.iload X133.here hx rfl (hb hby at_177) rfl ?_
              refine XS.iload X133.here hx rfl (hb hby at_179) rfl ?_
              refine XS.icmpNo X133.here hx rfl (hb hby at_181) rfl (teq ((by rw [res_133]; simp [clo, hc61_35, hm89, hm113, hm161]) : r_133 = (2 : Int32))).2 ?_
              refine XS.iconst X133.here hx rfl (hb hby at_184) ?_
              refine XS.goto X133.here hx rfl (pc0 := 185) (pc' := 189) rfl (hb hby at_185) (by decide) (by decide) ?_
              exact kk_)
            subst hs0
            obtain ⟨fs, hr, hrun, hended, hW, hsame⟩ := X133.leave (v := some (.int (nar .boolean (1 : Int32)))) (fun h => by rw [Bd.returns] at h; cases h)
            refine ⟨_, _, P135 _ ?_, hrun, hended, _, _, rfl, ?_, ⟨_, rfl⟩, hW, hsame.mono (by decide) (by decide)⟩
            · show GG p e below T133 (mkF m 189 #[.val (.int pa), .val (.int pb), .val (.int pc_), .val (.int pd_), .val (.int pe), .val (.ref b2), .val (.ref b24), .val (.int (0 : Int32)), .val (.int (0 : Int32)), .val (.int (2 : Int32)), .val (.int (2 : Int32)), .val (.int r_133)] [(.int (1 : Int32))]) _
              exact retN X133 hx (t := .boolean) Bd.returns (by simp) (hb hby at_189) hr
            · show Q_law Z pa pb pc_ pd_ pe G1 G3 h0 n0 _ T133.heap _
              rw [e133]
              exact ⟨rfl, N133, K27⟩
          ·
            obtain ⟨rfl, hm161⟩ := hcase
            have P136 : ∀ t, GG p e below T130 (mkF m 172 #[.val (.int pa), .val (.int pb), .val (.int pc_), .val (.int pd_), .val (.int pe), .val (.ref b2), .val (.ref b24), .val (.int (0 : Int32)), .val (.int (0 : Int32)), .val (.int (2 : Int32)), .val (.int (-1 : Int32)), .unset] [(.int (0 : Int32)), (.ref b24)]) t → Steps p.tables e below s0 t := fun t kk_ => P131 t (by
              refine XS.ifYes X130.here hx rfl (pc0 := 161) (pc' := 168) rfl (hb hby at_161) rfl ((if0 _ _).trans (teq ((by decide) : (0 : Int32) = (0 : Int32))).1) (by decide) (by decide) ?_
              refine XS.aload X130.here hx rfl (hb hby at_168) rfl rfl ?_
              refine XS.iload X130.here hx rfl (hb hby at_170) rfl ?_
              exact kk_)
            obtain ⟨_, _, ⟨T137, L137, k137, n137⟩, -, X137, ⟨Lc137, hQ137, l137, y137, z137⟩, st137⟩ := Jvm.LawKit.callS X130 hx (y := mn_25) hown (mw hZ hw 60 rfl) (mw hZ hw 61 rfl) (mw hZ hw 62 rfl) (mw hZ hw 63 rfl) (by decide) (backOf (W := 0) (rm_clo0 l Z a0 hw [] b24 t_27 kb_27 cd_27 nB_27 vs_27 r_5 r_10 r_15 r_20 G1 G3 T27.heap n0 (Nat.le_trans Z0 K27.1) E_b24 F_value_b24 F_coder_b24 V_t_27 S_COMPACT_STRINGS S__assertionsDisabled S_HI_BYTE_SHIFT S_LO_BYTE_SHIFT S_SIOOBE_FORMATTER OL hz rG3 s4_27 ir_5 ir_10 ir_15 ir_20) hZ (ww hw 63 rfl) (ww hw 62 rfl) (by decide) (by decide)) (g := (mkF m 172 #[.val (.int pa), .val (.int pb), .val (.int pc_), .val (.int pd_), .val (.int pe), .val (.ref b2), .val (.ref b24), .val (.int (0 : Int32)), .val (.int (0 : Int32)), .val (.int (2 : Int32)), .val (.int (-1 : Int32)), .unset] [(.int (0 : Int32)), (.ref b24)])) rfl (by rw [hml]; rfl) (argsL := [(.ref b24), (.int (0 : Int32))]) (rest := []) (lenOf pd_18 rfl) rfl (by show 2 * 0 + _ ≤ _; exact Nat.le_of_eq rfl) (hb hby at_172) (fun _ _ => ⟨rfl, e130, (by decide : 4 + 0 ≤ _), (by decide : 20 + 0 ≤ _)⟩)
            dsimp only [Pt.U, Pt.locs, Pt.cells, Pt.slots] at X137 l137 y137 z137 st137 hQ137
            subst l137 y137 z137
            obtain ⟨r_137, rfl, N137q, e137, po137_0⟩ := hQ137
            have N137 := Fr.app N130 N137q
            have P138 : ∀ t, GG p e below T137 (mkF m 175 #[.val (.int pa), .val (.int pb), .val (.int pc_), .val (.int pd_), .val (.int pe), .val (.ref b2), .val (.ref b24), .val (.int (0 : Int32)), .val (.int (0 : Int32)), .val (.int (2 : Int32)), .val (.int (-1 : Int32)), .unset] [(.int r_137)]) t → Steps p.tables e below s0 t := fun t kk_ => P136 t (st137 _ kk_)
            have res_137 := po137_0
            have P139 : ∀ t, GG p e below T137 (mkF m 189 #[.val (.int pa), .val (.int pb), .val (.int pc_), .val (.int pd_), .val (.int pe), .val (.ref b2), .val (.ref b24), .val (.int (0 : Int32)), .val (.int (0 : Int32)), .val (.int (2 : Int32)), .val (.int (-1 : Int32)), .val (.int r_137)] [(.int (1 : Int32))]) t → Steps p.tables e below s0 t := fun t kk_ => P138 t (by
              refine XS.istore X137.here hx rfl (hb hby at_175) rfl (l' := #[.val (.int pa), .val (.int pb), .val (.int pc_), .val (.int pd_), .val (.int pe), .val (.ref b2), .val (.ref b24), .val (.int (0 : Int32)), .val (.int (0 : Int32)), .val (.int (2 : Int32)), .val (.int (-1 : Int32)), .val (.int r_137)]) rfl ?_
              refine XS.iload X137.here hx rfl (hb hby at_177) rfl ?_
              refine XS.iload X137.here hx rfl (hb hby at_179) rfl ?_
              refine XS.icmpNo X137.here hx rfl (hb hby at_181) rfl (teq ((by rw [res_137]; simp [clo, hc61_35, hm89, hm113.resolve_left hm161, hm161]) : r_137 = (-1 : Int32))).2 ?_
              refine XS.iconst X137.here hx rfl (hb hby at_184) ?_
              refine XS.goto X137.here hx rfl (pc0 := 185) (pc' := 189) rfl (hb hby at_185) (by decide) (by decide) ?_
              exact kk_)
            subst hs0
            obtain ⟨fs, hr, hrun, hended, hW, hsame⟩ := X137.leave (v := some (.int (nar .boolean (1 : Int32)))) (fun h => by rw [Bd.returns] at h; cases h)
            refine ⟨_, _, P139 _ ?_, hrun, hended, _, _, rfl, ?_, ⟨_, rfl⟩, hW, hsame.mono (by decide) (by decide)⟩
            · show GG p e below T137 (mkF m 189 #[.val (.int pa), .val (.int pb), .val (.int pc_), .val (.int pd_), .val (.int pe), .val (.ref b2), .val (.ref b24), .val (.int (0 : Int32)), .val (.int (0 : Int32)), .val (.int (2 : Int32)), .val (.int (-1 : Int32)), .val (.int r_137)] [(.int (1 : Int32))]) _
              exact retN X137 hx (t := .boolean) Bd.returns (by simp) (hb hby at_189) hr
            · show Q_law Z pa pb pc_ pd_ pe G1 G3 h0 n0 _ T137.heap _
              rw [e137]
              exact ⟨rfl, N137, K27⟩
        ·
          obtain ⟨rfl, hm113⟩ := hcase
          have P140 : ∀ t, GG p e below T124 (mkF m 131 #[.val (.int pa), .val (.int pb), .val (.int pc_), .val (.int pd_), .val (.int pe), .val (.ref b2), .val (.ref b24), .val (.int (0 : Int32)), .val (.int (0 : Int32)), .val (.int (-1 : Int32)), .unset, .unset] [(.int (3 : Int32)), (.ref b2)]) t → Steps p.tables e below s0 t := fun t kk_ => P125 t (by
            refine XS.ifYes X124.here hx rfl (pc0 := 113) (pc' := 122) rfl (hb hby at_113) rfl ((if0 _ _).trans (teq ((by decide) : (0 : Int32) = (0 : Int32))).1) (by decide) (by decide) ?_
            refine XS.iload X124.here hx rfl (hb hby at_122) rfl ?_
            refine XS.iconst X124.here hx rfl (hb hby at_124) ?_
            refine XS.icmpNo X124.here hx rfl (hb hby at_125) rfl (tlt ((by decide) : (0 : Int32) < (3 : Int32))).2.1 ?_
            refine XS.aload X124.here hx rfl (hb hby at_128) rfl rfl ?_
            refine XS.iconst X124.here hx rfl (hb hby at_130) ?_
            exact kk_)
          obtain ⟨cl141, Ar141, q141, S141, M141, Hs141, G141⟩ := id V_b2
          have hin141 := inb_of (j := (3 : Int32)) S141 ⟨by decide, by decide⟩
          have hat141 : cl141.slots[((3 : Int32)).toNatClampNeg]? = some (.int r_20) := Has.at Hs141 hin141 (rfl)
          have P142 : ∀ t, GG p e below T124 (mkF m 132 #[.val (.int pa), .val (.int pb), .val (.int pc_), .val (.int pd_), .val (.int pe), .val (.ref b2), .val (.ref b24), .val (.int (0 : Int32)), .val (.int (0 : Int32)), .val (.int (-1 : Int32)), .unset, .unset] [(.int r_20)]) t → Steps p.tables e below s0 t := fun t kk_ => P140 t (by
            refine X124.caload hx (j := (3 : Int32)) (v := (.int r_20)) (by rw [e124]; exact Ar141.1) (State.isArrayOf_alike hZ.alike Ar141.2.1) Ar141.2.2 hin141 hat141 (g := (mkF m 131 #[.val (.int pa), .val (.int pb), .val (.int pc_), .val (.int pd_), .val (.int pe), .val (.ref b2), .val (.ref b24), .val (.int (0 : Int32)), .val (.int (0 : Int32)), .val (.int (-1 : Int32)), .unset, .unset] [(.int (3 : Int32)), (.ref b2)])) rfl rfl (hb hby at_131) _ ?_
            exact kk_)
          have P143 : ∀ t, GG p e below T124 (mkF m 134 #[.val (.int pa), .val (.int pb), .val (.int pc_), .val (.int pd_), .val (.int pe), .val (.ref b2), .val (.ref b24), .val (.int (0 : Int32)), .val (.int (0 : Int32)), .val (.int (-1 : Int32)), .unset, .unset] [(.int (0 : Int32)), (.int r_20)]) t → Steps p.tables e below s0 t := fun t kk_ => P142 t (by
            refine XS.iload X124.here hx rfl (hb hby at_132) rfl ?_
            exact kk_)
          obtain ⟨_, _, ⟨T144, L144, k144, n144⟩, -, X144, ⟨Lc144, hQ144, l144, y144, z144⟩, st144⟩ := Jvm.LawKit.callS X124 hx (y := mn_24) hown (mw hZ hw 54 rfl) (mw hZ hw 55 rfl) (mw hZ hw 3 rfl) (mw hZ hw 56 rfl) (by decide) (backOf (W := 0) (rm_stp0 l Z a0 hw [] r_20 T27.heap n0 (Nat.le_trans Z0 K27.1)) hZ (ww hw 56 rfl) (ww hw 3 rfl) (by decide) (by decide)) (g := (mkF m 134 #[.val (.int pa), .val (.int pb), .val (.int pc_), .val (.int pd_), .val (.int pe), .val (.ref b2), .val (.ref b24), .val (.int (0 : Int32)), .val (.int (0 : Int32)), .val (.int (-1 : Int32)), .unset, .unset] [(.int (0 : Int32)), (.int r_20)])) rfl (by rw [hml]; rfl) (argsL := [(.int r_20), (.int (0 : Int32))]) (rest := []) (lenOf pd_14 rfl) rfl (by show 2 * 0 + _ ≤ _; exact Nat.le_of_eq rfl) (hb hby at_134) (fun _ _ => ⟨rfl, e124, (by decide : 4 + 0 ≤ _), (by decide : 20 + 0 ≤ _)⟩)
          dsimp only [Pt.U, Pt.locs, Pt.cells, Pt.slots] at X144 l144 y144 z144 st144 hQ144
          subst l144 y144 z144
          obtain ⟨r_144, rfl, N144q, e144, po144_0⟩ := hQ144
          have N144 := Fr.app N124 N144q
          have P145 : ∀ t, GG p e below T144 (mkF m 137 #[.val (.int pa), .val (.int pb), .val (.int pc_), .val (.int pd_), .val (.int pe), .val (.ref b2), .val (.ref b24), .val (.int (0 : Int32)), .val (.int (0 : Int32)), .val (.int (-1 : Int32)), .unset, .unset] [(.int r_144)]) t → Steps p.tables e below s0 t := fun t kk_ => P143 t (st144 _ kk_)
          have res_144 := po144_0
          rcases res_144 with hcase | hcase
          ·
            obtain ⟨rfl, hm137⟩ := hcase
            have P146 : ∀ t, GG p e below T144 (mkF m 155 #[.val (.int pa), .val (.int pb), .val (.int pc_), .val (.int pd_), .val (.int pe), .val (.ref b2), .val (.ref b24), .val (.int (0 : Int32)), .val (.int (0 : Int32)), .val (.int (3 : Int32)), .val (.int (-1 : Int32)), .unset] [(.int (3 : Int32)), (.ref b2)]) t → Steps p.tables e below s0 t := fun t kk_ => P145 t (by
              refine XS.ifNo X144.here hx rfl (hb hby at_137) rfl ((if0 _ _).trans (feq ((by decide) : ¬ ((1 : Int32) = (0 : Int32)))).1) ?_
              refine XS.iconst X144.here hx rfl (hb hby at_140) ?_
              refine XS.istore X144.here hx rfl (hb hby at_141) rfl (l' := #[.val (.int pa), .val (.int pb), .val (.int pc_), .val (.int pd_), .val (.int pe), .val (.ref b2), .val (.ref b24), .val (.int (0 : Int32)), .val (.int (0 : Int32)), .val (.int (3 : Int32)), .unset, .unset]) rfl ?_
              refine XS.iconst X144.here hx rfl (hb hby at_143) ?_
              refine XS.istore X144.here hx rfl (hb hby at_144) rfl (l' := #[.val (.int pa), .val (.int pb), .val (.int pc_), .val (.int pd_), .val (.int pe), .val (.ref b2), .val (.ref b24), .val (.int (0 : Int32)), .val (.int (0 : Int32)), .val (.int (3 : Int32)), .val (.int (-1 : Int32)), .unset]) rfl ?_
              refine XS.iload X144.here hx rfl (hb hby at_146) rfl ?_
              refine XS.ifNo X144.here hx rfl (hb hby at_148) rfl ((if0 _ _).trans (flt ((by decide) : ¬ ((3 : Int32) < (0 : Int32)))).1) ?_
              refine XS.aload X144.here hx rfl (hb hby at_151) rfl rfl ?_
              refine XS.iload X144.here hx rfl (hb hby at_153) rfl ?_
              exact kk_)
            obtain ⟨cl147, Ar147, q147, S147, M147, Hs147, G147⟩ := id V_b2
            have hin147 := inb_of (j := (3 : Int32)) S147 ⟨by decide, by decide⟩
            have hat147 : cl147.slots[((3 : Int32)).toNatClampNeg]? = some (.int r_20) := Has.at Hs147 hin147 (rfl)
            have P148 : ∀ t, GG p e below T144 (mkF m 156 #[.val (.int pa), .val (.int pb), .val (.int pc_), .val (.int pd_), .val (.int pe), .val (.ref b2), .val (.ref b24), .val (.int (0 : Int32)), .val (.int (0 : Int32)), .val (.int (3 : Int32)), .val (.int (-1 : Int32)), .unset] [(.int r_20)]) t → Steps p.tables e below s0 t := fun t kk_ => P146 t (by
              refine X144.caload hx (j := (3 : Int32)) (v := (.int r_20)) (by rw [e144]; exact Ar147.1) (State.isArrayOf_alike hZ.alike Ar147.2.1) Ar147.2.2 hin147 hat147 (g := (mkF m 155 #[.val (.int pa), .val (.int pb), .val (.int pc_), .val (.int pd_), .val (.int pe), .val (.ref b2), .val (.ref b24), .val (.int (0 : Int32)), .val (.int (0 : Int32)), .val (.int (3 : Int32)), .val (.int (-1 : Int32)), .unset] [(.int (3 : Int32)), (.ref b2)])) rfl rfl (hb hby at_155) _ ?_
              exact kk_)
            have P149 : ∀ t, GG p e below T144 (mkF m 158 #[.val (.int pa), .val (.int pb), .val (.int pc_), .val (.int pd_), .val (.int pe), .val (.ref b2), .val (.ref b24), .val (.int (0 : Int32)), .val (.int (0 : Int32)), .val (.int (3 : Int32)), .val (.int (-1 : Int32)), .unset] [(.int (0 : Int32)), (.int r_20)]) t → Steps p.tables e below s0 t := fun t kk_ => P148 t (by
              refine XS.iload X144.here hx rfl (hb hby at_156) rfl ?_
              exact kk_)
            obtain ⟨_, _, ⟨T150, L150, k150, n150⟩, -, X150, ⟨Lc150, hQ150, l150, y150, z150⟩, st150⟩ := Jvm.LawKit.callS X144 hx (y := mn_17) hown (mw hZ hw 57 rfl) (mw hZ hw 58 rfl) (mw hZ hw 3 rfl) (mw hZ hw 59 rfl) (by decide) (backOf (W := 0) (rm_mat0 l Z a0 hw [] r_20 T27.heap n0 (Nat.le_trans Z0 K27.1)) hZ (ww hw 59 rfl) (ww hw 3 rfl) (by decide) (by decide)) (g := (mkF m 158 #[.val (.int pa), .val (.int pb), .val (.int pc_), .val (.int pd_), .val (.int pe), .val (.ref b2), .val (.ref b24), .val (.int (0 : Int32)), .val (.int (0 : Int32)), .val (.int (3 : Int32)), .val (.int (-1 : Int32)), .unset] [(.int (0 : Int32)), (.int r_20)])) rfl (by rw [hml]; rfl) (argsL := [(.int r_20), (.int (0 : Int32))]) (rest := []) (lenOf pd_14 rfl) rfl (by show 2 * 0 + _ ≤ _; exact Nat.le_of_eq rfl) (hb hby at_158) (fun _ _ => ⟨rfl, e144, (by decide : 4 + 0 ≤ _), (by decide : 20 + 0 ≤ _)⟩)
            dsimp only [Pt.U, Pt.locs, Pt.cells, Pt.slots] at X150 l150 y150 z150 st150 hQ150
            subst l150 y150 z150
            obtain ⟨r_150, rfl, N150q, e150, po150_0⟩ := hQ150
            have N150 := Fr.app N144 N150q
            have P151 : ∀ t, GG p e below T150 (mkF m 161 #[.val (.int pa), .val (.int pb), .val (.int pc_), .val (.int pd_), .val (.int pe), .val (.ref b2), .val (.ref b24), .val (.int (0 : Int32)), .val (.int (0 : Int32)), .val (.int (3 : Int32)), .val (.int (-1 : Int32)), .unset] [(.int r_150)]) t → Steps p.tables e below s0 t := fun t kk_ => P149 t (st150 _ kk_)
            have res_150 := po150_0
            rcases res_150 with hcase | hcase
            ·
              obtain ⟨rfl, hm161⟩ := hcase
              have P152 : ∀ t, GG p e below T150 (mkF m 172 #[.val (.int pa), .val (.int pb), .val (.int pc_), .val (.int pd_), .val (.int pe), .val (.ref b2), .val (.ref b24), .val (.int (0 : Int32)), .val (.int (0 : Int32)), .val (.int (3 : Int32)), .val (.int (3 : Int32)), .unset] [(.int (0 : Int32)), (.ref b24)]) t → Steps p.tables e below s0 t := fun t kk_ => P151 t (by
                refine XS.ifNo X150.here hx rfl (hb hby at_161) rfl ((if0 _ _).trans (feq ((by decide) : ¬ ((1 : Int32) = (0 : Int32)))).1) ?_
                refine XS.iload X150.here hx rfl (hb hby at_164) rfl ?_
                refine XS.istore X150.here hx rfl (hb hby at_166) rfl (l' := #[.val (.int pa), .val (.int pb), .val (.int pc_), .val (.int pd_), .val (.int pe), .val (.ref b2), .val (.ref b24), .val (.int (0 : Int32)), .val (.int (0 : Int32)), .val (.int (3 : Int32)), .val (.int (3 : Int32)), .unset]) rfl ?_
                refine XS.aload X150.here hx rfl (hb hby at_168) rfl rfl ?_
                refine XS.iload X150.here hx rfl (hb hby at_170) rfl ?_
                exact kk_)
              obtain ⟨_, _, ⟨T153, L153, k153, n153⟩, -, X153, ⟨Lc153, hQ153, l153, y153, z153⟩, st153⟩ := Jvm.LawKit.callS X150 hx (y := mn_25) hown (mw hZ hw 60 rfl) (mw hZ hw 61 rfl) (mw hZ hw 62 rfl) (mw hZ hw 63 rfl) (by decide) (backOf (W := 0) (rm_clo0 l Z a0 hw [] b24 t_27 kb_27 cd_27 nB_27 vs_27 r_5 r_10 r_15 r_20 G1 G3 T27.heap n0 (Nat.le_trans Z0 K27.1) E_b24 F_value_b24 F_coder_b24 V_t_27 S_COMPACT_STRINGS S__assertionsDisabled S_HI_BYTE_SHIFT S_LO_BYTE_SHIFT S_SIOOBE_FORMATTER OL hz rG3 s4_27 ir_5 ir_10 ir_15 ir_20) hZ (ww hw 63 rfl) (ww hw 62 rfl) (by decide) (by decide)) (g := (mkF m 172 #[.val (.int pa), .val (.int pb), .val (.int pc_), .val (.int pd_), .val (.int pe), .val (.ref b2), .val (.ref b24), .val (.int (0 : Int32)), .val (.int (0 : Int32)), .val (.int (3 : Int32)), .val (.int (3 : Int32)), .unset] [(.int (0 : Int32)), (.ref b24)])) rfl (by rw [hml]; rfl) (argsL := [(.ref b24), (.int (0 : Int32))]) (rest := []) (lenOf pd_18 rfl) rfl (by show 2 * 0 + _ ≤ _; exact Nat.le_of_eq rfl) (hb hby at_172) (fun _ _ => ⟨rfl, e150, (by decide : 4 + 0 ≤ _), (by decide : 20 + 0 ≤ _)⟩)
              dsimp only [Pt.U, Pt.locs, Pt.cells, Pt.slots] at X153 l153 y153 z153 st153 hQ153
              subst l153 y153 z153
              obtain ⟨r_153, rfl, N153q, e153, po153_0⟩ := hQ153
              have N153 := Fr.app N150 N153q
              have P154 : ∀ t, GG p e below T153 (mkF m 175 #[.val (.int pa), .val (.int pb), .val (.int pc_), .val (.int pd_), .val (.int pe), .val (.ref b2), .val (.ref b24), .val (.int (0 : Int32)), .val (.int (0 : Int32)), .val (.int (3 : Int32)), .val (.int (3 : Int32)), .unset] [(.int r_153)]) t → Steps p.tables e below s0 t := fun t kk_ => P152 t (st153 _ kk_)
              have res_153 := po153_0
              have P155 : ∀ t, GG p e below T153 (mkF m 189 #[.val (.int pa), .val (.int pb), .val (.int pc_), .val (.int pd_), .val (.int pe), .val (.ref b2), .val (.ref b24), .val (.int (0 : Int32)), .val (.int (0 : Int32)), .val (.int (3 : Int32)), .val (.int (3 : Int32)), .val (.int r_153)] [(.int (1 : Int32))]) t → Steps p.tables e below s0 t := fun t kk_ => P154 t (by
                refine XS.istore X153.here hx rfl (hb hby at_175) rfl (l' := #[.val (.int pa), .val (.int pb), .val (.int pc_), .val (.int pd_), .val (.int pe), .val (.ref b2), .val (.ref b24), .val (.int (0 : Int32)), .val (.int (0 : Int32)), .val (.int (3 : Int32)), .val (.int (3 : Int32)), .val (.int r_153)]) rfl ?_
                refine XS.iload X153.here hx rfl (hb hby at_177) rfl ?_
                refine XS.iload X153.here hx rfl (hb hby at_179) rfl ?_
                refine XS.icmpNo X153.here hx rfl (hb hby at_181) rfl (teq ((by rw [res_153]; simp [clo, hc61_35, hm89, hm113, hm137, hm161]) : r_153 = (3 : Int32))).2 ?_
                refine XS.iconst X153.here hx rfl (hb hby at_184) ?_
                refine XS.goto X153.here hx rfl (pc0 := 185) (pc' := 189) rfl (hb hby at_185) (by decide) (by decide) ?_
                exact kk_)
              subst hs0
              obtain ⟨fs, hr, hrun, hended, hW, hsame⟩ := X153.leave (v := some (.int (nar .boolean (1 : Int32)))) (fun h => by rw [Bd.returns] at h; cases h)
              refine ⟨_, _, P155 _ ?_, hrun, hended, _, _, rfl, ?_, ⟨_, rfl⟩, hW, hsame.mono (by decide) (by decide)⟩
              · show GG p e below T153 (mkF m 189 #[.val (.int pa), .val (.int pb), .val (.int pc_), .val (.int pd_), .val (.int pe), .val (.ref b2), .val (.ref b24), .val (.int (0 : Int32)), .val (.int (0 : Int32)), .val (.int (3 : Int32)), .val (.int (3 : Int32)), .val (.int r_153)] [(.int (1 : Int32))]) _
                exact retN X153 hx (t := .boolean) Bd.returns (by simp) (hb hby at_189) hr
              · show Q_law Z pa pb pc_ pd_ pe G1 G3 h0 n0 _ T153.heap _
                rw [e153]
                exact ⟨rfl, N153, K27⟩
            ·
              obtain ⟨rfl, hm161⟩ := hcase
              have P156 : ∀ t, GG p e below T150 (mkF m 172 #[.val (.int pa), .val (.int pb), .val (.int pc_), .val (.int pd_), .val (.int pe), .val (.ref b2), .val (.ref b24), .val (.int (0 : Int32)), .val (.int (0 : Int32)), .val (.int (3 : Int32)), .val (.int (-1 : Int32)), .unset] [(.int (0 : Int32)), (.ref b24)]) t → Steps p.tables e below s0 t := fun t kk_ => P151 t (by
                refine XS.ifYes X150.here hx rfl (pc0 := 161) (pc' := 168) rfl (hb hby at_161) rfl ((if0 _ _).trans (teq ((by decide) : (0 : Int32) = (0 : Int32))).1) (by decide) (by decide) ?_
                refine XS.aload X150.here hx rfl (hb hby at_168) rfl rfl ?_
                refine XS.iload X150.here hx rfl (hb hby at_170) rfl ?_
                exact kk_)
              obtain ⟨_, _, ⟨T157, L157, k157, n157⟩, -, X157, ⟨Lc157, hQ157, l157, y157, z157⟩, st157⟩ := Jvm.LawKit.callS X150 hx (y := mn_25) hown (mw hZ hw 60 rfl) (mw hZ hw 61 rfl) (mw hZ hw 62 rfl) (mw hZ hw 63 rfl) (by decide) (backOf (W := 0) (rm_clo0 l Z a0 hw [] b24 t_27 kb_27 cd_27 nB_27 vs_27 r_5 r_10 r_15 r_20 G1 G3 T27.heap n0 (Nat.le_trans Z0 K27.1) E_b24 F_value_b24 F_coder_b24 V_t_27 S_COMPACT_STRINGS S__assertionsDisabled S_HI_BYTE_SHIFT S_LO_BYTE_SHIFT S_SIOOBE_FORMATTER OL hz rG3 s4_27 ir_5 ir_10 ir_15 ir_20) hZ (ww hw 63 rfl) (ww hw 62 rfl) (by decide) (by decide)) (g := (mkF m 172 #[.val (.int pa), .val (.int pb), .val (.int pc_), .val (.int pd_), .val (.int pe), .val (.ref b2), .val (.ref b24), .val (.int (0 : Int32)), .val (.int (0 : Int32)), .val (.int (3 : Int32)), .val (.int (-1 : Int32)), .unset] [(.int (0 : Int32)), (.ref b24)])) rfl (by rw [hml]; rfl) (argsL := [(.ref b24), (.int (0 : Int32))]) (rest := []) (lenOf pd_18 rfl) rfl (by show 2 * 0 + _ ≤ _; exact Nat.le_of_eq rfl) (hb hby at_172) (fun _ _ => ⟨rfl, e150, (by decide : 4 + 0 ≤ _), (by decide : 20 + 0 ≤ _)⟩)
              dsimp only [Pt.U, Pt.locs, Pt.cells, Pt.slots] at X157 l157 y157 z157 st157 hQ157
              subst l157 y157 z157
              obtain ⟨r_157, rfl, N157q, e157, po157_0⟩ := hQ157
              have N157 := Fr.app N150 N157q
              have P158 : ∀ t, GG p e below T157 (mkF m 175 #[.val (.int pa), .val (.int pb), .val (.int pc_), .val (.int pd_), .val (.int pe), .val (.ref b2), .val (.ref b24), .val (.int (0 : Int32)), .val (.int (0 : Int32)), .val (.int (3 : Int32)), .val (.int (-1 : Int32)), .unset] [(.int r_157)]) t → Steps p.tables e below s0 t := fun t kk_ => P156 t (st157 _ kk_)
              have res_157 := po157_0
              have P159 : ∀ t, GG p e below T157 (mkF m 189 #[.val (.int pa), .val (.int pb), .val (.int pc_), .val (.int pd_), .val (.int pe), .val (.ref b2), .val (.ref b24), .val (.int (0 : Int32)), .val (.int (0 : Int32)), .val (.int (3 : Int32)), .val (.int (-1 : Int32)), .val (.int r_157)] [(.int (1 : Int32))]) t → Steps p.tables e below s0 t := fun t kk_ => P158 t (by
                refine XS.istore X157.here hx rfl (hb hby at_175) rfl (l' := #[.val (.int pa), .val (.int pb), .val (.int pc_), .val (.int pd_), .val (.int pe), .val (.ref b2), .val (.ref b24), .val (.int (0 : Int32)), .val (.int (0 : Int32)), .val (.int (3 : Int32)), .val (.int (-1 : Int32)), .val (.int r_157)]) rfl ?_
                refine XS.iload X157.here hx rfl (hb hby at_177) rfl ?_
                refine XS.iload X157.here hx rfl (hb hby at_179) rfl ?_
                refine XS.icmpNo X157.here hx rfl (hb hby at_181) rfl (teq ((by rw [res_157]; simp [clo, hc61_35, hm89, hm113, hm137.resolve_left hm161, hm161]) : r_157 = (-1 : Int32))).2 ?_
                refine XS.iconst X157.here hx rfl (hb hby at_184) ?_
                refine XS.goto X157.here hx rfl (pc0 := 185) (pc' := 189) rfl (hb hby at_185) (by decide) (by decide) ?_
                exact kk_)
              subst hs0
              obtain ⟨fs, hr, hrun, hended, hW, hsame⟩ := X157.leave (v := some (.int (nar .boolean (1 : Int32)))) (fun h => by rw [Bd.returns] at h; cases h)
              refine ⟨_, _, P159 _ ?_, hrun, hended, _, _, rfl, ?_, ⟨_, rfl⟩, hW, hsame.mono (by decide) (by decide)⟩
              · show GG p e below T157 (mkF m 189 #[.val (.int pa), .val (.int pb), .val (.int pc_), .val (.int pd_), .val (.int pe), .val (.ref b2), .val (.ref b24), .val (.int (0 : Int32)), .val (.int (0 : Int32)), .val (.int (3 : Int32)), .val (.int (-1 : Int32)), .val (.int r_157)] [(.int (1 : Int32))]) _
                exact retN X157 hx (t := .boolean) Bd.returns (by simp) (hb hby at_189) hr
              · show Q_law Z pa pb pc_ pd_ pe G1 G3 h0 n0 _ T157.heap _
                rw [e157]
                exact ⟨rfl, N157, K27⟩
          ·
            obtain ⟨rfl, hm137⟩ := hcase
            have P160 : ∀ t, GG p e below T144 (mkF m 172 #[.val (.int pa), .val (.int pb), .val (.int pc_), .val (.int pd_), .val (.int pe), .val (.ref b2), .val (.ref b24), .val (.int (0 : Int32)), .val (.int (0 : Int32)), .val (.int (-1 : Int32)), .val (.int (-1 : Int32)), .unset] [(.int (0 : Int32)), (.ref b24)]) t → Steps p.tables e below s0 t := fun t kk_ => P145 t (by
              refine XS.ifYes X144.here hx rfl (pc0 := 137) (pc' := 143) rfl (hb hby at_137) rfl ((if0 _ _).trans (teq ((by decide) : (0 : Int32) = (0 : Int32))).1) (by decide) (by decide) ?_
              refine XS.iconst X144.here hx rfl (hb hby at_143) ?_
              refine XS.istore X144.here hx rfl (hb hby at_144) rfl (l' := #[.val (.int pa), .val (.int pb), .val (.int pc_), .val (.int pd_), .val (.int pe), .val (.ref b2), .val (.ref b24), .val (.int (0 : Int32)), .val (.int (0 : Int32)), .val (.int (-1 : Int32)), .val (.int (-1 : Int32)), .unset]) rfl ?_
              refine XS.iload X144.here hx rfl (hb hby at_146) rfl ?_
              refine XS.ifYes X144.here hx rfl (pc0 := 148) (pc' := 168) rfl (hb hby at_148) rfl ((if0 _ _).trans (tlt ((by decide) : (-1 : Int32) < (0 : Int32))).1) (by decide) (by decide) ?_
              refine XS.aload X144.here hx rfl (hb hby at_168) rfl rfl ?_
              refine XS.iload X144.here hx rfl (hb hby at_170) rfl ?_
              exact kk_)
            obtain ⟨_, _, ⟨T161, L161, k161, n161⟩, -, X161, ⟨Lc161, hQ161, l161, y161, z161⟩, st161⟩ := Jvm.LawKit.callS X144 hx (y := mn_25) hown (mw hZ hw 60 rfl) (mw hZ hw 61 rfl) (mw hZ hw 62 rfl) (mw hZ hw 63 rfl) (by decide) (backOf (W := 0) (rm_clo0 l Z a0 hw [] b24 t_27 kb_27 cd_27 nB_27 vs_27 r_5 r_10 r_15 r_20 G1 G3 T27.heap n0 (Nat.le_trans Z0 K27.1) E_b24 F_value_b24 F_coder_b24 V_t_27 S_COMPACT_STRINGS S__assertionsDisabled S_HI_BYTE_SHIFT S_LO_BYTE_SHIFT S_SIOOBE_FORMATTER OL hz rG3 s4_27 ir_5 ir_10 ir_15 ir_20) hZ (ww hw 63 rfl) (ww hw 62 rfl) (by decide) (by decide)) (g := (mkF m 172 #[.val (.int pa), .val (.int pb), .val (.int pc_), .val (.int pd_), .val (.int pe), .val (.ref b2), .val (.ref b24), .val (.int (0 : Int32)), .val (.int (0 : Int32)), .val (.int (-1 : Int32)), .val (.int (-1 : Int32)), .unset] [(.int (0 : Int32)), (.ref b24)])) rfl (by rw [hml]; rfl) (argsL := [(.ref b24), (.int (0 : Int32))]) (rest := []) (lenOf pd_18 rfl) rfl (by show 2 * 0 + _ ≤ _; exact Nat.le_of_eq rfl) (hb hby at_172) (fun _ _ => ⟨rfl, e144, (by decide : 4 + 0 ≤ _), (by decide : 20 + 0 ≤ _)⟩)
            dsimp only [Pt.U, Pt.locs, Pt.cells, Pt.slots] at X161 l161 y161 z161 st161 hQ161
            subst l161 y161 z161
            obtain ⟨r_161, rfl, N161q, e161, po161_0⟩ := hQ161
            have N161 := Fr.app N144 N161q
            have P162 : ∀ t, GG p e below T161 (mkF m 175 #[.val (.int pa), .val (.int pb), .val (.int pc_), .val (.int pd_), .val (.int pe), .val (.ref b2), .val (.ref b24), .val (.int (0 : Int32)), .val (.int (0 : Int32)), .val (.int (-1 : Int32)), .val (.int (-1 : Int32)), .unset] [(.int r_161)]) t → Steps p.tables e below s0 t := fun t kk_ => P160 t (st161 _ kk_)
            have res_161 := po161_0
            have P163 : ∀ t, GG p e below T161 (mkF m 189 #[.val (.int pa), .val (.int pb), .val (.int pc_), .val (.int pd_), .val (.int pe), .val (.ref b2), .val (.ref b24), .val (.int (0 : Int32)), .val (.int (0 : Int32)), .val (.int (-1 : Int32)), .val (.int (-1 : Int32)), .val (.int r_161)] [(.int (1 : Int32))]) t → Steps p.tables e below s0 t := fun t kk_ => P162 t (by
              refine XS.istore X161.here hx rfl (hb hby at_175) rfl (l' := #[.val (.int pa), .val (.int pb), .val (.int pc_), .val (.int pd_), .val (.int pe), .val (.ref b2), .val (.ref b24), .val (.int (0 : Int32)), .val (.int (0 : Int32)), .val (.int (-1 : Int32)), .val (.int (-1 : Int32)), .val (.int r_161)]) rfl ?_
              refine XS.iload X161.here hx rfl (hb hby at_177) rfl ?_
              refine XS.iload X161.here hx rfl (hb hby at_179) rfl ?_
              refine XS.icmpNo X161.here hx rfl (hb hby at_181) rfl (teq ((by rw [res_161]; simp [clo, hc61_35, hm89, hm113, hm137]) : r_161 = (-1 : Int32))).2 ?_
              refine XS.iconst X161.here hx rfl (hb hby at_184) ?_
              refine XS.goto X161.here hx rfl (pc0 := 185) (pc' := 189) rfl (hb hby at_185) (by decide) (by decide) ?_
              exact kk_)
            subst hs0
            obtain ⟨fs, hr, hrun, hended, hW, hsame⟩ := X161.leave (v := some (.int (nar .boolean (1 : Int32)))) (fun h => by rw [Bd.returns] at h; cases h)
            refine ⟨_, _, P163 _ ?_, hrun, hended, _, _, rfl, ?_, ⟨_, rfl⟩, hW, hsame.mono (by decide) (by decide)⟩
            · show GG p e below T161 (mkF m 189 #[.val (.int pa), .val (.int pb), .val (.int pc_), .val (.int pd_), .val (.int pe), .val (.ref b2), .val (.ref b24), .val (.int (0 : Int32)), .val (.int (0 : Int32)), .val (.int (-1 : Int32)), .val (.int (-1 : Int32)), .val (.int r_161)] [(.int (1 : Int32))]) _
              exact retN X161 hx (t := .boolean) Bd.returns (by simp) (hb hby at_189) hr
            · show Q_law Z pa pb pc_ pd_ pe G1 G3 h0 n0 _ T161.heap _
              rw [e161]
              exact ⟨rfl, N161, K27⟩
  ·
    have P164 : ∀ t, GG p e below T27 (mkF m 52 #[.val (.int pa), .val (.int pb), .val (.int pc_), .val (.int pd_), .val (.int pe), .val (.ref b2), .val (.ref b24), .unset, .unset, .unset, .unset, .unset] [(.int (1 : Int32))]) t → Steps p.tables e below s0 t := fun t kk_ => P29 t (by rw [hk]; exact kk_)
    have P165 : ∀ t, GG p e below T27 (mkF m 58 #[.val (.int pa), .val (.int pb), .val (.int pc_), .val (.int pd_), .val (.int pe), .val (.ref b2), .val (.ref b24), .val (.int (1 : Int32)), .unset, .unset, .unset, .unset] [(.int (1 : Int32)), (.ref b2)]) t → Steps p.tables e below s0 t := fun t kk_ => P164 t (by
      refine XS.istore X27.here hx rfl (hb hby at_52) rfl (l' := #[.val (.int pa), .val (.int pb), .val (.int pc_), .val (.int pd_), .val (.int pe), .val (.ref b2), .val (.ref b24), .val (.int (1 : Int32)), .unset, .unset, .unset, .unset]) rfl ?_
      refine XS.aload X27.here hx rfl (hb hby at_54) rfl rfl ?_
      refine XS.iload X27.here hx rfl (hb hby at_56) rfl ?_
      exact kk_)
    obtain ⟨cl166, Ar166, q166, S166, M166, Hs166, G166⟩ := id V_b2
    have hin166 := inb_of (j := (1 : Int32)) S166 ⟨by decide, by decide⟩
    have hat166 : cl166.slots[((1 : Int32)).toNatClampNeg]? = some (.int r_10) := Has.at Hs166 hin166 (rfl)
    have P167 : ∀ t, GG p e below T27 (mkF m 59 #[.val (.int pa), .val (.int pb), .val (.int pc_), .val (.int pd_), .val (.int pe), .val (.ref b2), .val (.ref b24), .val (.int (1 : Int32)), .unset, .unset, .unset, .unset] [(.int r_10)]) t → Steps p.tables e below s0 t := fun t kk_ => P165 t (by
      refine X27.caload hx (j := (1 : Int32)) (v := (.int r_10)) (Ar166.1) (State.isArrayOf_alike hZ.alike Ar166.2.1) Ar166.2.2 hin166 hat166 (g := (mkF m 58 #[.val (.int pa), .val (.int pb), .val (.int pc_), .val (.int pd_), .val (.int pe), .val (.ref b2), .val (.ref b24), .val (.int (1 : Int32)), .unset, .unset, .unset, .unset] [(.int (1 : Int32)), (.ref b2)])) rfl rfl (hb hby at_58) _ ?_
      exact kk_)
    have P168 : ∀ t, GG p e below T27 (mkF m 61 #[.val (.int pa), .val (.int pb), .val (.int pc_), .val (.int pd_), .val (.int pe), .val (.ref b2), .val (.ref b24), .val (.int (1 : Int32)), .unset, .unset, .unset, .unset] [(.int (34 : Int32)), (.int r_10)]) t → Steps p.tables e below s0 t := fun t kk_ => P167 t (by
      refine XS.bipush X27.here hx rfl (hb hby at_59) ?_
      exact kk_)
    by_cases hc61_169 : r_10 = (34 : Int32)
    ·
      have P170 : ∀ t, GG p e below T27 (mkF m 107 #[.val (.int pa), .val (.int pb), .val (.int pc_), .val (.int pd_), .val (.int pe), .val (.ref b2), .val (.ref b24), .val (.int (1 : Int32)), .val (.int (1 : Int32)), .val (.int (-1 : Int32)), .unset, .unset] [(.int (2 : Int32)), (.ref b2)]) t → Steps p.tables e below s0 t := fun t kk_ => P168 t (by
        refine XS.icmpNo X27.here hx rfl (hb hby at_61) rfl (teq (hc61_169 : r_10 = (34 : Int32))).2 ?_
        refine XS.iconst X27.here hx rfl (hb hby at_64) ?_
        refine XS.goto X27.here hx rfl (pc0 := 65) (pc' := 69) rfl (hb hby at_65) (by decide) (by decide) ?_
        refine XS.istore X27.here hx rfl (hb hby at_69) rfl (l' := #[.val (.int pa), .val (.int pb), .val (.int pc_), .val (.int pd_), .val (.int pe), .val (.ref b2), .val (.ref b24), .val (.int (1 : Int32)), .val (.int (1 : Int32)), .unset, .unset, .unset]) rfl ?_
        refine XS.iconst X27.here hx rfl (hb hby at_71) ?_
        refine XS.istore X27.here hx rfl (hb hby at_72) rfl (l' := #[.val (.int pa), .val (.int pb), .val (.int pc_), .val (.int pd_), .val (.int pe), .val (.ref b2), .val (.ref b24), .val (.int (1 : Int32)), .val (.int (1 : Int32)), .val (.int (-1 : Int32)), .unset, .unset]) rfl ?_
        refine XS.iload X27.here hx rfl (hb hby at_74) rfl ?_
        refine XS.iconst X27.here hx rfl (hb hby at_76) ?_
        refine XS.icmpYes X27.here hx rfl (pc0 := 77) (pc' := 98) rfl (hb hby at_77) rfl (flt ((by decide) : ¬ ((1 : Int32) < (1 : Int32)))).2.1 (by decide) (by decide) ?_
        refine XS.iload X27.here hx rfl (hb hby at_98) rfl ?_
        refine XS.iconst X27.here hx rfl (hb hby at_100) ?_
        refine XS.icmpNo X27.here hx rfl (hb hby at_101) rfl (tlt ((by decide) : (1 : Int32) < (2 : Int32))).2.1 ?_
        refine XS.aload X27.here hx rfl (hb hby at_104) rfl rfl ?_
        refine XS.iconst X27.here hx rfl (hb hby at_106) ?_
        exact kk_)
      obtain ⟨cl171, Ar171, q171, S171, M171, Hs171, G171⟩ := id V_b2
      have hin171 := inb_of (j := (2 : Int32)) S171 ⟨by decide, by decide⟩
      have hat171 : cl171.slots[((2 : Int32)).toNatClampNeg]? = some (.int r_15) := Has.at Hs171 hin171 (rfl)
      have P172 : ∀ t, GG p e below T27 (mkF m 108 #[.val (.int pa), .val (.int pb), .val (.int pc_), .val (.int pd_), .val (.int pe), .val (.ref b2), .val (.ref b24), .val (.int (1 : Int32)), .val (.int (1 : Int32)), .val (.int (-1 : Int32)), .unset, .unset] [(.int r_15)]) t → Steps p.tables e below s0 t := fun t kk_ => P170 t (by
        refine X27.caload hx (j := (2 : Int32)) (v := (.int r_15)) (Ar171.1) (State.isArrayOf_alike hZ.alike Ar171.2.1) Ar171.2.2 hin171 hat171 (g := (mkF m 107 #[.val (.int pa), .val (.int pb), .val (.int pc_), .val (.int pd_), .val (.int pe), .val (.ref b2), .val (.ref b24), .val (.int (1 : Int32)), .val (.int (1 : Int32)), .val (.int (-1 : Int32)), .unset, .unset] [(.int (2 : Int32)), (.ref b2)])) rfl rfl (hb hby at_107) _ ?_
        exact kk_)
      have P173 : ∀ t, GG p e below T27 (mkF m 110 #[.val (.int pa), .val (.int pb), .val (.int pc_), .val (.int pd_), .val (.int pe), .val (.ref b2), .val (.ref b24), .val (.int (1 : Int32)), .val (.int (1 : Int32)), .val (.int (-1 : Int32)), .unset, .unset] [(.int (1 : Int32)), (.int r_15)]) t → Steps p.tables e below s0 t := fun t kk_ => P172 t (by
        refine XS.iload X27.here hx rfl (hb hby at_108) rfl ?_
        exact kk_)
      obtain ⟨_, _, ⟨T174, L174, k174, n174⟩, -, X174, ⟨Lc174, hQ174, l174, y174, z174⟩, st174⟩ := Jvm.LawKit.callS X27 hx (y := mn_24) hown (mw hZ hw 54 rfl) (mw hZ hw 55 rfl) (mw hZ hw 3 rfl) (mw hZ hw 56 rfl) (by decide) (backOf (W := 0) (rm_stp1 l Z a0 hw [] r_15 T27.heap n0 (Nat.le_trans Z0 K27.1)) hZ (ww hw 56 rfl) (ww hw 3 rfl) (by decide) (by decide)) (g := (mkF m 110 #[.val (.int pa), .val (.int pb), .val (.int pc_), .val (.int pd_), .val (.int pe), .val (.ref b2), .val (.ref b24), .val (.int (1 : Int32)), .val (.int (1 : Int32)), .val (.int (-1 : Int32)), .unset, .unset] [(.int (1 : Int32)), (.int r_15)])) rfl (by rw [hml]; rfl) (argsL := [(.int r_15), (.int (1 : Int32))]) (rest := []) (lenOf pd_14 rfl) rfl (by show 2 * 0 + _ ≤ _; exact Nat.le_of_eq rfl) (hb hby at_110) (fun _ _ => ⟨rfl, rfl, (by decide : 4 + 0 ≤ _), (by decide : 20 + 0 ≤ _)⟩)
      dsimp only [Pt.U, Pt.locs, Pt.cells, Pt.slots] at X174 l174 y174 z174 st174 hQ174
      subst l174 y174 z174
      obtain ⟨r_174, rfl, N174q, e174, po174_0⟩ := hQ174
      have N174 := Fr.app N27 N174q
      have P175 : ∀ t, GG p e below T174 (mkF m 113 #[.val (.int pa), .val (.int pb), .val (.int pc_), .val (.int pd_), .val (.int pe), .val (.ref b2), .val (.ref b24), .val (.int (1 : Int32)), .val (.int (1 : Int32)), .val (.int (-1 : Int32)), .unset, .unset] [(.int r_174)]) t → Steps p.tables e below s0 t := fun t kk_ => P173 t (st174 _ kk_)
      have res_174 := po174_0
      rcases res_174 with hcase | hcase
      ·
        obtain ⟨rfl, hm113⟩ := hcase
        have P176 : ∀ t, GG p e below T174 (mkF m 155 #[.val (.int pa), .val (.int pb), .val (.int pc_), .val (.int pd_), .val (.int pe), .val (.ref b2), .val (.ref b24), .val (.int (1 : Int32)), .val (.int (1 : Int32)), .val (.int (2 : Int32)), .val (.int (-1 : Int32)), .unset] [(.int (2 : Int32)), (.ref b2)]) t → Steps p.tables e below s0 t := fun t kk_ => P175 t (by
          refine XS.ifNo X174.here hx rfl (hb hby at_113) rfl ((if0 _ _).trans (feq ((by decide) : ¬ ((1 : Int32) = (0 : Int32)))).1) ?_
          refine XS.iconst X174.here hx rfl (hb hby at_116) ?_
          refine XS.istore X174.here hx rfl (hb hby at_117) rfl (l' := #[.val (.int pa), .val (.int pb), .val (.int pc_), .val (.int pd_), .val (.int pe), .val (.ref b2), .val (.ref b24), .val (.int (1 : Int32)), .val (.int (1 : Int32)), .val (.int (2 : Int32)), .unset, .unset]) rfl ?_
          refine XS.goto X174.here hx rfl (pc0 := 119) (pc' := 143) rfl (hb hby at_119) (by decide) (by decide) ?_
          refine XS.iconst X174.here hx rfl (hb hby at_143) ?_
          refine XS.istore X174.here hx rfl (hb hby at_144) rfl (l' := #[.val (.int pa), .val (.int pb), .val (.int pc_), .val (.int pd_), .val (.int pe), .val (.ref b2), .val (.ref b24), .val (.int (1 : Int32)), .val (.int (1 : Int32)), .val (.int (2 : Int32)), .val (.int (-1 : Int32)), .unset]) rfl ?_
          refine XS.iload X174.here hx rfl (hb hby at_146) rfl ?_
          refine XS.ifNo X174.here hx rfl (hb hby at_148) rfl ((if0 _ _).trans (flt ((by decide) : ¬ ((2 : Int32) < (0 : Int32)))).1) ?_
          refine XS.aload X174.here hx rfl (hb hby at_151) rfl rfl ?_
          refine XS.iload X174.here hx rfl (hb hby at_153) rfl ?_
          exact kk_)
        obtain ⟨cl177, Ar177, q177, S177, M177, Hs177, G177⟩ := id V_b2
        have hin177 := inb_of (j := (2 : Int32)) S177 ⟨by decide, by decide⟩
        have hat177 : cl177.slots[((2 : Int32)).toNatClampNeg]? = some (.int r_15) := Has.at Hs177 hin177 (rfl)
        have P178 : ∀ t, GG p e below T174 (mkF m 156 #[.val (.int pa), .val (.int pb), .val (.int pc_), .val (.int pd_), .val (.int pe), .val (.ref b2), .val (.ref b24), .val (.int (1 : Int32)), .val (.int (1 : Int32)), .val (.int (2 : Int32)), .val (.int (-1 : Int32)), .unset] [(.int r_15)]) t → Steps p.tables e below s0 t := fun t kk_ => P176 t (by
          refine X174.caload hx (j := (2 : Int32)) (v := (.int r_15)) (by rw [e174]; exact Ar177.1) (State.isArrayOf_alike hZ.alike Ar177.2.1) Ar177.2.2 hin177 hat177 (g := (mkF m 155 #[.val (.int pa), .val (.int pb), .val (.int pc_), .val (.int pd_), .val (.int pe), .val (.ref b2), .val (.ref b24), .val (.int (1 : Int32)), .val (.int (1 : Int32)), .val (.int (2 : Int32)), .val (.int (-1 : Int32)), .unset] [(.int (2 : Int32)), (.ref b2)])) rfl rfl (hb hby at_155) _ ?_
          exact kk_)
        have P179 : ∀ t, GG p e below T174 (mkF m 158 #[.val (.int pa), .val (.int pb), .val (.int pc_), .val (.int pd_), .val (.int pe), .val (.ref b2), .val (.ref b24), .val (.int (1 : Int32)), .val (.int (1 : Int32)), .val (.int (2 : Int32)), .val (.int (-1 : Int32)), .unset] [(.int (1 : Int32)), (.int r_15)]) t → Steps p.tables e below s0 t := fun t kk_ => P178 t (by
          refine XS.iload X174.here hx rfl (hb hby at_156) rfl ?_
          exact kk_)
        obtain ⟨_, _, ⟨T180, L180, k180, n180⟩, -, X180, ⟨Lc180, hQ180, l180, y180, z180⟩, st180⟩ := Jvm.LawKit.callS X174 hx (y := mn_17) hown (mw hZ hw 57 rfl) (mw hZ hw 58 rfl) (mw hZ hw 3 rfl) (mw hZ hw 59 rfl) (by decide) (backOf (W := 0) (rm_mat1 l Z a0 hw [] r_15 T27.heap n0 (Nat.le_trans Z0 K27.1)) hZ (ww hw 59 rfl) (ww hw 3 rfl) (by decide) (by decide)) (g := (mkF m 158 #[.val (.int pa), .val (.int pb), .val (.int pc_), .val (.int pd_), .val (.int pe), .val (.ref b2), .val (.ref b24), .val (.int (1 : Int32)), .val (.int (1 : Int32)), .val (.int (2 : Int32)), .val (.int (-1 : Int32)), .unset] [(.int (1 : Int32)), (.int r_15)])) rfl (by rw [hml]; rfl) (argsL := [(.int r_15), (.int (1 : Int32))]) (rest := []) (lenOf pd_14 rfl) rfl (by show 2 * 0 + _ ≤ _; exact Nat.le_of_eq rfl) (hb hby at_158) (fun _ _ => ⟨rfl, e174, (by decide : 4 + 0 ≤ _), (by decide : 20 + 0 ≤ _)⟩)
        dsimp only [Pt.U, Pt.locs, Pt.cells, Pt.slots] at X180 l180 y180 z180 st180 hQ180
        subst l180 y180 z180
        obtain ⟨r_180, rfl, N180q, e180, po180_0⟩ := hQ180
        have N180 := Fr.app N174 N180q
        have P181 : ∀ t, GG p e below T180 (mkF m 161 #[.val (.int pa), .val (.int pb), .val (.int pc_), .val (.int pd_), .val (.int pe), .val (.ref b2), .val (.ref b24), .val (.int (1 : Int32)), .val (.int (1 : Int32)), .val (.int (2 : Int32)), .val (.int (-1 : Int32)), .unset] [(.int r_180)]) t → Steps p.tables e below s0 t := fun t kk_ => P179 t (st180 _ kk_)
        have res_180 := po180_0
        rcases res_180 with hcase | hcase
        ·
          obtain ⟨rfl, hm161⟩ := hcase
          have P182 : ∀ t, GG p e below T180 (mkF m 172 #[.val (.int pa), .val (.int pb), .val (.int pc_), .val (.int pd_), .val (.int pe), .val (.ref b2), .val (.ref b24), .val (.int (1 : Int32)), .val (.int (1 : Int32)), .val (.int (2 : Int32)), .val (.int (2 : Int32)), .unset] [(.int (1 : Int32)), (.ref b24)]) t → Steps p.tables e below s0 t := fun t kk_ => P181 t (by
            refine XS.ifNo X180.here hx rfl (hb hby at_161) rfl ((if0 _ _).trans (feq ((by decide) : ¬ ((1 : Int32) = (0 : Int32)))).1) ?_
            refine XS.iload X180.here hx rfl (hb hby at_164) rfl ?_
            refine XS.istore X180.here hx rfl (hb hby at_166) rfl (l' := #[.val (.int pa), .val (.int pb), .val (.int pc_), .val (.int pd_), .val (.int pe), .val (.ref b2), .val (.ref b24), .val (.int (1 : Int32)), .val (.int (1 : Int32)), .val (.int (2 : Int32)), .val (.int (2 : Int32)), .unset]) rfl ?_
            refine XS.aload X180.here hx rfl (hb hby at_168) rfl rfl ?_
            refine XS.iload X180.here hx rfl (hb hby at_170) rfl ?_
            exact kk_)
          obtain ⟨_, _, ⟨T183, L183, k183, n183⟩, -, X183, ⟨Lc183, hQ183, l183, y183, z183⟩, st183⟩ := Jvm.LawKit.callS X180 hx (y := mn_25) hown (mw hZ hw 60 rfl) (mw hZ hw 61 rfl) (mw hZ hw 62 rfl) (mw hZ hw 63 rfl) (by decide) (backOf (W := 0) (rm_clo1 l Z a0 hw [] b24 t_27 kb_27 cd_27 nB_27 vs_27 r_5 r_10 r_15 r_20 G1 G3 T27.heap n0 (Nat.le_trans Z0 K27.1) E_b24 F_value_b24 F_coder_b24 V_t_27 S_COMPACT_STRINGS S__assertionsDisabled S_HI_BYTE_SHIFT S_LO_BYTE_SHIFT S_SIOOBE_FORMATTER OL hz rG3 s4_27 ir_5 ir_10 ir_15 ir_20) hZ (ww hw 63 rfl) (ww hw 62 rfl) (by decide) (by decide)) (g := (mkF m 172 #[.val (.int pa), .val (.int pb), .val (.int pc_), .val (.int pd_), .val (.int pe), .val (.ref b2), .val (.ref b24), .val (.int (1 : Int32)), .val (.int (1 : Int32)), .val (.int (2 : Int32)), .val (.int (2 : Int32)), .unset] [(.int (1 : Int32)), (.ref b24)])) rfl (by rw [hml]; rfl) (argsL := [(.ref b24), (.int (1 : Int32))]) (rest := []) (lenOf pd_18 rfl) rfl (by show 2 * 0 + _ ≤ _; exact Nat.le_of_eq rfl) (hb hby at_172) (fun _ _ => ⟨rfl, e180, (by decide : 4 + 0 ≤ _), (by decide : 20 + 0 ≤ _)⟩)
          dsimp only [Pt.U, Pt.locs, Pt.cells, Pt.slots] at X183 l183 y183 z183 st183 hQ183
          subst l183 y183 z183
          obtain ⟨r_183, rfl, N183q, e183, po183_0⟩ := hQ183
          have N183 := Fr.app N180 N183q
          have P184 : ∀ t, GG p e below T183 (mkF m 175 #[.val (.int pa), .val (.int pb), .val (.int pc_), .val (.int pd_), .val (.int pe), .val (.ref b2), .val (.ref b24), .val (.int (1 : Int32)), .val (.int (1 : Int32)), .val (.int (2 : Int32)), .val (.int (2 : Int32)), .unset] [(.int r_183)]) t → Steps p.tables e below s0 t := fun t kk_ => P182 t (st183 _ kk_)
          have res_183 := po183_0
          have P185 : ∀ t, GG p e below T183 (mkF m 189 #[.val (.int pa), .val (.int pb), .val (.int pc_), .val (.int pd_), .val (.int pe), .val (.ref b2), .val (.ref b24), .val (.int (1 : Int32)), .val (.int (1 : Int32)), .val (.int (2 : Int32)), .val (.int (2 : Int32)), .val (.int r_183)] [(.int (1 : Int32))]) t → Steps p.tables e below s0 t := fun t kk_ => P184 t (by
            refine XS.istore X183.here hx rfl (hb hby at_175) rfl (l' := #[.val (.int pa), .val (.int pb), .val (.int pc_), .val (.int pd_), .val (.int pe), .val (.ref b2), .val (.ref b24), .val (.int (1 : Int32)), .val (.int (1 : Int32)), .val (.int (2 : Int32)), .val (.int (2 : Int32)), .val (.int r_183)]) rfl ?_
            refine XS.iload X183.here hx rfl (hb hby at_177) rfl ?_
            refine XS.iload X183.here hx rfl (hb hby at_179) rfl ?_
            refine XS.icmpNo X183.here hx rfl (hb hby at_181) rfl (teq ((by rw [res_183]; simp [clo, hc61_169, hm113, hm161]) : r_183 = (2 : Int32))).2 ?_
            refine XS.iconst X183.here hx rfl (hb hby at_184) ?_
            refine XS.goto X183.here hx rfl (pc0 := 185) (pc' := 189) rfl (hb hby at_185) (by decide) (by decide) ?_
            exact kk_)
          subst hs0
          obtain ⟨fs, hr, hrun, hended, hW, hsame⟩ := X183.leave (v := some (.int (nar .boolean (1 : Int32)))) (fun h => by rw [Bd.returns] at h; cases h)
          refine ⟨_, _, P185 _ ?_, hrun, hended, _, _, rfl, ?_, ⟨_, rfl⟩, hW, hsame.mono (by decide) (by decide)⟩
          · show GG p e below T183 (mkF m 189 #[.val (.int pa), .val (.int pb), .val (.int pc_), .val (.int pd_), .val (.int pe), .val (.ref b2), .val (.ref b24), .val (.int (1 : Int32)), .val (.int (1 : Int32)), .val (.int (2 : Int32)), .val (.int (2 : Int32)), .val (.int r_183)] [(.int (1 : Int32))]) _
            exact retN X183 hx (t := .boolean) Bd.returns (by simp) (hb hby at_189) hr
          · show Q_law Z pa pb pc_ pd_ pe G1 G3 h0 n0 _ T183.heap _
            rw [e183]
            exact ⟨rfl, N183, K27⟩
        ·
          obtain ⟨rfl, hm161⟩ := hcase
          have P186 : ∀ t, GG p e below T180 (mkF m 172 #[.val (.int pa), .val (.int pb), .val (.int pc_), .val (.int pd_), .val (.int pe), .val (.ref b2), .val (.ref b24), .val (.int (1 : Int32)), .val (.int (1 : Int32)), .val (.int (2 : Int32)), .val (.int (-1 : Int32)), .unset] [(.int (1 : Int32)), (.ref b24)]) t → Steps p.tables e below s0 t := fun t kk_ => P181 t (by
            refine XS.ifYes X180.here hx rfl (pc0 := 161) (pc' := 168) rfl (hb hby at_161) rfl ((if0 _ _).trans (teq ((by decide) : (0 : Int32) = (0 : Int32))).1) (by decide) (by decide) ?_
            refine XS.aload X180.here hx rfl (hb hby at_168) rfl rfl ?_
            refine XS.iload X180.here hx rfl (hb hby at_170) rfl ?_
            exact kk_)
          obtain ⟨_, _, ⟨T187, L187, k187, n187⟩, -, X187, ⟨Lc187, hQ187, l187, y187, z187⟩, st187⟩ := Jvm.LawKit.callS X180 hx (y := mn_25) hown (mw hZ hw 60 rfl) (mw hZ hw 61 rfl) (mw hZ hw 62 rfl) (mw hZ hw 63 rfl) (by decide) (backOf (W := 0) (rm_clo1 l Z a0 hw [] b24 t_27 kb_27 cd_27 nB_27 vs_27 r_5 r_10 r_15 r_20 G1 G3 T27.heap n0 (Nat.le_trans Z0 K27.1) E_b24 F_value_b24 F_coder_b24 V_t_27 S_COMPACT_STRINGS S__assertionsDisabled S_HI_BYTE_SHIFT S_LO_BYTE_SHIFT S_SIOOBE_FORMATTER OL hz rG3 s4_27 ir_5 ir_10 ir_15 ir_20) hZ (ww hw 63 rfl) (ww hw 62 rfl) (by decide) (by decide)) (g := (mkF m 172 #[.val (.int pa), .val (.int pb), .val (.int pc_), .val (.int pd_), .val (.int pe), .val (.ref b2), .val (.ref b24), .val (.int (1 : Int32)), .val (.int (1 : Int32)), .val (.int (2 : Int32)), .val (.int (-1 : Int32)), .unset] [(.int (1 : Int32)), (.ref b24)])) rfl (by rw [hml]; rfl) (argsL := [(.ref b24), (.int (1 : Int32))]) (rest := []) (lenOf pd_18 rfl) rfl (by show 2 * 0 + _ ≤ _; exact Nat.le_of_eq rfl) (hb hby at_172) (fun _ _ => ⟨rfl, e180, (by decide : 4 + 0 ≤ _), (by decide : 20 + 0 ≤ _)⟩)
          dsimp only [Pt.U, Pt.locs, Pt.cells, Pt.slots] at X187 l187 y187 z187 st187 hQ187
          subst l187 y187 z187
          obtain ⟨r_187, rfl, N187q, e187, po187_0⟩ := hQ187
          have N187 := Fr.app N180 N187q
          have P188 : ∀ t, GG p e below T187 (mkF m 175 #[.val (.int pa), .val (.int pb), .val (.int pc_), .val (.int pd_), .val (.int pe), .val (.ref b2), .val (.ref b24), .val (.int (1 : Int32)), .val (.int (1 : Int32)), .val (.int (2 : Int32)), .val (.int (-1 : Int32)), .unset] [(.int r_187)]) t → Steps p.tables e below s0 t := fun t kk_ => P186 t (st187 _ kk_)
          have res_187 := po187_0
          have P189 : ∀ t, GG p e below T187 (mkF m 189 #[.val (.int pa), .val (.int pb), .val (.int pc_), .val (.int pd_), .val (.int pe), .val (.ref b2), .val (.ref b24), .val (.int (1 : Int32)), .val (.int (1 : Int32)), .val (.int (2 : Int32)), .val (.int (-1 : Int32)), .val (.int r_187)] [(.int (1 : Int32))]) t → Steps p.tables e below s0 t := fun t kk_ => P188 t (by
            refine XS.istore X187.here hx rfl (hb hby at_175) rfl (l' := #[.val (.int pa), .val (.int pb), .val (.int pc_), .val (.int pd_), .val (.int pe), .val (.ref b2), .val (.ref b24), .val (.int (1 : Int32)), .val (.int (1 : Int32)), .val (.int (2 : Int32)), .val (.int (-1 : Int32)), .val (.int r_187)]) rfl ?_
            refine XS.iload X187.here hx rfl (hb hby at_177) rfl ?_
            refine XS.iload X187.here hx rfl (hb hby at_179) rfl ?_
            refine XS.icmpNo X187.here hx rfl (hb hby at_181) rfl (teq ((absurd hm113 hm161) : r_187 = (-1 : Int32))).2 ?_
            refine XS.iconst X187.here hx rfl (hb hby at_184) ?_
            refine XS.goto X187.here hx rfl (pc0 := 185) (pc' := 189) rfl (hb hby at_185) (by decide) (by decide) ?_
            exact kk_)
          subst hs0
          obtain ⟨fs, hr, hrun, hended, hW, hsame⟩ := X187.leave (v := some (.int (nar .boolean (1 : Int32)))) (fun h => by rw [Bd.returns] at h; cases h)
          refine ⟨_, _, P189 _ ?_, hrun, hended, _, _, rfl, ?_, ⟨_, rfl⟩, hW, hsame.mono (by decide) (by decide)⟩
          · show GG p e below T187 (mkF m 189 #[.val (.int pa), .val (.int pb), .val (.int pc_), .val (.int pd_), .val (.int pe), .val (.ref b2), .val (.ref b24), .val (.int (1 : Int32)), .val (.int (1 : Int32)), .val (.int (2 : Int32)), .val (.int (-1 : Int32)), .val (.int r_187)] [(.int (1 : Int32))]) _
            exact retN X187 hx (t := .boolean) Bd.returns (by simp) (hb hby at_189) hr
          · show Q_law Z pa pb pc_ pd_ pe G1 G3 h0 n0 _ T187.heap _
            rw [e187]
            exact ⟨rfl, N187, K27⟩
      ·
        obtain ⟨rfl, hm113⟩ := hcase
        have P190 : ∀ t, GG p e below T174 (mkF m 131 #[.val (.int pa), .val (.int pb), .val (.int pc_), .val (.int pd_), .val (.int pe), .val (.ref b2), .val (.ref b24), .val (.int (1 : Int32)), .val (.int (1 : Int32)), .val (.int (-1 : Int32)), .unset, .unset] [(.int (3 : Int32)), (.ref b2)]) t → Steps p.tables e below s0 t := fun t kk_ => P175 t (by
          refine XS.ifYes X174.here hx rfl (pc0 := 113) (pc' := 122) rfl (hb hby at_113) rfl ((if0 _ _).trans (teq ((by decide) : (0 : Int32) = (0 : Int32))).1) (by decide) (by decide) ?_
          refine XS.iload X174.here hx rfl (hb hby at_122) rfl ?_
          refine XS.iconst X174.here hx rfl (hb hby at_124) ?_
          refine XS.icmpNo X174.here hx rfl (hb hby at_125) rfl (tlt ((by decide) : (1 : Int32) < (3 : Int32))).2.1 ?_
          refine XS.aload X174.here hx rfl (hb hby at_128) rfl rfl ?_
          refine XS.iconst X174.here hx rfl (hb hby at_130) ?_
          exact kk_)
        obtain ⟨cl191, Ar191, q191, S191, M191, Hs191, G191⟩ := id V_b2
        have hin191 := inb_of (j := (3 : Int32)) S191 ⟨by decide, by decide⟩
        have hat191 : cl191.slots[((3 : Int32)).toNatClampNeg]? = some (.int r_20) := Has.at Hs191 hin191 (rfl)
        have P192 : ∀ t, GG p e below T174 (mkF m 132 #[.val (.int pa), .val (.int pb), .val (.int pc_), .val (.int pd_), .val (.int pe), .val (.ref b2), .val (.ref b24), .val (.int (1 : Int32)), .val (.int (1 : Int32)), .val (.int (-1 : Int32)), .unset, .unset] [(.int r_20)]) t → Steps p.tables e below s0 t := fun t kk_ => P190 t (by
          refine X174.caload hx (j := (3 : Int32)) (v := (.int r_20)) (by rw [e174]; exact Ar191.1) (State.isArrayOf_alike hZ.alike Ar191.2.1) Ar191.2.2 hin191 hat191 (g := (mkF m 131 #[.val (.int pa), .val (.int pb), .val (.int pc_), .val (.int pd_), .val (.int pe), .val (.ref b2), .val (.ref b24), .val (.int (1 : Int32)), .val (.int (1 : Int32)), .val (.int (-1 : Int32)), .unset, .unset] [(.int (3 : Int32)), (.ref b2)])) rfl rfl (hb hby at_131) _ ?_
          exact kk_)
        have P193 : ∀ t, GG p e below T174 (mkF m 134 #[.val (.int pa), .val (.int pb), .val (.int pc_), .val (.int pd_), .val (.int pe), .val (.ref b2), .val (.ref b24), .val (.int (1 : Int32)), .val (.int (1 : Int32)), .val (.int (-1 : Int32)), .unset, .unset] [(.int (1 : Int32)), (.int r_20)]) t → Steps p.tables e below s0 t := fun t kk_ => P192 t (by
          refine XS.iload X174.here hx rfl (hb hby at_132) rfl ?_
          exact kk_)
        obtain ⟨_, _, ⟨T194, L194, k194, n194⟩, -, X194, ⟨Lc194, hQ194, l194, y194, z194⟩, st194⟩ := Jvm.LawKit.callS X174 hx (y := mn_24) hown (mw hZ hw 54 rfl) (mw hZ hw 55 rfl) (mw hZ hw 3 rfl) (mw hZ hw 56 rfl) (by decide) (backOf (W := 0) (rm_stp1 l Z a0 hw [] r_20 T27.heap n0 (Nat.le_trans Z0 K27.1)) hZ (ww hw 56 rfl) (ww hw 3 rfl) (by decide) (by decide)) (g := (mkF m 134 #[.val (.int pa), .val (.int pb), .val (.int pc_), .val (.int pd_), .val (.int pe), .val (.ref b2), .val (.ref b24), .val (.int (1 : Int32)), .val (.int (1 : Int32)), .val (.int (-1 : Int32)), .unset, .unset] [(.int (1 : Int32)), (.int r_20)])) rfl (by rw [hml]; rfl) (argsL := [(.int r_20), (.int (1 : Int32))]) (rest := []) (lenOf pd_14 rfl) rfl (by show 2 * 0 + _ ≤ _; exact Nat.le_of_eq rfl) (hb hby at_134) (fun _ _ => ⟨rfl, e174, (by decide : 4 + 0 ≤ _), (by decide : 20 + 0 ≤ _)⟩)
        dsimp only [Pt.U, Pt.locs, Pt.cells, Pt.slots] at X194 l194 y194 z194 st194 hQ194
        subst l194 y194 z194
        obtain ⟨r_194, rfl, N194q, e194, po194_0⟩ := hQ194
        have N194 := Fr.app N174 N194q
        have P195 : ∀ t, GG p e below T194 (mkF m 137 #[.val (.int pa), .val (.int pb), .val (.int pc_), .val (.int pd_), .val (.int pe), .val (.ref b2), .val (.ref b24), .val (.int (1 : Int32)), .val (.int (1 : Int32)), .val (.int (-1 : Int32)), .unset, .unset] [(.int r_194)]) t → Steps p.tables e below s0 t := fun t kk_ => P193 t (st194 _ kk_)
        have res_194 := po194_0
        rcases res_194 with hcase | hcase
        ·
          obtain ⟨rfl, hm137⟩ := hcase
          have P196 : ∀ t, GG p e below T194 (mkF m 155 #[.val (.int pa), .val (.int pb), .val (.int pc_), .val (.int pd_), .val (.int pe), .val (.ref b2), .val (.ref b24), .val (.int (1 : Int32)), .val (.int (1 : Int32)), .val (.int (3 : Int32)), .val (.int (-1 : Int32)), .unset] [(.int (3 : Int32)), (.ref b2)]) t → Steps p.tables e below s0 t := fun t kk_ => P195 t (by
            refine XS.ifNo X194.here hx rfl (hb hby at_137) rfl ((if0 _ _).trans (feq ((by decide) : ¬ ((1 : Int32) = (0 : Int32)))).1) ?_
            refine XS.iconst X194.here hx rfl (hb hby at_140) ?_
            refine XS.istore X194.here hx rfl (hb hby at_141) rfl (l' := #[.val (.int pa), .val (.int pb), .val (.int pc_), .val (.int pd_), .val (.int pe), .val (.ref b2), .val (.ref b24), .val (.int (1 : Int32)), .val (.int (1 : Int32)), .val (.int (3 : Int32)), .unset, .unset]) rfl ?_
            refine XS.iconst X194.here hx rfl (hb hby at_143) ?_
            refine XS.istore X194.here hx rfl (hb hby at_144) rfl (l' := #[.val (.int pa), .val (.int pb), .val (.int pc_), .val (.int pd_), .val (.int pe), .val (.ref b2), .val (.ref b24), .val (.int (1 : Int32)), .val (.int (1 : Int32)), .val (.int (3 : Int32)), .val (.int (-1 : Int32)), .unset]) rfl ?_
            refine XS.iload X194.here hx rfl (hb hby at_146) rfl ?_
            refine XS.ifNo X194.here hx rfl (hb hby at_148) rfl ((if0 _ _).trans (flt ((by decide) : ¬ ((3 : Int32) < (0 : Int32)))).1) ?_
            refine XS.aload X194.here hx rfl (hb hby at_151) rfl rfl ?_
            refine XS.iload X194.here hx rfl (hb hby at_153) rfl ?_
            exact kk_)
          obtain ⟨cl197, Ar197, q197, S197, M197, Hs197, G197⟩ := id V_b2
          have hin197 := inb_of (j := (3 : Int32)) S197 ⟨by decide, by decide⟩
          have hat197 : cl197.slots[((3 : Int32)).toNatClampNeg]? = some (.int r_20) := Has.at Hs197 hin197 (rfl)
          have P198 : ∀ t, GG p e below T194 (mkF m 156 #[.val (.int pa), .val (.int pb), .val (.int pc_), .val (.int pd_), .val (.int pe), .val (.ref b2), .val (.ref b24), .val (.int (1 : Int32)), .val (.int (1 : Int32)), .val (.int (3 : Int32)), .val (.int (-1 : Int32)), .unset] [(.int r_20)]) t → Steps p.tables e below s0 t := fun t kk_ => P196 t (by
            refine X194.caload hx (j := (3 : Int32)) (v := (.int r_20)) (by rw [e194]; exact Ar197.1) (State.isArrayOf_alike hZ.alike Ar197.2.1) Ar197.2.2 hin197 hat197 (g := (mkF m 155 #[.val (.int pa), .val (.int pb), .val (.int pc_), .val (.int pd_), .val (.int pe), .val (.ref b2), .val (.ref b24), .val (.int (1 : Int32)), .val (.int (1 : Int32)), .val (.int (3 : Int32)), .val (.int (-1 : Int32)), .unset] [(.int (3 : Int32)), (.ref b2)])) rfl rfl (hb hby at_155) _ ?_
            exact kk_)
          have P199 : ∀ t, GG p e below T194 (mkF m 158 #[.val (.int pa), .val (.int pb), .val (.int pc_), .val (.int pd_), .val (.int pe), .val (.ref b2), .val (.ref b24), .val (.int (1 : Int32)), .val (.int (1 : Int32)), .val (.int (3 : Int32)), .val (.int (-1 : Int32)), .unset] [(.int (1 : Int32)), (.int r_20)]) t → Steps p.tables e below s0 t := fun t kk_ => P198 t (by
            refine XS.iload X194.here hx rfl (hb hby at_156) rfl ?_
            exact kk_)
          obtain ⟨_, _, ⟨T200, L200, k200, n200⟩, -, X200, ⟨Lc200, hQ200, l200, y200, z200⟩, st200⟩ := Jvm.LawKit.callS X194 hx (y := mn_17) hown (mw hZ hw 57 rfl) (mw hZ hw 58 rfl) (mw hZ hw 3 rfl) (mw hZ hw 59 rfl) (by decide) (backOf (W := 0) (rm_mat1 l Z a0 hw [] r_20 T27.heap n0 (Nat.le_trans Z0 K27.1)) hZ (ww hw 59 rfl) (ww hw 3 rfl) (by decide) (by decide)) (g := (mkF m 158 #[.val (.int pa), .val (.int pb), .val (.int pc_), .val (.int pd_), .val (.int pe), .val (.ref b2), .val (.ref b24), .val (.int (1 : Int32)), .val (.int (1 : Int32)), .val (.int (3 : Int32)), .val (.int (-1 : Int32)), .unset] [(.int (1 : Int32)), (.int r_20)])) rfl (by rw [hml]; rfl) (argsL := [(.int r_20), (.int (1 : Int32))]) (rest := []) (lenOf pd_14 rfl) rfl (by show 2 * 0 + _ ≤ _; exact Nat.le_of_eq rfl) (hb hby at_158) (fun _ _ => ⟨rfl, e194, (by decide : 4 + 0 ≤ _), (by decide : 20 + 0 ≤ _)⟩)
          dsimp only [Pt.U, Pt.locs, Pt.cells, Pt.slots] at X200 l200 y200 z200 st200 hQ200
          subst l200 y200 z200
          obtain ⟨r_200, rfl, N200q, e200, po200_0⟩ := hQ200
          have N200 := Fr.app N194 N200q
          have P201 : ∀ t, GG p e below T200 (mkF m 161 #[.val (.int pa), .val (.int pb), .val (.int pc_), .val (.int pd_), .val (.int pe), .val (.ref b2), .val (.ref b24), .val (.int (1 : Int32)), .val (.int (1 : Int32)), .val (.int (3 : Int32)), .val (.int (-1 : Int32)), .unset] [(.int r_200)]) t → Steps p.tables e below s0 t := fun t kk_ => P199 t (st200 _ kk_)
          have res_200 := po200_0
          rcases res_200 with hcase | hcase
          ·
            obtain ⟨rfl, hm161⟩ := hcase
            have P202 : ∀ t, GG p e below T200 (mkF m 172 #[.val (.int pa), .val (.int pb), .val (.int pc_), .val (.int pd_), .val (.int pe), .val (.ref b2), .val (.ref b24), .val (.int (1 : Int32)), .val (.int (1 : Int32)), .val (.int (3 : Int32)), .val (.int (3 : Int32)), .unset] [(.int (1 : Int32)), (.ref b24)]) t → Steps p.tables e below s0 t := fun t kk_ => P201 t (by
              refine XS.ifNo X200.here hx rfl (hb hby at_161) rfl ((if0 _ _).trans (feq ((by decide) : ¬ ((1 : Int32) = (0 : Int32)))).1) ?_
              refine XS.iload X200.here hx rfl (hb hby at_164) rfl ?_
              refine XS.istore X200.here hx rfl (hb hby at_166) rfl (l' := #[.val (.int pa), .val (.int pb), .val (.int pc_), .val (.int pd_), .val (.int pe), .val (.ref b2), .val (.ref b24), .val (.int (1 : Int32)), .val (.int (1 : Int32)), .val (.int (3 : Int32)), .val (.int (3 : Int32)), .unset]) rfl ?_
              refine XS.aload X200.here hx rfl (hb hby at_168) rfl rfl ?_
              refine XS.iload X200.here hx rfl (hb hby at_170) rfl ?_
              exact kk_)
            obtain ⟨_, _, ⟨T203, L203, k203, n203⟩, -, X203, ⟨Lc203, hQ203, l203, y203, z203⟩, st203⟩ := Jvm.LawKit.callS X200 hx (y := mn_25) hown (mw hZ hw 60 rfl) (mw hZ hw 61 rfl) (mw hZ hw 62 rfl) (mw hZ hw 63 rfl) (by decide) (backOf (W := 0) (rm_clo1 l Z a0 hw [] b24 t_27 kb_27 cd_27 nB_27 vs_27 r_5 r_10 r_15 r_20 G1 G3 T27.heap n0 (Nat.le_trans Z0 K27.1) E_b24 F_value_b24 F_coder_b24 V_t_27 S_COMPACT_STRINGS S__assertionsDisabled S_HI_BYTE_SHIFT S_LO_BYTE_SHIFT S_SIOOBE_FORMATTER OL hz rG3 s4_27 ir_5 ir_10 ir_15 ir_20) hZ (ww hw 63 rfl) (ww hw 62 rfl) (by decide) (by decide)) (g := (mkF m 172 #[.val (.int pa), .val (.int pb), .val (.int pc_), .val (.int pd_), .val (.int pe), .val (.ref b2), .val (.ref b24), .val (.int (1 : Int32)), .val (.int (1 : Int32)), .val (.int (3 : Int32)), .val (.int (3 : Int32)), .unset] [(.int (1 : Int32)), (.ref b24)])) rfl (by rw [hml]; rfl) (argsL := [(.ref b24), (.int (1 : Int32))]) (rest := []) (lenOf pd_18 rfl) rfl (by show 2 * 0 + _ ≤ _; exact Nat.le_of_eq rfl) (hb hby at_172) (fun _ _ => ⟨rfl, e200, (by decide : 4 + 0 ≤ _), (by decide : 20 + 0 ≤ _)⟩)
            dsimp only [Pt.U, Pt.locs, Pt.cells, Pt.slots] at X203 l203 y203 z203 st203 hQ203
            subst l203 y203 z203
            obtain ⟨r_203, rfl, N203q, e203, po203_0⟩ := hQ203
            have N203 := Fr.app N200 N203q
            have P204 : ∀ t, GG p e below T203 (mkF m 175 #[.val (.int pa), .val (.int pb), .val (.int pc_), .val (.int pd_), .val (.int pe), .val (.ref b2), .val (.ref b24), .val (.int (1 : Int32)), .val (.int (1 : Int32)), .val (.int (3 : Int32)), .val (.int (3 : Int32)), .unset] [(.int r_203)]) t → Steps p.tables e below s0 t := fun t kk_ => P202 t (st203 _ kk_)
            have res_203 := po203_0
            have P205 : ∀ t, GG p e below T203 (mkF m 189 #[.val (.int pa), .val (.int pb), .val (.int pc_), .val (.int pd_), .val (.int pe), .val (.ref b2), .val (.ref b24), .val (.int (1 : Int32)), .val (.int (1 : Int32)), .val (.int (3 : Int32)), .val (.int (3 : Int32)), .val (.int r_203)] [(.int (1 : Int32))]) t → Steps p.tables e below s0 t := fun t kk_ => P204 t (by
              refine XS.istore X203.here hx rfl (hb hby at_175) rfl (l' := #[.val (.int pa), .val (.int pb), .val (.int pc_), .val (.int pd_), .val (.int pe), .val (.ref b2), .val (.ref b24), .val (.int (1 : Int32)), .val (.int (1 : Int32)), .val (.int (3 : Int32)), .val (.int (3 : Int32)), .val (.int r_203)]) rfl ?_
              refine XS.iload X203.here hx rfl (hb hby at_177) rfl ?_
              refine XS.iload X203.here hx rfl (hb hby at_179) rfl ?_
              refine XS.icmpNo X203.here hx rfl (hb hby at_181) rfl (teq ((by rw [res_203]; simp [clo, hc61_169, hm113, hm137, hm161]) : r_203 = (3 : Int32))).2 ?_
              refine XS.iconst X203.here hx rfl (hb hby at_184) ?_
              refine XS.goto X203.here hx rfl (pc0 := 185) (pc' := 189) rfl (hb hby at_185) (by decide) (by decide) ?_
              exact kk_)
            subst hs0
            obtain ⟨fs, hr, hrun, hended, hW, hsame⟩ := X203.leave (v := some (.int (nar .boolean (1 : Int32)))) (fun h => by rw [Bd.returns] at h; cases h)
            refine ⟨_, _, P205 _ ?_, hrun, hended, _, _, rfl, ?_, ⟨_, rfl⟩, hW, hsame.mono (by decide) (by decide)⟩
            · show GG p e below T203 (mkF m 189 #[.val (.int pa), .val (.int pb), .val (.int pc_), .val (.int pd_), .val (.int pe), .val (.ref b2), .val (.ref b24), .val (.int (1 : Int32)), .val (.int (1 : Int32)), .val (.int (3 : Int32)), .val (.int (3 : Int32)), .val (.int r_203)] [(.int (1 : Int32))]) _
              exact retN X203 hx (t := .boolean) Bd.returns (by simp) (hb hby at_189) hr
            · show Q_law Z pa pb pc_ pd_ pe G1 G3 h0 n0 _ T203.heap _
              rw [e203]
              exact ⟨rfl, N203, K27⟩
          ·
            obtain ⟨rfl, hm161⟩ := hcase
            have P206 : ∀ t, GG p e below T200 (mkF m 172 #[.val (.int pa), .val (.int pb), .val (.int pc_), .val (.int pd_), .val (.int pe), .val (.ref b2), .val (.ref b24), .val (.int (1 : Int32)), .val (.int (1 : Int32)), .val (.int (3 : Int32)), .val (.int (-1 : Int32)), .unset] [(.int (1 : Int32)), (.ref b24)]) t → Steps p.tables e below s0 t := fun t kk_ => P201 t (by
              refine XS.ifYes X200.here hx rfl (pc0 := 161) (pc' := 168) rfl (hb hby at_161) rfl ((if0 _ _).trans (teq ((by decide) : (0 : Int32) = (0 : Int32))).1) (by decide) (by decide) ?_
              refine XS.aload X200.here hx rfl (hb hby at_168) rfl rfl ?_
              refine XS.iload X200.here hx rfl (hb hby at_170) rfl ?_
              exact kk_)
            obtain ⟨_, _, ⟨T207, L207, k207, n207⟩, -, X207, ⟨Lc207, hQ207, l207, y207, z207⟩, st207⟩ := Jvm.LawKit.callS X200 hx (y := mn_25) hown (mw hZ hw 60 rfl) (mw hZ hw 61 rfl) (mw hZ hw 62 rfl) (mw hZ hw 63 rfl) (by decide) (backOf (W := 0) (rm_clo1 l Z a0 hw [] b24 t_27 kb_27 cd_27 nB_27 vs_27 r_5 r_10 r_15 r_20 G1 G3 T27.heap n0 (Nat.le_trans Z0 K27.1) E_b24 F_value_b24 F_coder_b24 V_t_27 S_COMPACT_STRINGS S__assertionsDisabled S_HI_BYTE_SHIFT S_LO_BYTE_SHIFT S_SIOOBE_FORMATTER OL hz rG3 s4_27 ir_5 ir_10 ir_15 ir_20) hZ (ww hw 63 rfl) (ww hw 62 rfl) (by decide) (by decide)) (g := (mkF m 172 #[.val (.int pa), .val (.int pb), .val (.int pc_), .val (.int pd_), .val (.int pe), .val (.ref b2), .val (.ref b24), .val (.int (1 : Int32)), .val (.int (1 : Int32)), .val (.int (3 : Int32)), .val (.int (-1 : Int32)), .unset] [(.int (1 : Int32)), (.ref b24)])) rfl (by rw [hml]; rfl) (argsL := [(.ref b24), (.int (1 : Int32))]) (rest := []) (lenOf pd_18 rfl) rfl (by show 2 * 0 + _ ≤ _; exact Nat.le_of_eq rfl) (hb hby at_172) (fun _ _ => ⟨rfl, e200, (by decide : 4 + 0 ≤ _), (by decide : 20 + 0 ≤ _)⟩)
            dsimp only [Pt.U, Pt.locs, Pt.cells, Pt.slots] at X207 l207 y207 z207 st207 hQ207
            subst l207 y207 z207
            obtain ⟨r_207, rfl, N207q, e207, po207_0⟩ := hQ207
            have N207 := Fr.app N200 N207q
            have P208 : ∀ t, GG p e below T207 (mkF m 175 #[.val (.int pa), .val (.int pb), .val (.int pc_), .val (.int pd_), .val (.int pe), .val (.ref b2), .val (.ref b24), .val (.int (1 : Int32)), .val (.int (1 : Int32)), .val (.int (3 : Int32)), .val (.int (-1 : Int32)), .unset] [(.int r_207)]) t → Steps p.tables e below s0 t := fun t kk_ => P206 t (st207 _ kk_)
            have res_207 := po207_0
            have P209 : ∀ t, GG p e below T207 (mkF m 189 #[.val (.int pa), .val (.int pb), .val (.int pc_), .val (.int pd_), .val (.int pe), .val (.ref b2), .val (.ref b24), .val (.int (1 : Int32)), .val (.int (1 : Int32)), .val (.int (3 : Int32)), .val (.int (-1 : Int32)), .val (.int r_207)] [(.int (1 : Int32))]) t → Steps p.tables e below s0 t := fun t kk_ => P208 t (by
              refine XS.istore X207.here hx rfl (hb hby at_175) rfl (l' := #[.val (.int pa), .val (.int pb), .val (.int pc_), .val (.int pd_), .val (.int pe), .val (.ref b2), .val (.ref b24), .val (.int (1 : Int32)), .val (.int (1 : Int32)), .val (.int (3 : Int32)), .val (.int (-1 : Int32)), .val (.int r_207)]) rfl ?_
              refine XS.iload X207.here hx rfl (hb hby at_177) rfl ?_
              refine XS.iload X207.here hx rfl (hb hby at_179) rfl ?_
              refine XS.icmpNo X207.here hx rfl (hb hby at_181) rfl (teq ((absurd hm137 hm161) : r_207 = (-1 : Int32))).2 ?_
              refine XS.iconst X207.here hx rfl (hb hby at_184) ?_
              refine XS.goto X207.here hx rfl (pc0 := 185) (pc' := 189) rfl (hb hby at_185) (by decide) (by decide) ?_
              exact kk_)
            subst hs0
            obtain ⟨fs, hr, hrun, hended, hW, hsame⟩ := X207.leave (v := some (.int (nar .boolean (1 : Int32)))) (fun h => by rw [Bd.returns] at h; cases h)
            refine ⟨_, _, P209 _ ?_, hrun, hended, _, _, rfl, ?_, ⟨_, rfl⟩, hW, hsame.mono (by decide) (by decide)⟩
            · show GG p e below T207 (mkF m 189 #[.val (.int pa), .val (.int pb), .val (.int pc_), .val (.int pd_), .val (.int pe), .val (.ref b2), .val (.ref b24), .val (.int (1 : Int32)), .val (.int (1 : Int32)), .val (.int (3 : Int32)), .val (.int (-1 : Int32)), .val (.int r_207)] [(.int (1 : Int32))]) _
              exact retN X207 hx (t := .boolean) Bd.returns (by simp) (hb hby at_189) hr
            · show Q_law Z pa pb pc_ pd_ pe G1 G3 h0 n0 _ T207.heap _
              rw [e207]
              exact ⟨rfl, N207, K27⟩
        ·
          obtain ⟨rfl, hm137⟩ := hcase
          have P210 : ∀ t, GG p e below T194 (mkF m 172 #[.val (.int pa), .val (.int pb), .val (.int pc_), .val (.int pd_), .val (.int pe), .val (.ref b2), .val (.ref b24), .val (.int (1 : Int32)), .val (.int (1 : Int32)), .val (.int (-1 : Int32)), .val (.int (-1 : Int32)), .unset] [(.int (1 : Int32)), (.ref b24)]) t → Steps p.tables e below s0 t := fun t kk_ => P195 t (by
            refine XS.ifYes X194.here hx rfl (pc0 := 137) (pc' := 143) rfl (hb hby at_137) rfl ((if0 _ _).trans (teq ((by decide) : (0 : Int32) = (0 : Int32))).1) (by decide) (by decide) ?_
            refine XS.iconst X194.here hx rfl (hb hby at_143) ?_
            refine XS.istore X194.here hx rfl (hb hby at_144) rfl (l' := #[.val (.int pa), .val (.int pb), .val (.int pc_), .val (.int pd_), .val (.int pe), .val (.ref b2), .val (.ref b24), .val (.int (1 : Int32)), .val (.int (1 : Int32)), .val (.int (-1 : Int32)), .val (.int (-1 : Int32)), .unset]) rfl ?_
            refine XS.iload X194.here hx rfl (hb hby at_146) rfl ?_
            refine XS.ifYes X194.here hx rfl (pc0 := 148) (pc' := 168) rfl (hb hby at_148) rfl ((if0 _ _).trans (tlt ((by decide) : (-1 : Int32) < (0 : Int32))).1) (by decide) (by decide) ?_
            refine XS.aload X194.here hx rfl (hb hby at_168) rfl rfl ?_
            refine XS.iload X194.here hx rfl (hb hby at_170) rfl ?_
            exact kk_)
          obtain ⟨_, _, ⟨T211, L211, k211, n211⟩, -, X211, ⟨Lc211, hQ211, l211, y211, z211⟩, st211⟩ := Jvm.LawKit.callS X194 hx (y := mn_25) hown (mw hZ hw 60 rfl) (mw hZ hw 61 rfl) (mw hZ hw 62 rfl) (mw hZ hw 63 rfl) (by decide) (backOf (W := 0) (rm_clo1 l Z a0 hw [] b24 t_27 kb_27 cd_27 nB_27 vs_27 r_5 r_10 r_15 r_20 G1 G3 T27.heap n0 (Nat.le_trans Z0 K27.1) E_b24 F_value_b24 F_coder_b24 V_t_27 S_COMPACT_STRINGS S__assertionsDisabled S_HI_BYTE_SHIFT S_LO_BYTE_SHIFT S_SIOOBE_FORMATTER OL hz rG3 s4_27 ir_5 ir_10 ir_15 ir_20) hZ (ww hw 63 rfl) (ww hw 62 rfl) (by decide) (by decide)) (g := (mkF m 172 #[.val (.int pa), .val (.int pb), .val (.int pc_), .val (.int pd_), .val (.int pe), .val (.ref b2), .val (.ref b24), .val (.int (1 : Int32)), .val (.int (1 : Int32)), .val (.int (-1 : Int32)), .val (.int (-1 : Int32)), .unset] [(.int (1 : Int32)), (.ref b24)])) rfl (by rw [hml]; rfl) (argsL := [(.ref b24), (.int (1 : Int32))]) (rest := []) (lenOf pd_18 rfl) rfl (by show 2 * 0 + _ ≤ _; exact Nat.le_of_eq rfl) (hb hby at_172) (fun _ _ => ⟨rfl, e194, (by decide : 4 + 0 ≤ _), (by decide : 20 + 0 ≤ _)⟩)
          dsimp only [Pt.U, Pt.locs, Pt.cells, Pt.slots] at X211 l211 y211 z211 st211 hQ211
          subst l211 y211 z211
          obtain ⟨r_211, rfl, N211q, e211, po211_0⟩ := hQ211
          have N211 := Fr.app N194 N211q
          have P212 : ∀ t, GG p e below T211 (mkF m 175 #[.val (.int pa), .val (.int pb), .val (.int pc_), .val (.int pd_), .val (.int pe), .val (.ref b2), .val (.ref b24), .val (.int (1 : Int32)), .val (.int (1 : Int32)), .val (.int (-1 : Int32)), .val (.int (-1 : Int32)), .unset] [(.int r_211)]) t → Steps p.tables e below s0 t := fun t kk_ => P210 t (st211 _ kk_)
          have res_211 := po211_0
          have P213 : ∀ t, GG p e below T211 (mkF m 189 #[.val (.int pa), .val (.int pb), .val (.int pc_), .val (.int pd_), .val (.int pe), .val (.ref b2), .val (.ref b24), .val (.int (1 : Int32)), .val (.int (1 : Int32)), .val (.int (-1 : Int32)), .val (.int (-1 : Int32)), .val (.int r_211)] [(.int (1 : Int32))]) t → Steps p.tables e below s0 t := fun t kk_ => P212 t (by
            refine XS.istore X211.here hx rfl (hb hby at_175) rfl (l' := #[.val (.int pa), .val (.int pb), .val (.int pc_), .val (.int pd_), .val (.int pe), .val (.ref b2), .val (.ref b24), .val (.int (1 : Int32)), .val (.int (1 : Int32)), .val (.int (-1 : Int32)), .val (.int (-1 : Int32)), .val (.int r_211)]) rfl ?_
            refine XS.iload X211.here hx rfl (hb hby at_177) rfl ?_
            refine XS.iload X211.here hx rfl (hb hby at_179) rfl ?_
            refine XS.icmpNo X211.here hx rfl (hb hby at_181) rfl (teq ((by rw [res_211]; simp [clo, hc61_169, hm113, hm137]) : r_211 = (-1 : Int32))).2 ?_
            refine XS.iconst X211.here hx rfl (hb hby at_184) ?_
            refine XS.goto X211.here hx rfl (pc0 := 185) (pc' := 189) rfl (hb hby at_185) (by decide) (by decide) ?_
            exact kk_)
          subst hs0
          obtain ⟨fs, hr, hrun, hended, hW, hsame⟩ := X211.leave (v := some (.int (nar .boolean (1 : Int32)))) (fun h => by rw [Bd.returns] at h; cases h)
          refine ⟨_, _, P213 _ ?_, hrun, hended, _, _, rfl, ?_, ⟨_, rfl⟩, hW, hsame.mono (by decide) (by decide)⟩
          · show GG p e below T211 (mkF m 189 #[.val (.int pa), .val (.int pb), .val (.int pc_), .val (.int pd_), .val (.int pe), .val (.ref b2), .val (.ref b24), .val (.int (1 : Int32)), .val (.int (1 : Int32)), .val (.int (-1 : Int32)), .val (.int (-1 : Int32)), .val (.int r_211)] [(.int (1 : Int32))]) _
            exact retN X211 hx (t := .boolean) Bd.returns (by simp) (hb hby at_189) hr
          · show Q_law Z pa pb pc_ pd_ pe G1 G3 h0 n0 _ T211.heap _
            rw [e211]
            exact ⟨rfl, N211, K27⟩
    ·
      have P214 : ∀ t, GG p e below T27 (mkF m 107 #[.val (.int pa), .val (.int pb), .val (.int pc_), .val (.int pd_), .val (.int pe), .val (.ref b2), .val (.ref b24), .val (.int (1 : Int32)), .val (.int (0 : Int32)), .val (.int (-1 : Int32)), .unset, .unset] [(.int (2 : Int32)), (.ref b2)]) t → Steps p.tables e below s0 t := fun t kk_ => P168 t (by
        refine XS.icmpYes X27.here hx rfl (pc0 := 61) (pc' := 68) rfl (hb hby at_61) rfl (feq (hc61_169 : ¬ (r_10 = (34 : Int32)))).2 (by decide) (by decide) ?_
        refine XS.iconst X27.here hx rfl (hb hby at_68) ?_
        refine XS.istore X27.here hx rfl (hb hby at_69) rfl (l' := #[.val (.int pa), .val (.int pb), .val (.int pc_), .val (.int pd_), .val (.int pe), .val (.ref b2), .val (.ref b24), .val (.int (1 : Int32)), .val (.int (0 : Int32)), .unset, .unset, .unset]) rfl ?_
        refine XS.iconst X27.here hx rfl (hb hby at_71) ?_
        refine XS.istore X27.here hx rfl (hb hby at_72) rfl (l' := #[.val (.int pa), .val (.int pb), .val (.int pc_), .val (.int pd_), .val (.int pe), .val (.ref b2), .val (.ref b24), .val (.int (1 : Int32)), .val (.int (0 : Int32)), .val (.int (-1 : Int32)), .unset, .unset]) rfl ?_
        refine XS.iload X27.here hx rfl (hb hby at_74) rfl ?_
        refine XS.iconst X27.here hx rfl (hb hby at_76) ?_
        refine XS.icmpYes X27.here hx rfl (pc0 := 77) (pc' := 98) rfl (hb hby at_77) rfl (flt ((by decide) : ¬ ((1 : Int32) < (1 : Int32)))).2.1 (by decide) (by decide) ?_
        refine XS.iload X27.here hx rfl (hb hby at_98) rfl ?_
        refine XS.iconst X27.here hx rfl (hb hby at_100) ?_
        refine XS.icmpNo X27.here hx rfl (hb hby at_101) rfl (tlt ((by decide) : (1 : Int32) < (2 : Int32))).2.1 ?_
        refine XS.aload X27.here hx rfl (hb hby at_104) rfl rfl ?_
        refine XS.iconst X27.here hx rfl (hb hby at_106) ?_
        exact kk_)
      obtain ⟨cl215, Ar215, q215, S215, M215, Hs215, G215⟩ := id V_b2
      have hin215 := inb_of (j := (2 : Int32)) S215 ⟨by decide, by decide⟩
      have hat215 : cl215.slots[((2 : Int32)).toNatClampNeg]? = some (.int r_15) := Has.at Hs215 hin215 (rfl)
      have P216 : ∀ t, GG p e below T27 (mkF m 108 #[.val (.int pa), .val (.int pb), .val (.int pc_), .val (.int pd_), .val (.int pe), .val (.ref b2), .val (.ref b24), .val (.int (1 : Int32)), .val (.int (0 : Int32)), .val (.int (-1 : Int32)), .unset, .unset] [(.int r_15)]) t → Steps p.tables e below s0 t := fun t kk_ => P214 t (by
        refine X27.caload hx (j := (2 : Int32)) (v := (.int r_15)) (Ar215.1) (State.isArrayOf_alike hZ.alike Ar215.2.1) Ar215.2.2 hin215 hat215 (g := (mkF m 107 #[.val (.int pa), .val (.int pb), .val (.int pc_), .val (.int pd_), .val (.int pe), .val (.ref b2), .val (.ref b24), .val (.int (1 : Int32)), .val (.int (0 : Int32)), .val (.int (-1 : Int32)), .unset, .unset] [(.int (2 : Int32)), (.ref b2)])) rfl rfl (hb hby at_107) _ ?_
        exact kk_)
      have P217 : ∀ t, GG p e below T27 (mkF m 110 #[.val (.int pa), .val (.int pb), .val (.int pc_), .val (.int pd_), .val (.int pe), .val (.ref b2), .val (.ref b24), .val (.int (1 : Int32)), .val (.int (0 : Int32)), .val (.int (-1 : Int32)), .unset, .unset] [(.int (0 : Int32)), (.int r_15)]) t → Steps p.tables e below s0 t := fun t kk_ => P216 t (by
        refine XS.iload X27.here hx rfl (hb hby at_108) rfl ?_
        exact kk_)
      obtain ⟨_, _, ⟨T218, L218, k218, n218⟩, -, X218, ⟨Lc218, hQ218, l218, y218, z218⟩, st218⟩ := Jvm.LawKit.callS X27 hx (y := mn_24) hown (mw hZ hw 54 rfl) (mw hZ hw 55 rfl) (mw hZ hw 3 rfl) (mw hZ hw 56 rfl) (by decide) (backOf (W := 0) (rm_stp0 l Z a0 hw [] r_15 T27.heap n0 (Nat.le_trans Z0 K27.1)) hZ (ww hw 56 rfl) (ww hw 3 rfl) (by decide) (by decide)) (g := (mkF m 110 #[.val (.int pa), .val (.int pb), .val (.int pc_), .val (.int pd_), .val (.int pe), .val (.ref b2), .val (.ref b24), .val (.int (1 : Int32)), .val (.int (0 : Int32)), .val (.int (-1 : Int32)), .unset, .unset] [(.int (0 : Int32)), (.int r_15)])) rfl (by rw [hml]; rfl) (argsL := [(.int r_15), (.int (0 : Int32))]) (rest := []) (lenOf pd_14 rfl) rfl (by show 2 * 0 + _ ≤ _; exact Nat.le_of_eq rfl) (hb hby at_110) (fun _ _ => ⟨rfl, rfl, (by decide : 4 + 0 ≤ _), (by decide : 20 + 0 ≤ _)⟩)
      dsimp only [Pt.U, Pt.locs, Pt.cells, Pt.slots] at X218 l218 y218 z218 st218 hQ218
      subst l218 y218 z218
      obtain ⟨r_218, rfl, N218q, e218, po218_0⟩ := hQ218
      have N218 := Fr.app N27 N218q
      have P219 : ∀ t, GG p e below T218 (mkF m 113 #[.val (.int pa), .val (.int pb), .val (.int pc_), .val (.int pd_), .val (.int pe), .val (.ref b2), .val (.ref b24), .val (.int (1 : Int32)), .val (.int (0 : Int32)), .val (.int (-1 : Int32)), .unset, .unset] [(.int r_218)]) t → Steps p.tables e below s0 t := fun t kk_ => P217 t (st218 _ kk_)
      have res_218 := po218_0
      rcases res_218 with hcase | hcase
      ·
        obtain ⟨rfl, hm113⟩ := hcase
        have P220 : ∀ t, GG p e below T218 (mkF m 155 #[.val (.int pa), .val (.int pb), .val (.int pc_), .val (.int pd_), .val (.int pe), .val (.ref b2), .val (.ref b24), .val (.int (1 : Int32)), .val (.int (0 : Int32)), .val (.int (2 : Int32)), .val (.int (-1 : Int32)), .unset] [(.int (2 : Int32)), (.ref b2)]) t → Steps p.tables e below s0 t := fun t kk_ => P219 t (by
          refine XS.ifNo X218.here hx rfl (hb hby at_113) rfl ((if0 _ _).trans (feq ((by decide) : ¬ ((1 : Int32) = (0 : Int32)))).1) ?_
          refine XS.iconst X218.here hx rfl (hb hby at_116) ?_
          refine XS.istore X218.here hx rfl (hb hby at_117) rfl (l' := #[.val (.int pa), .val (.int pb), .val (.int pc_), .val (.int pd_), .val (.int pe), .val (.ref b2), .val (.ref b24), .val (.int (1 : Int32)), .val (.int (0 : Int32)), .val (.int (2 : Int32)), .unset, .unset]) rfl ?_
          refine XS.goto X218.here hx rfl (pc0 := 119) (pc' := 143) rfl (hb hby at_119) (by decide) (by decide) ?_
          refine XS.iconst X218.here hx rfl (hb hby at_143) ?_
          refine XS.istore X218.here hx rfl (hb hby at_144) rfl (l' := #[.val (.int pa), .val (.int pb), .val (.int pc_), .val (.int pd_), .val (.int pe), .val (.ref b2), .val (.ref b24), .val (.int (1 : Int32)), .val (.int (0 : Int32)), .val (.int (2 : Int32)), .val (.int (-1 : Int32)), .unset]) rfl ?_
          refine XS.iload X218.here hx rfl (hb hby at_146) rfl ?_
          refine XS.ifNo X218.here hx rfl (hb hby at_148) rfl ((if0 _ _).trans (flt ((by decide) : ¬ ((2 : Int32) < (0 : Int32)))).1) ?_
          refine XS.aload X218.here hx rfl (hb hby at_151) rfl rfl ?_
          refine XS.iload X218.here hx rfl (hb hby at_153) rfl ?_
          exact kk_)
        obtain ⟨cl221, Ar221, q221, S221, M221, Hs221, G221⟩ := id V_b2
        have hin221 := inb_of (j := (2 : Int32)) S221 ⟨by decide, by decide⟩
        have hat221 : cl221.slots[((2 : Int32)).toNatClampNeg]? = some (.int r_15) := Has.at Hs221 hin221 (rfl)
        have P222 : ∀ t, GG p e below T218 (mkF m 156 #[.val (.int pa), .val (.int pb), .val (.int pc_), .val (.int pd_), .val (.int pe), .val (.ref b2), .val (.ref b24), .val (.int (1 : Int32)), .val (.int (0 : Int32)), .val (.int (2 : Int32)), .val (.int (-1 : Int32)), .unset] [(.int r_15)]) t → Steps p.tables e below s0 t := fun t kk_ => P220 t (by
          refine X218.caload hx (j := (2 : Int32)) (v := (.int r_15)) (by rw [e218]; exact Ar221.1) (State.isArrayOf_alike hZ.alike Ar221.2.1) Ar221.2.2 hin221 hat221 (g := (mkF m 155 #[.val (.int pa), .val (.int pb), .val (.int pc_), .val (.int pd_), .val (.int pe), .val (.ref b2), .val (.ref b24), .val (.int (1 : Int32)), .val (.int (0 : Int32)), .val (.int (2 : Int32)), .val (.int (-1 : Int32)), .unset] [(.int (2 : Int32)), (.ref b2)])) rfl rfl (hb hby at_155) _ ?_
          exact kk_)
        have P223 : ∀ t, GG p e below T218 (mkF m 158 #[.val (.int pa), .val (.int pb), .val (.int pc_), .val (.int pd_), .val (.int pe), .val (.ref b2), .val (.ref b24), .val (.int (1 : Int32)), .val (.int (0 : Int32)), .val (.int (2 : Int32)), .val (.int (-1 : Int32)), .unset] [(.int (0 : Int32)), (.int r_15)]) t → Steps p.tables e below s0 t := fun t kk_ => P222 t (by
          refine XS.iload X218.here hx rfl (hb hby at_156) rfl ?_
          exact kk_)
        obtain ⟨_, _, ⟨T224, L224, k224, n224⟩, -, X224, ⟨Lc224, hQ224, l224, y224, z224⟩, st224⟩ := Jvm.LawKit.callS X218 hx (y := mn_17) hown (mw hZ hw 57 rfl) (mw hZ hw 58 rfl) (mw hZ hw 3 rfl) (mw hZ hw 59 rfl) (by decide) (backOf (W := 0) (rm_mat0 l Z a0 hw [] r_15 T27.heap n0 (Nat.le_trans Z0 K27.1)) hZ (ww hw 59 rfl) (ww hw 3 rfl) (by decide) (by decide)) (g := (mkF m 158 #[.val (.int pa), .val (.int pb), .val (.int pc_), .val (.int pd_), .val (.int pe), .val (.ref b2), .val (.ref b24), .val (.int (1 : Int32)), .val (.int (0 : Int32)), .val (.int (2 : Int32)), .val (.int (-1 : Int32)), .unset] [(.int (0 : Int32)), (.int r_15)])) rfl (by rw [hml]; rfl) (argsL := [(.int r_15), (.int (0 : Int32))]) (rest := []) (lenOf pd_14 rfl) rfl (by show 2 * 0 + _ ≤ _; exact Nat.le_of_eq rfl) (hb hby at_158) (fun _ _ => ⟨rfl, e218, (by decide : 4 + 0 ≤ _), (by decide : 20 + 0 ≤ _)⟩)
        dsimp only [Pt.U, Pt.locs, Pt.cells, Pt.slots] at X224 l224 y224 z224 st224 hQ224
        subst l224 y224 z224
        obtain ⟨r_224, rfl, N224q, e224, po224_0⟩ := hQ224
        have N224 := Fr.app N218 N224q
        have P225 : ∀ t, GG p e below T224 (mkF m 161 #[.val (.int pa), .val (.int pb), .val (.int pc_), .val (.int pd_), .val (.int pe), .val (.ref b2), .val (.ref b24), .val (.int (1 : Int32)), .val (.int (0 : Int32)), .val (.int (2 : Int32)), .val (.int (-1 : Int32)), .unset] [(.int r_224)]) t → Steps p.tables e below s0 t := fun t kk_ => P223 t (st224 _ kk_)
        have res_224 := po224_0
        rcases res_224 with hcase | hcase
        ·
          obtain ⟨rfl, hm161⟩ := hcase
          have P226 : ∀ t, GG p e below T224 (mkF m 172 #[.val (.int pa), .val (.int pb), .val (.int pc_), .val (.int pd_), .val (.int pe), .val (.ref b2), .val (.ref b24), .val (.int (1 : Int32)), .val (.int (0 : Int32)), .val (.int (2 : Int32)), .val (.int (2 : Int32)), .unset] [(.int (1 : Int32)), (.ref b24)]) t → Steps p.tables e below s0 t := fun t kk_ => P225 t (by
            refine XS.ifNo X224.here hx rfl (hb hby at_161) rfl ((if0 _ _).trans (feq ((by decide) : ¬ ((1 : Int32) = (0 : Int32)))).1) ?_
            refine XS.iload X224.here hx rfl (hb hby at_164) rfl ?_
            refine XS.istore X224.here hx rfl (hb hby at_166) rfl (l' := #[.val (.int pa), .val (.int pb), .val (.int pc_), .val (.int pd_), .val (.int pe), .val (.ref b2), .val (.ref b24), .val (.int (1 : Int32)), .val (.int (0 : Int32)), .val (.int (2 : Int32)), .val (.int (2 : Int32)), .unset]) rfl ?_
            refine XS.aload X224.here hx rfl (hb hby at_168) rfl rfl ?_
            refine XS.iload X224.here hx rfl (hb hby at_170) rfl ?_
            exact kk_)
          obtain ⟨_, _, ⟨T227, L227, k227, n227⟩, -, X227, ⟨Lc227, hQ227, l227, y227, z227⟩, st227⟩ := Jvm.LawKit.callS X224 hx (y := mn_25) hown (mw hZ hw 60 rfl) (mw hZ hw 61 rfl) (mw hZ hw 62 rfl) (mw hZ hw 63 rfl) (by decide) (backOf (W := 0) (rm_clo1 l Z a0 hw [] b24 t_27 kb_27 cd_27 nB_27 vs_27 r_5 r_10 r_15 r_20 G1 G3 T27.heap n0 (Nat.le_trans Z0 K27.1) E_b24 F_value_b24 F_coder_b24 V_t_27 S_COMPACT_STRINGS S__assertionsDisabled S_HI_BYTE_SHIFT S_LO_BYTE_SHIFT S_SIOOBE_FORMATTER OL hz rG3 s4_27 ir_5 ir_10 ir_15 ir_20) hZ (ww hw 63 rfl) (ww hw 62 rfl) (by decide) (by decide)) (g := (mkF m 172 #[.val (.int pa), .val (.int pb), .val (.int pc_), .val (.int pd_), .val (.int pe), .val (.ref b2), .val (.ref b24), .val (.int (1 : Int32)), .val (.int (0 : Int32)), .val (.int (2 : Int32)), .val (.int (2 : Int32)), .unset] [(.int (1 : Int32)), (.ref b24)])) rfl (by rw [hml]; rfl) (argsL := [(.ref b24), (.int (1 : Int32))]) (rest := []) (lenOf pd_18 rfl) rfl (by show 2 * 0 + _ ≤ _; exact Nat.le_of_eq rfl) (hb hby at_172) (fun _ _ => ⟨rfl, e224, (by decide : 4 + 0 ≤ _), (by decide : 20 + 0 ≤ _)⟩)
          dsimp only [Pt.U, Pt.locs, Pt.cells, Pt.slots] at X227 l227 y227 z227 st227 hQ227
          subst l227 y227 z227
          obtain ⟨r_227, rfl, N227q, e227, po227_0⟩ := hQ227
          have N227 := Fr.app N224 N227q
          have P228 : ∀ t, GG p e below T227 (mkF m 175 #[.val (.int pa), .val (.int pb), .val (.int pc_), .val (.int pd_), .val (.int pe), .val (.ref b2), .val (.ref b24), .val (.int (1 : Int32)), .val (.int (0 : Int32)), .val (.int (2 : Int32)), .val (.int (2 : Int32)), .unset] [(.int r_227)]) t → Steps p.tables e below s0 t := fun t kk_ => P226 t (st227 _ kk_)
          have res_227 := po227_0
          have P229 : ∀ t, GG p e below T227 (mkF m 189 #[.val (.int pa), .val (.int pb), .val (.int pc_), .val (.int pd_), .val (.int pe), .val (.ref b2), .val (.ref b24), .val (.int (1 : Int32)), .val (.int (0 : Int32)), .val (.int (2 : Int32)), .val (.int (2 : Int32)), .val (.int r_227)] [(.int (1 : Int32))]) t → Steps p.tables e below s0 t := fun t kk_ => P228 t (by
            refine XS.istore X227.here hx rfl (hb hby at_175) rfl (l' := #[.val (.int pa), .val (.int pb), .val (.int pc_), .val (.int pd_), .val (.int pe), .val (.ref b2), .val (.ref b24), .val (.int (1 : Int32)), .val (.int (0 : Int32)), .val (.int (2 : Int32)), .val (.int (2 : Int32)), .val (.int r_227)]) rfl ?_
            refine XS.iload X227.here hx rfl (hb hby at_177) rfl ?_
            refine XS.iload X227.here hx rfl (hb hby at_179) rfl ?_
            refine XS.icmpNo X227.here hx rfl (hb hby at_181) rfl (teq ((by rw [res_227]; simp [clo, hc61_169, hm113, hm161]) : r_227 = (2 : Int32))).2 ?_
            refine XS.iconst X227.here hx rfl (hb hby at_184) ?_
            refine XS.goto X227.here hx rfl (pc0 := 185) (pc' := 189) rfl (hb hby at_185) (by decide) (by decide) ?_
            exact kk_)
          subst hs0
          obtain ⟨fs, hr, hrun, hended, hW, hsame⟩ := X227.leave (v := some (.int (nar .boolean (1 : Int32)))) (fun h => by rw [Bd.returns] at h; cases h)
          refine ⟨_, _, P229 _ ?_, hrun, hended, _, _, rfl, ?_, ⟨_, rfl⟩, hW, hsame.mono (by decide) (by decide)⟩
          · show GG p e below T227 (mkF m 189 #[.val (.int pa), .val (.int pb), .val (.int pc_), .val (.int pd_), .val (.int pe), .val (.ref b2), .val (.ref b24), .val (.int (1 : Int32)), .val (.int (0 : Int32)), .val (.int (2 : Int32)), .val (.int (2 : Int32)), .val (.int r_227)] [(.int (1 : Int32))]) _
            exact retN X227 hx (t := .boolean) Bd.returns (by simp) (hb hby at_189) hr
          · show Q_law Z pa pb pc_ pd_ pe G1 G3 h0 n0 _ T227.heap _
            rw [e227]
            exact ⟨rfl, N227, K27⟩
        ·
          obtain ⟨rfl, hm161⟩ := hcase
          have P230 : ∀ t, GG p e below T224 (mkF m 172 #[.val (.int pa), .val (.int pb), .val (.int pc_), .val (.int pd_), .val (.int pe), .val (.ref b2), .val (.ref b24), .val (.int (1 : Int32)), .val (.int (0 : Int32)), .val (.int (2 : Int32)), .val (.int (-1 : Int32)), .unset] [(.int (1 : Int32)), (.ref b24)]) t → Steps p.tables e below s0 t := fun t kk_ => P225 t (by
            refine XS.ifYes X224.here hx rfl (pc0 := 161) (pc' := 168) rfl (hb hby at_161) rfl ((if0 _ _).trans (teq ((by decide) : (0 : Int32) = (0 : Int32))).1) (by decide) (by decide) ?_
            refine XS.aload X224.here hx rfl (hb hby at_168) rfl rfl ?_
            refine XS.iload X224.here hx rfl (hb hby at_170) rfl ?_
            exact kk_)
          obtain ⟨_, _, ⟨T231, L231, k231, n231⟩, -, X231, ⟨Lc231, hQ231, l231, y231, z231⟩, st231⟩ := Jvm.LawKit.callS X224 hx (y := mn_25) hown (mw hZ hw 60 rfl) (mw hZ hw 61 rfl) (mw hZ hw 62 rfl) (mw hZ hw 63 rfl) (by decide) (backOf (W := 0) (rm_clo1 l Z a0 hw [] b24 t_27 kb_27 cd_27 nB_27 vs_27 r_5 r_10 r_15 r_20 G1 G3 T27.heap n0 (Nat.le_trans Z0 K27.1) E_b24 F_value_b24 F_coder_b24 V_t_27 S_COMPACT_STRINGS S__assertionsDisabled S_HI_BYTE_SHIFT S_LO_BYTE_SHIFT S_SIOOBE_FORMATTER OL hz rG3 s4_27 ir_5 ir_10 ir_15 ir_20) hZ (ww hw 63 rfl) (ww hw 62 rfl) (by decide) (by decide)) (g := (mkF m 172 #[.val (.int pa), .val (.int pb), .val (.int pc_), .val (.int pd_), .val (.int pe), .val (.ref b2), .val (.ref b24), .val (.int (1 : Int32)), .val (.int (0 : Int32)), .val (.int (2 : Int32)), .val (.int (-1 : Int32)), .unset] [(.int (1 : Int32)), (.ref b24)])) rfl (by rw [hml]; rfl) (argsL := [(.ref b24), (.int (1 : Int32))]) (rest := []) (lenOf pd_18 rfl) rfl (by show 2 * 0 + _ ≤ _; exact Nat.le_of_eq rfl) (hb hby at_172) (fun _ _ => ⟨rfl, e224, (by decide : 4 + 0 ≤ _), (by decide : 20 + 0 ≤ _)⟩)
          dsimp only [Pt.U, Pt.locs, Pt.cells, Pt.slots] at X231 l231 y231 z231 st231 hQ231
          subst l231 y231 z231
          obtain ⟨r_231, rfl, N231q, e231, po231_0⟩ := hQ231
          have N231 := Fr.app N224 N231q
          have P232 : ∀ t, GG p e below T231 (mkF m 175 #[.val (.int pa), .val (.int pb), .val (.int pc_), .val (.int pd_), .val (.int pe), .val (.ref b2), .val (.ref b24), .val (.int (1 : Int32)), .val (.int (0 : Int32)), .val (.int (2 : Int32)), .val (.int (-1 : Int32)), .unset] [(.int r_231)]) t → Steps p.tables e below s0 t := fun t kk_ => P230 t (st231 _ kk_)
          have res_231 := po231_0
          have P233 : ∀ t, GG p e below T231 (mkF m 189 #[.val (.int pa), .val (.int pb), .val (.int pc_), .val (.int pd_), .val (.int pe), .val (.ref b2), .val (.ref b24), .val (.int (1 : Int32)), .val (.int (0 : Int32)), .val (.int (2 : Int32)), .val (.int (-1 : Int32)), .val (.int r_231)] [(.int (1 : Int32))]) t → Steps p.tables e below s0 t := fun t kk_ => P232 t (by
            refine XS.istore X231.here hx rfl (hb hby at_175) rfl (l' := #[.val (.int pa), .val (.int pb), .val (.int pc_), .val (.int pd_), .val (.int pe), .val (.ref b2), .val (.ref b24), .val (.int (1 : Int32)), .val (.int (0 : Int32)), .val (.int (2 : Int32)), .val (.int (-1 : Int32)), .val (.int r_231)]) rfl ?_
            refine XS.iload X231.here hx rfl (hb hby at_177) rfl ?_
            refine XS.iload X231.here hx rfl (hb hby at_179) rfl ?_
            refine XS.icmpNo X231.here hx rfl (hb hby at_181) rfl (teq ((by rw [res_231]; simp [clo, hc61_169, hm113.resolve_left hm161, hm161]) : r_231 = (-1 : Int32))).2 ?_
            refine XS.iconst X231.here hx rfl (hb hby at_184) ?_
            refine XS.goto X231.here hx rfl (pc0 := 185) (pc' := 189) rfl (hb hby at_185) (by decide) (by decide) ?_
            exact kk_)
          subst hs0
          obtain ⟨fs, hr, hrun, hended, hW, hsame⟩ := X231.leave (v := some (.int (nar .boolean (1 : Int32)))) (fun h => by rw [Bd.returns] at h; cases h)
          refine ⟨_, _, P233 _ ?_, hrun, hended, _, _, rfl, ?_, ⟨_, rfl⟩, hW, hsame.mono (by decide) (by decide)⟩
          · show GG p e below T231 (mkF m 189 #[.val (.int pa), .val (.int pb), .val (.int pc_), .val (.int pd_), .val (.int pe), .val (.ref b2), .val (.ref b24), .val (.int (1 : Int32)), .val (.int (0 : Int32)), .val (.int (2 : Int32)), .val (.int (-1 : Int32)), .val (.int r_231)] [(.int (1 : Int32))]) _
            exact retN X231 hx (t := .boolean) Bd.returns (by simp) (hb hby at_189) hr
          · show Q_law Z pa pb pc_ pd_ pe G1 G3 h0 n0 _ T231.heap _
            rw [e231]
            exact ⟨rfl, N231, K27⟩
      ·
        obtain ⟨rfl, hm113⟩ := hcase
        have P234 : ∀ t, GG p e below T218 (mkF m 131 #[.val (.int pa), .val (.int pb), .val (.int pc_), .val (.int pd_), .val (.int pe), .val (.ref b2), .val (.ref b24), .val (.int (1 : Int32)), .val (.int (0 : Int32)), .val (.int (-1 : Int32)), .unset, .unset] [(.int (3 : Int32)), (.ref b2)]) t → Steps p.tables e below s0 t := fun t kk_ => P219 t (by
          refine XS.ifYes X218.here hx rfl (pc0 := 113) (pc' := 122) rfl (hb hby at_113) rfl ((if0 _ _).trans (teq ((by decide) : (0 : Int32) = (0 : Int32))).1) (by decide) (by decide) ?_
          refine XS.iload X218.here hx rfl (hb hby at_122) rfl ?_
          refine XS.iconst X218.here hx rfl (hb hby at_124) ?_
          refine XS.icmpNo X218.here hx rfl (hb hby at_125) rfl (tlt ((by decide) : (1 : Int32) < (3 : Int32))).2.1 ?_
          refine XS.aload X218.here hx rfl (hb hby at_128) rfl rfl ?_
          refine XS.iconst X218.here hx rfl (hb hby at_130) ?_
          exact kk_)
        obtain ⟨cl235, Ar235, q235, S235, M235, Hs235, G235⟩ := id V_b2
        have hin235 := inb_of (j := (3 : Int32)) S235 ⟨by decide, by decide⟩
        have hat235 : cl235.slots[((3 : Int32)).toNatClampNeg]? = some (.int r_20) := Has.at Hs235 hin235 (rfl)
        have P236 : ∀ t, GG p e below T218 (mkF m 132 #[.val (.int pa), .val (.int pb), .val (.int pc_), .val (.int pd_), .val (.int pe), .val (.ref b2), .val (.ref b24), .val (.int (1 : Int32)), .val (.int (0 : Int32)), .val (.int (-1 : Int32)), .unset, .unset] [(.int r_20)]) t → Steps p.tables e below s0 t := fun t kk_ => P234 t (by
          refine X218.caload hx (j := (3 : Int32)) (v := (.int r_20)) (by rw [e218]; exact Ar235.1) (State.isArrayOf_alike hZ.alike Ar235.2.1) Ar235.2.2 hin235 hat235 (g := (mkF m 131 #[.val (.int pa), .val (.int pb), .val (.int pc_), .val (.int pd_), .val (.int pe), .val (.ref b2), .val (.ref b24), .val (.int (1 : Int32)), .val (.int (0 : Int32)), .val (.int (-1 : Int32)), .unset, .unset] [(.int (3 : Int32)), (.ref b2)])) rfl rfl (hb hby at_131) _ ?_
          exact kk_)
        have P237 : ∀ t, GG p e below T218 (mkF m 134 #[.val (.int pa), .val (.int pb), .val (.int pc_), .val (.int pd_), .val (.int pe), .val (.ref b2), .val (.ref b24), .val (.int (1 : Int32)), .val (.int (0 : Int32)), .val (.int (-1 : Int32)), .unset, .unset] [(.int (0 : Int32)), (.int r_20)]) t → Steps p.tables e below s0 t := fun t kk_ => P236 t (by
          refine XS.iload X218.here hx rfl (hb hby at_132) rfl ?_
          exact kk_)
        obtain ⟨_, _, ⟨T238, L238, k238, n238⟩, -, X238, ⟨Lc238, hQ238, l238, y238, z238⟩, st238⟩ := Jvm.LawKit.callS X218 hx (y := mn_24) hown (mw hZ hw 54 rfl) (mw hZ hw 55 rfl) (mw hZ hw 3 rfl) (mw hZ hw 56 rfl) (by decide) (backOf (W := 0) (rm_stp0 l Z a0 hw [] r_20 T27.heap n0 (Nat.le_trans Z0 K27.1)) hZ (ww hw 56 rfl) (ww hw 3 rfl) (by decide) (by decide)) (g := (mkF m 134 #[.val (.int pa), .val (.int pb), .val (.int pc_), .val (.int pd_), .val (.int pe), .val (.ref b2), .val (.ref b24), .val (.int (1 : Int32)), .val (.int (0 : Int32)), .val (.int (-1 : Int32)), .unset, .unset] [(.int (0 : Int32)), (.int r_20)])) rfl (by rw [hml]; rfl) (argsL := [(.int r_20), (.int (0 : Int32))]) (rest := []) (lenOf pd_14 rfl) rfl (by show 2 * 0 + _ ≤ _; exact Nat.le_of_eq rfl) (hb hby at_134) (fun _ _ => ⟨rfl, e218, (by decide : 4 + 0 ≤ _), (by decide : 20 + 0 ≤ _)⟩)
        dsimp only [Pt.U, Pt.locs, Pt.cells, Pt.slots] at X238 l238 y238 z238 st238 hQ238
        subst l238 y238 z238
        obtain ⟨r_238, rfl, N238q, e238, po238_0⟩ := hQ238
        have N238 := Fr.app N218 N238q
        have P239 : ∀ t, GG p e below T238 (mkF m 137 #[.val (.int pa), .val (.int pb), .val (.int pc_), .val (.int pd_), .val (.int pe), .val (.ref b2), .val (.ref b24), .val (.int (1 : Int32)), .val (.int (0 : Int32)), .val (.int (-1 : Int32)), .unset, .unset] [(.int r_238)]) t → Steps p.tables e below s0 t := fun t kk_ => P237 t (st238 _ kk_)
        have res_238 := po238_0
        rcases res_238 with hcase | hcase
        ·
          obtain ⟨rfl, hm137⟩ := hcase
          have P240 : ∀ t, GG p e below T238 (mkF m 155 #[.val (.int pa), .val (.int pb), .val (.int pc_), .val (.int pd_), .val (.int pe), .val (.ref b2), .val (.ref b24), .val (.int (1 : Int32)), .val (.int (0 : Int32)), .val (.int (3 : Int32)), .val (.int (-1 : Int32)), .unset] [(.int (3 : Int32)), (.ref b2)]) t → Steps p.tables e below s0 t := fun t kk_ => P239 t (by
            refine XS.ifNo X238.here hx rfl (hb hby at_137) rfl ((if0 _ _).trans (feq ((by decide) : ¬ ((1 : Int32) = (0 : Int32)))).1) ?_
            refine XS.iconst X238.here hx rfl (hb hby at_140) ?_
            refine XS.istore X238.here hx rfl (hb hby at_141) rfl (l' := #[.val (.int pa), .val (.int pb), .val (.int pc_), .val (.int pd_), .val (.int pe), .val (.ref b2), .val (.ref b24), .val (.int (1 : Int32)), .val (.int (0 : Int32)), .val (.int (3 : Int32)), .unset, .unset]) rfl ?_
            refine XS.iconst X238.here hx rfl (hb hby at_143) ?_
            refine XS.istore X238.here hx rfl (hb hby at_144) rfl (l' := #[.val (.int pa), .val (.int pb), .val (.int pc_), .val (.int pd_), .val (.int pe), .val (.ref b2), .val (.ref b24), .val (.int (1 : Int32)), .val (.int (0 : Int32)), .val (.int (3 : Int32)), .val (.int (-1 : Int32)), .unset]) rfl ?_
            refine XS.iload X238.here hx rfl (hb hby at_146) rfl ?_
            refine XS.ifNo X238.here hx rfl (hb hby at_148) rfl ((if0 _ _).trans (flt ((by decide) : ¬ ((3 : Int32) < (0 : Int32)))).1) ?_
            refine XS.aload X238.here hx rfl (hb hby at_151) rfl rfl ?_
            refine XS.iload X238.here hx rfl (hb hby at_153) rfl ?_
            exact kk_)
          obtain ⟨cl241, Ar241, q241, S241, M241, Hs241, G241⟩ := id V_b2
          have hin241 := inb_of (j := (3 : Int32)) S241 ⟨by decide, by decide⟩
          have hat241 : cl241.slots[((3 : Int32)).toNatClampNeg]? = some (.int r_20) := Has.at Hs241 hin241 (rfl)
          have P242 : ∀ t, GG p e below T238 (mkF m 156 #[.val (.int pa), .val (.int pb), .val (.int pc_), .val (.int pd_), .val (.int pe), .val (.ref b2), .val (.ref b24), .val (.int (1 : Int32)), .val (.int (0 : Int32)), .val (.int (3 : Int32)), .val (.int (-1 : Int32)), .unset] [(.int r_20)]) t → Steps p.tables e below s0 t := fun t kk_ => P240 t (by
            refine X238.caload hx (j := (3 : Int32)) (v := (.int r_20)) (by rw [e238]; exact Ar241.1) (State.isArrayOf_alike hZ.alike Ar241.2.1) Ar241.2.2 hin241 hat241 (g := (mkF m 155 #[.val (.int pa), .val (.int pb), .val (.int pc_), .val (.int pd_), .val (.int pe), .val (.ref b2), .val (.ref b24), .val (.int (1 : Int32)), .val (.int (0 : Int32)), .val (.int (3 : Int32)), .val (.int (-1 : Int32)), .unset] [(.int (3 : Int32)), (.ref b2)])) rfl rfl (hb hby at_155) _ ?_
            exact kk_)
          have P243 : ∀ t, GG p e below T238 (mkF m 158 #[.val (.int pa), .val (.int pb), .val (.int pc_), .val (.int pd_), .val (.int pe), .val (.ref b2), .val (.ref b24), .val (.int (1 : Int32)), .val (.int (0 : Int32)), .val (.int (3 : Int32)), .val (.int (-1 : Int32)), .unset] [(.int (0 : Int32)), (.int r_20)]) t → Steps p.tables e below s0 t := fun t kk_ => P242 t (by
            refine XS.iload X238.here hx rfl (hb hby at_156) rfl ?_
            exact kk_)
          obtain ⟨_, _, ⟨T244, L244, k244, n244⟩, -, X244, ⟨Lc244, hQ244, l244, y244, z244⟩, st244⟩ := Jvm.LawKit.callS X238 hx (y := mn_17) hown (mw hZ hw 57 rfl) (mw hZ hw 58 rfl) (mw hZ hw 3 rfl) (mw hZ hw 59 rfl) (by decide) (backOf (W := 0) (rm_mat0 l Z a0 hw [] r_20 T27.heap n0 (Nat.le_trans Z0 K27.1)) hZ (ww hw 59 rfl) (ww hw 3 rfl) (by decide) (by decide)) (g := (mkF m 158 #[.val (.int pa), .val (.int pb), .val (.int pc_), .val (.int pd_), .val (.int pe), .val (.ref b2), .val (.ref b24), .val (.int (1 : Int32)), .val (.int (0 : Int32)), .val (.int (3 : Int32)), .val (.int (-1 : Int32)), .unset] [(.int (0 : Int32)), (.int r_20)])) rfl (by rw [hml]; rfl) (argsL := [(.int r_20), (.int (0 : Int32))]) (rest := []) (lenOf pd_14 rfl) rfl (by show 2 * 0 + _ ≤ _; exact Nat.le_of_eq rfl) (hb hby at_158) (fun _ _ => ⟨rfl, e238, (by decide : 4 + 0 ≤ _), (by decide : 20 + 0 ≤ _)⟩)
          dsimp only [Pt.U, Pt.locs, Pt.cells, Pt.slots] at X244 l244 y244 z244 st244 hQ244
          subst l244 y244 z244
          obtain ⟨r_244, rfl, N244q, e244, po244_0⟩ := hQ244
          have N244 := Fr.app N238 N244q
          have P245 : ∀ t, GG p e below T244 (mkF m 161 #[.val (.int pa), .val (.int pb), .val (.int pc_), .val (.int pd_), .val (.int pe), .val (.ref b2), .val (.ref b24), .val (.int (1 : Int32)), .val (.int (0 : Int32)), .val (.int (3 : Int32)), .val (.int (-1 : Int32)), .unset] [(.int r_244)]) t → Steps p.tables e below s0 t := fun t kk_ => P243 t (st244 _ kk_)
          have res_244 := po244_0
          rcases res_244 with hcase | hcase
          ·
            obtain ⟨rfl, hm161⟩ := hcase
            have P246 : ∀ t, GG p e below T244 (mkF m 172 #[.val (.int pa), .val (.int pb), .val (.int pc_), .val (.int pd_), .val (.int pe), .val (.ref b2), .val (.ref b24), .val (.int (1 : Int32)), .val (.int (0 : Int32)), .val (.int (3 : Int32)), .val (.int (3 : Int32)), .unset] [(.int (1 : Int32)), (.ref b24)]) t → Steps p.tables e below s0 t := fun t kk_ => P245 t (by
              refine XS.ifNo X244.here hx rfl (hb hby at_161) rfl ((if0 _ _).trans (feq ((by decide) : ¬ ((1 : Int32) = (0 : Int32)))).1) ?_
              refine XS.iload X244.here hx rfl (hb hby at_164) rfl ?_
              refine XS.istore X244.here hx rfl (hb hby at_166) rfl (l' := #[.val (.int pa), .val (.int pb), .val (.int pc_), .val (.int pd_), .val (.int pe), .val (.ref b2), .val (.ref b24), .val (.int (1 : Int32)), .val (.int (0 : Int32)), .val (.int (3 : Int32)), .val (.int (3 : Int32)), .unset]) rfl ?_
              refine XS.aload X244.here hx rfl (hb hby at_168) rfl rfl ?_
              refine XS.iload X244.here hx rfl (hb hby at_170) rfl ?_
              exact kk_)
            obtain ⟨_, _, ⟨T247, L247, k247, n247⟩, -, X247, ⟨Lc247, hQ247, l247, y247, z247⟩, st247⟩ := Jvm.LawKit.callS X244 hx (y := mn_25) hown (mw hZ hw 60 rfl) (mw hZ hw 61 rfl) (mw hZ hw 62 rfl) (mw hZ hw 63 rfl) (by decide) (backOf (W := 0) (rm_clo1 l Z a0 hw [] b24 t_27 kb_27 cd_27 nB_27 vs_27 r_5 r_10 r_15 r_20 G1 G3 T27.heap n0 (Nat.le_trans Z0 K27.1) E_b24 F_value_b24 F_coder_b24 V_t_27 S_COMPACT_STRINGS S__assertionsDisabled S_HI_BYTE_SHIFT S_LO_BYTE_SHIFT S_SIOOBE_FORMATTER OL hz rG3 s4_27 ir_5 ir_10 ir_15 ir_20) hZ (ww hw 63 rfl) (ww hw 62 rfl) (by decide) (by decide)) (g := (mkF m 172 #[.val (.int pa), .val (.int pb), .val (.int pc_), .val (.int pd_), .val (.int pe), .val (.ref b2), .val (.ref b24), .val (.int (1 : Int32)), .val (.int (0 : Int32)), .val (.int (3 : Int32)), .val (.int (3 : Int32)), .unset] [(.int (1 : Int32)), (.ref b24)])) rfl (by rw [hml]; rfl) (argsL := [(.ref b24), (.int (1 : Int32))]) (rest := []) (lenOf pd_18 rfl) rfl (by show 2 * 0 + _ ≤ _; exact Nat.le_of_eq rfl) (hb hby at_172) (fun _ _ => ⟨rfl, e244, (by decide : 4 + 0 ≤ _), (by decide : 20 + 0 ≤ _)⟩)
            dsimp only [Pt.U, Pt.locs, Pt.cells, Pt.slots] at X247 l247 y247 z247 st247 hQ247
            subst l247 y247 z247
            obtain ⟨r_247, rfl, N247q, e247, po247_0⟩ := hQ247
            have N247 := Fr.app N244 N247q
            have P248 : ∀ t, GG p e below T247 (mkF m 175 #[.val (.int pa), .val (.int pb), .val (.int pc_), .val (.int pd_), .val (.int pe), .val (.ref b2), .val (.ref b24), .val (.int (1 : Int32)), .val (.int (0 : Int32)), .val (.int (3 : Int32)), .val (.int (3 : Int32)), .unset] [(.int r_247)]) t → Steps p.tables e below s0 t := fun t kk_ => P246 t (st247 _ kk_)
            have res_247 := po247_0
            have P249 : ∀ t, GG p e below T247 (mkF m 189 #[.val (.int pa), .val (.int pb), .val (.int pc_), .val (.int pd_), .val (.int pe), .val (.ref b2), .val (.ref b24), .val (.int (1 : Int32)), .val (.int (0 : Int32)), .val (.int (3 : Int32)), .val (.int (3 : Int32)), .val (.int r_247)] [(.int (1 : Int32))]) t → Steps p.tables e below s0 t := fun t kk_ => P248 t (by
              refine XS.istore X247.here hx rfl (hb hby at_175) rfl (l' := #[.val (.int pa), .val (.int pb), .val (.int pc_), .val (.int pd_), .val (.int pe), .val (.ref b2), .val (.ref b24), .val (.int (1 : Int32)), .val (.int (0 : Int32)), .val (.int (3 : Int32)), .val (.int (3 : Int32)), .val (.int r_247)]) rfl ?_
              refine XS.iload X247.here hx rfl (hb hby at_177) rfl ?_
              refine XS.iload X247.here hx rfl (hb hby at_179) rfl ?_
              refine XS.icmpNo X247.here hx rfl (hb hby at_181) rfl (teq ((by rw [res_247]; simp [clo, hc61_169, hm113, hm137, hm161]) : r_247 = (3 : Int32))).2 ?_
              refine XS.iconst X247.here hx rfl (hb hby at_184) ?_
              refine XS.goto X247.here hx rfl (pc0 := 185) (pc' := 189) rfl (hb hby at_185) (by decide) (by decide) ?_
              exact kk_)
            subst hs0
            obtain ⟨fs, hr, hrun, hended, hW, hsame⟩ := X247.leave (v := some (.int (nar .boolean (1 : Int32)))) (fun h => by rw [Bd.returns] at h; cases h)
            refine ⟨_, _, P249 _ ?_, hrun, hended, _, _, rfl, ?_, ⟨_, rfl⟩, hW, hsame.mono (by decide) (by decide)⟩
            · show GG p e below T247 (mkF m 189 #[.val (.int pa), .val (.int pb), .val (.int pc_), .val (.int pd_), .val (.int pe), .val (.ref b2), .val (.ref b24), .val (.int (1 : Int32)), .val (.int (0 : Int32)), .val (.int (3 : Int32)), .val (.int (3 : Int32)), .val (.int r_247)] [(.int (1 : Int32))]) _
              exact retN X247 hx (t := .boolean) Bd.returns (by simp) (hb hby at_189) hr
            · show Q_law Z pa pb pc_ pd_ pe G1 G3 h0 n0 _ T247.heap _
              rw [e247]
              exact ⟨rfl, N247, K27⟩
          ·
            obtain ⟨rfl, hm161⟩ := hcase
            have P250 : ∀ t, GG p e below T244 (mkF m 172 #[.val (.int pa), .val (.int pb), .val (.int pc_), .val (.int pd_), .val (.int pe), .val (.ref b2), .val (.ref b24), .val (.int (1 : Int32)), .val (.int (0 : Int32)), .val (.int (3 : Int32)), .val (.int (-1 : Int32)), .unset] [(.int (1 : Int32)), (.ref b24)]) t → Steps p.tables e below s0 t := fun t kk_ => P245 t (by
              refine XS.ifYes X244.here hx rfl (pc0 := 161) (pc' := 168) rfl (hb hby at_161) rfl ((if0 _ _).trans (teq ((by decide) : (0 : Int32) = (0 : Int32))).1) (by decide) (by decide) ?_
              refine XS.aload X244.here hx rfl (hb hby at_168) rfl rfl ?_
              refine XS.iload X244.here hx rfl (hb hby at_170) rfl ?_
              exact kk_)
            obtain ⟨_, _, ⟨T251, L251, k251, n251⟩, -, X251, ⟨Lc251, hQ251, l251, y251, z251⟩, st251⟩ := Jvm.LawKit.callS X244 hx (y := mn_25) hown (mw hZ hw 60 rfl) (mw hZ hw 61 rfl) (mw hZ hw 62 rfl) (mw hZ hw 63 rfl) (by decide) (backOf (W := 0) (rm_clo1 l Z a0 hw [] b24 t_27 kb_27 cd_27 nB_27 vs_27 r_5 r_10 r_15 r_20 G1 G3 T27.heap n0 (Nat.le_trans Z0 K27.1) E_b24 F_value_b24 F_coder_b24 V_t_27 S_COMPACT_STRINGS S__assertionsDisabled S_HI_BYTE_SHIFT S_LO_BYTE_SHIFT S_SIOOBE_FORMATTER OL hz rG3 s4_27 ir_5 ir_10 ir_15 ir_20) hZ (ww hw 63 rfl) (ww hw 62 rfl) (by decide) (by decide)) (g := (mkF m 172 #[.val (.int pa), .val (.int pb), .val (.int pc_), .val (.int pd_), .val (.int pe), .val (.ref b2), .val (.ref b24), .val (.int (1 : Int32)), .val (.int (0 : Int32)), .val (.int (3 : Int32)), .val (.int (-1 : Int32)), .unset] [(.int (1 : Int32)), (.ref b24)])) rfl (by rw [hml]; rfl) (argsL := [(.ref b24), (.int (1 : Int32))]) (rest := []) (lenOf pd_18 rfl) rfl (by show 2 * 0 + _ ≤ _; exact Nat.le_of_eq rfl) (hb hby at_172) (fun _ _ => ⟨rfl, e244, (by decide : 4 + 0 ≤ _), (by decide : 20 + 0 ≤ _)⟩)
            dsimp only [Pt.U, Pt.locs, Pt.cells, Pt.slots] at X251 l251 y251 z251 st251 hQ251
            subst l251 y251 z251
            obtain ⟨r_251, rfl, N251q, e251, po251_0⟩ := hQ251
            have N251 := Fr.app N244 N251q
            have P252 : ∀ t, GG p e below T251 (mkF m 175 #[.val (.int pa), .val (.int pb), .val (.int pc_), .val (.int pd_), .val (.int pe), .val (.ref b2), .val (.ref b24), .val (.int (1 : Int32)), .val (.int (0 : Int32)), .val (.int (3 : Int32)), .val (.int (-1 : Int32)), .unset] [(.int r_251)]) t → Steps p.tables e below s0 t := fun t kk_ => P250 t (st251 _ kk_)
            have res_251 := po251_0
            have P253 : ∀ t, GG p e below T251 (mkF m 189 #[.val (.int pa), .val (.int pb), .val (.int pc_), .val (.int pd_), .val (.int pe), .val (.ref b2), .val (.ref b24), .val (.int (1 : Int32)), .val (.int (0 : Int32)), .val (.int (3 : Int32)), .val (.int (-1 : Int32)), .val (.int r_251)] [(.int (1 : Int32))]) t → Steps p.tables e below s0 t := fun t kk_ => P252 t (by
              refine XS.istore X251.here hx rfl (hb hby at_175) rfl (l' := #[.val (.int pa), .val (.int pb), .val (.int pc_), .val (.int pd_), .val (.int pe), .val (.ref b2), .val (.ref b24), .val (.int (1 : Int32)), .val (.int (0 : Int32)), .val (.int (3 : Int32)), .val (.int (-1 : Int32)), .val (.int r_251)]) rfl ?_
              refine XS.iload X251.here hx rfl (hb hby at_177) rfl ?_
              refine XS.iload X251.here hx rfl (hb hby at_179) rfl ?_
              refine XS.icmpNo X251.here hx rfl (hb hby at_181) rfl (teq ((by rw [res_251]; simp [clo, hc61_169, hm113, hm137.resolve_left hm161, hm161]) : r_251 = (-1 : Int32))).2 ?_
              refine XS.iconst X251.here hx rfl (hb hby at_184) ?_
              refine XS.goto X251.here hx rfl (pc0 := 185) (pc' := 189) rfl (hb hby at_185) (by decide) (by decide) ?_
              exact kk_)
            subst hs0
            obtain ⟨fs, hr, hrun, hended, hW, hsame⟩ := X251.leave (v := some (.int (nar .boolean (1 : Int32)))) (fun h => by rw [Bd.returns] at h; cases h)
            refine ⟨_, _, P253 _ ?_, hrun, hended, _, _, rfl, ?_, ⟨_, rfl⟩, hW, hsame.mono (by decide) (by decide)⟩
            · show GG p e below T251 (mkF m 189 #[.val (.int pa), .val (.int pb), .val (.int pc_), .val (.int pd_), .val (.int pe), .val (.ref b2), .val (.ref b24), .val (.int (1 : Int32)), .val (.int (0 : Int32)), .val (.int (3 : Int32)), .val (.int (-1 : Int32)), .val (.int r_251)] [(.int (1 : Int32))]) _
              exact retN X251 hx (t := .boolean) Bd.returns (by simp) (hb hby at_189) hr
            · show Q_law Z pa pb pc_ pd_ pe G1 G3 h0 n0 _ T251.heap _
              rw [e251]
              exact ⟨rfl, N251, K27⟩
        ·
          obtain ⟨rfl, hm137⟩ := hcase
          have P254 : ∀ t, GG p e below T238 (mkF m 172 #[.val (.int pa), .val (.int pb), .val (.int pc_), .val (.int pd_), .val (.int pe), .val (.ref b2), .val (.ref b24), .val (.int (1 : Int32)), .val (.int (0 : Int32)), .val (.int (-1 : Int32)), .val (.int (-1 : Int32)), .unset] [(.int (1 : Int32)), (.ref b24)]) t → Steps p.tables e below s0 t := fun t kk_ => P239 t (by
            refine XS.ifYes X238.here hx rfl (pc0 := 137) (pc' := 143) rfl (hb hby at_137) rfl ((if0 _ _).trans (teq ((by decide) : (0 : Int32) = (0 : Int32))).1) (by decide) (by decide) ?_
            refine XS.iconst X238.here hx rfl (hb hby at_143) ?_
            refine XS.istore X238.here hx rfl (hb hby at_144) rfl (l' := #[.val (.int pa), .val (.int pb), .val (.int pc_), .val (.int pd_), .val (.int pe), .val (.ref b2), .val (.ref b24), .val (.int (1 : Int32)), .val (.int (0 : Int32)), .val (.int (-1 : Int32)), .val (.int (-1 : Int32)), .unset]) rfl ?_
            refine XS.iload X238.here hx rfl (hb hby at_146) rfl ?_
            refine XS.ifYes X238.here hx rfl (pc0 := 148) (pc' := 168) rfl (hb hby at_148) rfl ((if0 _ _).trans (tlt ((by decide) : (-1 : Int32) < (0 : Int32))).1) (by decide) (by decide) ?_
            refine XS.aload X238.here hx rfl (hb hby at_168) rfl rfl ?_
            refine XS.iload X238.here hx rfl (hb hby at_170) rfl ?_
            exact kk_)
          obtain ⟨_, _, ⟨T255, L255, k255, n255⟩, -, X255, ⟨Lc255, hQ255, l255, y255, z255⟩, st255⟩ := Jvm.LawKit.callS X238 hx (y := mn_25) hown (mw hZ hw 60 rfl) (mw hZ hw 61 rfl) (mw hZ hw 62 rfl) (mw hZ hw 63 rfl) (by decide) (backOf (W := 0) (rm_clo1 l Z a0 hw [] b24 t_27 kb_27 cd_27 nB_27 vs_27 r_5 r_10 r_15 r_20 G1 G3 T27.heap n0 (Nat.le_trans Z0 K27.1) E_b24 F_value_b24 F_coder_b24 V_t_27 S_COMPACT_STRINGS S__assertionsDisabled S_HI_BYTE_SHIFT S_LO_BYTE_SHIFT S_SIOOBE_FORMATTER OL hz rG3 s4_27 ir_5 ir_10 ir_15 ir_20) hZ (ww hw 63 rfl) (ww hw 62 rfl) (by decide) (by decide)) (g := (mkF m 172 #[.val (.int pa), .val (.int pb), .val (.int pc_), .val (.int pd_), .val (.int pe), .val (.ref b2), .val (.ref b24), .val (.int (1 : Int32)), .val (.int (0 : Int32)), .val (.int (-1 : Int32)), .val (.int (-1 : Int32)), .unset] [(.int (1 : Int32)), (.ref b24)])) rfl (by rw [hml]; rfl) (argsL := [(.ref b24), (.int (1 : Int32))]) (rest := []) (lenOf pd_18 rfl) rfl (by show 2 * 0 + _ ≤ _; exact Nat.le_of_eq rfl) (hb hby at_172) (fun _ _ => ⟨rfl, e238, (by decide : 4 + 0 ≤ _), (by decide : 20 + 0 ≤ _)⟩)
          dsimp only [Pt.U, Pt.locs, Pt.cells, Pt.slots] at X255 l255 y255 z255 st255 hQ255
          subst l255 y255 z255
          obtain ⟨r_255, rfl, N255q, e255, po255_0⟩ := hQ255
          have N255 := Fr.app N238 N255q
          have P256 : ∀ t, GG p e below T255 (mkF m 175 #[.val (.int pa), .val (.int pb), .val (.int pc_), .val (.int pd_), .val (.int pe), .val (.ref b2), .val (.ref b24), .val (.int (1 : Int32)), .val (.int (0 : Int32)), .val (.int (-1 : Int32)), .val (.int (-1 : Int32)), .unset] [(.int r_255)]) t → Steps p.tables e below s0 t := fun t kk_ => P254 t (st255 _ kk_)
          have res_255 := po255_0
          have P257 : ∀ t, GG p e below T255 (mkF m 189 #[.val (.int pa), .val (.int pb), .val (.int pc_), .val (.int pd_), .val (.int pe), .val (.ref b2), .val (.ref b24), .val (.int (1 : Int32)), .val (.int (0 : Int32)), .val (.int (-1 : Int32)), .val (.int (-1 : Int32)), .val (.int r_255)] [(.int (1 : Int32))]) t → Steps p.tables e below s0 t := fun t kk_ => P256 t (by
            refine XS.istore X255.here hx rfl (hb hby at_175) rfl (l' := #[.val (.int pa), .val (.int pb), .val (.int pc_), .val (.int pd_), .val (.int pe), .val (.ref b2), .val (.ref b24), .val (.int (1 : Int32)), .val (.int (0 : Int32)), .val (.int (-1 : Int32)), .val (.int (-1 : Int32)), .val (.int r_255)]) rfl ?_
            refine XS.iload X255.here hx rfl (hb hby at_177) rfl ?_
            refine XS.iload X255.here hx rfl (hb hby at_179) rfl ?_
            refine XS.icmpNo X255.here hx rfl (hb hby at_181) rfl (teq ((by rw [res_255]; simp [clo, hc61_169, hm113, hm137]) : r_255 = (-1 : Int32))).2 ?_
            refine XS.iconst X255.here hx rfl (hb hby at_184) ?_
            refine XS.goto X255.here hx rfl (pc0 := 185) (pc' := 189) rfl (hb hby at_185) (by decide) (by decide) ?_
            exact kk_)
          subst hs0
          obtain ⟨fs, hr, hrun, hended, hW, hsame⟩ := X255.leave (v := some (.int (nar .boolean (1 : Int32)))) (fun h => by rw [Bd.returns] at h; cases h)
          refine ⟨_, _, P257 _ ?_, hrun, hended, _, _, rfl, ?_, ⟨_, rfl⟩, hW, hsame.mono (by decide) (by decide)⟩
          · show GG p e below T255 (mkF m 189 #[.val (.int pa), .val (.int pb), .val (.int pc_), .val (.int pd_), .val (.int pe), .val (.ref b2), .val (.ref b24), .val (.int (1 : Int32)), .val (.int (0 : Int32)), .val (.int (-1 : Int32)), .val (.int (-1 : Int32)), .val (.int r_255)] [(.int (1 : Int32))]) _
            exact retN X255 hx (t := .boolean) Bd.returns (by simp) (hb hby at_189) hr
          · show Q_law Z pa pb pc_ pd_ pe G1 G3 h0 n0 _ T255.heap _
            rw [e255]
            exact ⟨rfl, N255, K27⟩
  ·
    have P258 : ∀ t, GG p e below T27 (mkF m 52 #[.val (.int pa), .val (.int pb), .val (.int pc_), .val (.int pd_), .val (.int pe), .val (.ref b2), .val (.ref b24), .unset, .unset, .unset, .unset, .unset] [(.int (2 : Int32))]) t → Steps p.tables e below s0 t := fun t kk_ => P29 t (by rw [hk]; exact kk_)
    have P259 : ∀ t, GG p e below T27 (mkF m 58 #[.val (.int pa), .val (.int pb), .val (.int pc_), .val (.int pd_), .val (.int pe), .val (.ref b2), .val (.ref b24), .val (.int (2 : Int32)), .unset, .unset, .unset, .unset] [(.int (2 : Int32)), (.ref b2)]) t → Steps p.tables e below s0 t := fun t kk_ => P258 t (by
      refine XS.istore X27.here hx rfl (hb hby at_52) rfl (l' := #[.val (.int pa), .val (.int pb), .val (.int pc_), .val (.int pd_), .val (.int pe), .val (.ref b2), .val (.ref b24), .val (.int (2 : Int32)), .unset, .unset, .unset, .unset]) rfl ?_
      refine XS.aload X27.here hx rfl (hb hby at_54) rfl rfl ?_
      refine XS.iload X27.here hx rfl (hb hby at_56) rfl ?_
      exact kk_)
    obtain ⟨cl260, Ar260, q260, S260, M260, Hs260, G260⟩ := id V_b2
    have hin260 := inb_of (j := (2 : Int32)) S260 ⟨by decide, by decide⟩
    have hat260 : cl260.slots[((2 : Int32)).toNatClampNeg]? = some (.int r_15) := Has.at Hs260 hin260 (rfl)
    have P261 : ∀ t, GG p e below T27 (mkF m 59 #[.val (.int pa), .val (.int pb), .val (.int pc_), .val (.int pd_), .val (.int pe), .val (.ref b2), .val (.ref b24), .val (.int (2 : Int32)), .unset, .unset, .unset, .unset] [(.int r_15)]) t → Steps p.tables e below s0 t := fun t kk_ => P259 t (by
      refine X27.caload hx (j := (2 : Int32)) (v := (.int r_15)) (Ar260.1) (State.isArrayOf_alike hZ.alike Ar260.2.1) Ar260.2.2 hin260 hat260 (g := (mkF m 58 #[.val (.int pa), .val (.int pb), .val (.int pc_), .val (.int pd_), .val (.int pe), .val (.ref b2), .val (.ref b24), .val (.int (2 : Int32)), .unset, .unset, .unset, .unset] [(.int (2 : Int32)), (.ref b2)])) rfl rfl (hb hby at_58) _ ?_
      exact kk_)
    have P262 : ∀ t, GG p e below T27 (mkF m 61 #[.val (.int pa), .val (.int pb), .val (.int pc_), .val (.int pd_), .val (.int pe), .val (.ref b2), .val (.ref b24), .val (.int (2 : Int32)), .unset, .unset, .unset, .unset] [(.int (34 : Int32)), (.int r_15)]) t → Steps p.tables e below s0 t := fun t kk_ => P261 t (by
      refine XS.bipush X27.here hx rfl (hb hby at_59) ?_
      exact kk_)
    by_cases hc61_263 : r_15 = (34 : Int32)
    ·
      have P264 : ∀ t, GG p e below T27 (mkF m 131 #[.val (.int pa), .val (.int pb), .val (.int pc_), .val (.int pd_), .val (.int pe), .val (.ref b2), .val (.ref b24), .val (.int (2 : Int32)), .val (.int (1 : Int32)), .val (.int (-1 : Int32)), .unset, .unset] [(.int (3 : Int32)), (.ref b2)]) t → Steps p.tables e below s0 t := fun t kk_ => P262 t (by
        refine XS.icmpNo X27.here hx rfl (hb hby at_61) rfl (teq (hc61_263 : r_15 = (34 : Int32))).2 ?_
        refine XS.iconst X27.here hx rfl (hb hby at_64) ?_
        refine XS.goto X27.here hx rfl (pc0 := 65) (pc' := 69) rfl (hb hby at_65) (by decide) (by decide) ?_
        refine XS.istore X27.here hx rfl (hb hby at_69) rfl (l' := #[.val (.int pa), .val (.int pb), .val (.int pc_), .val (.int pd_), .val (.int pe), .val (.ref b2), .val (.ref b24), .val (.int (2 : Int32)), .val (.int (1 : Int32)), .unset, .unset, .unset]) rfl ?_
        refine XS.iconst X27.here hx rfl (hb hby at_71) ?_
        refine XS.istore X27.here hx rfl (hb hby at_72) rfl (l' := #[.val (.int pa), .val (.int pb), .val (.int pc_), .val (.int pd_), .val (.int pe), .val (.ref b2), .val (.ref b24), .val (.int (2 : Int32)), .val (.int (1 : Int32)), .val (.int (-1 : Int32)), .unset, .unset]) rfl ?_
        refine XS.iload X27.here hx rfl (hb hby at_74) rfl ?_
        refine XS.iconst X27.here hx rfl (hb hby at_76) ?_
        refine XS.icmpYes X27.here hx rfl (pc0 := 77) (pc' := 98) rfl (hb hby at_77) rfl (flt ((by decide) : ¬ ((2 : Int32) < (1 : Int32)))).2.1 (by decide) (by decide) ?_
        refine XS.iload X27.here hx rfl (hb hby at_98) rfl ?_
        refine XS.iconst X27.here hx rfl (hb hby at_100) ?_
        refine XS.icmpYes X27.here hx rfl (pc0 := 101) (pc' := 122) rfl (hb hby at_101) rfl (flt ((by decide) : ¬ ((2 : Int32) < (2 : Int32)))).2.1 (by decide) (by decide) ?_
        refine XS.iload X27.here hx rfl (hb hby at_122) rfl ?_
        refine XS.iconst X27.here hx rfl (hb hby at_124) ?_
        refine XS.icmpNo X27.here hx rfl (hb hby at_125) rfl (tlt ((by decide) : (2 : Int32) < (3 : Int32))).2.1 ?_
        refine XS.aload X27.here hx rfl (hb hby at_128) rfl rfl ?_
        refine XS.iconst X27.here hx rfl (hb hby at_130) ?_
        exact kk_)
      obtain ⟨cl265, Ar265, q265, S265, M265, Hs265, G265⟩ := id V_b2
      have hin265 := inb_of (j := (3 : Int32)) S265 ⟨by decide, by decide⟩
      have hat265 : cl265.slots[((3 : Int32)).toNatClampNeg]? = some (.int r_20) := Has.at Hs265 hin265 (rfl)
      have P266 : ∀ t, GG p e below T27 (mkF m 132 #[.val (.int pa), .val (.int pb), .val (.int pc_), .val (.int pd_), .val (.int pe), .val (.ref b2), .val (.ref b24), .val (.int (2 : Int32)), .val (.int (1 : Int32)), .val (.int (-1 : Int32)), .unset, .unset] [(.int r_20)]) t → Steps p.tables e below s0 t := fun t kk_ => P264 t (by
        refine X27.caload hx (j := (3 : Int32)) (v := (.int r_20)) (Ar265.1) (State.isArrayOf_alike hZ.alike Ar265.2.1) Ar265.2.2 hin265 hat265 (g := (mkF m 131 #[.val (.int pa), .val (.int pb), .val (.int pc_), .val (.int pd_), .val (.int pe), .val (.ref b2), .val (.ref b24), .val (.int (2 : Int32)), .val (.int (1 : Int32)), .val (.int (-1 : Int32)), .unset, .unset] [(.int (3 : Int32)), (.ref b2)])) rfl rfl (hb hby at_131) _ ?_
        exact kk_)
      have P267 : ∀ t, GG p e below T27 (mkF m 134 #[.val (.int pa), .val (.int pb), .val (.int pc_), .val (.int pd_), .val (.int pe), .val (.ref b2), .val (.ref b24), .val (.int (2 : Int32)), .val (.int (1 : Int32)), .val (.int (-1 : Int32)), .unset, .unset] [(.int (1 : Int32)), (.int r_20)]) t → Steps p.tables e below s0 t := fun t kk_ => P266 t (by
        refine XS.iload X27.here hx rfl (hb hby at_132) rfl ?_
        exact kk_)
      obtain ⟨_, _, ⟨T268, L268, k268, n268⟩, -, X268, ⟨Lc268, hQ268, l268, y268, z268⟩, st268⟩ := Jvm.LawKit.callS X27 hx (y := mn_24) hown (mw hZ hw 54 rfl) (mw hZ hw 55 rfl) (mw hZ hw 3 rfl) (mw hZ hw 56 rfl) (by decide) (backOf (W := 0) (rm_stp1 l Z a0 hw [] r_20 T27.heap n0 (Nat.le_trans Z0 K27.1)) hZ (ww hw 56 rfl) (ww hw 3 rfl) (by decide) (by decide)) (g := (mkF m 134 #[.val (.int pa), .val (.int pb), .val (.int pc_), .val (.int pd_), .val (.int pe), .val (.ref b2), .val (.ref b24), .val (.int (2 : Int32)), .val (.int (1 : Int32)), .val (.int (-1 : Int32)), .unset, .unset] [(.int (1 : Int32)), (.int r_20)])) rfl (by rw [hml]; rfl) (argsL := [(.int r_20), (.int (1 : Int32))]) (rest := []) (lenOf pd_14 rfl) rfl (by show 2 * 0 + _ ≤ _; exact Nat.le_of_eq rfl) (hb hby at_134) (fun _ _ => ⟨rfl, rfl, (by decide : 4 + 0 ≤ _), (by decide : 20 + 0 ≤ _)⟩)
      dsimp only [Pt.U, Pt.locs, Pt.cells, Pt.slots] at X268 l268 y268 z268 st268 hQ268
      subst l268 y268 z268
      obtain ⟨r_268, rfl, N268q, e268, po268_0⟩ := hQ268
      have N268 := Fr.app N27 N268q
      have P269 : ∀ t, GG p e below T268 (mkF m 137 #[.val (.int pa), .val (.int pb), .val (.int pc_), .val (.int pd_), .val (.int pe), .val (.ref b2), .val (.ref b24), .val (.int (2 : Int32)), .val (.int (1 : Int32)), .val (.int (-1 : Int32)), .unset, .unset] [(.int r_268)]) t → Steps p.tables e below s0 t := fun t kk_ => P267 t (st268 _ kk_)
      have res_268 := po268_0
      rcases res_268 with hcase | hcase
      ·
        obtain ⟨rfl, hm137⟩ := hcase
        have P270 : ∀ t, GG p e below T268 (mkF m 155 #[.val (.int pa), .val (.int pb), .val (.int pc_), .val (.int pd_), .val (.int pe), .val (.ref b2), .val (.ref b24), .val (.int (2 : Int32)), .val (.int (1 : Int32)), .val (.int (3 : Int32)), .val (.int (-1 : Int32)), .unset] [(.int (3 : Int32)), (.ref b2)]) t → Steps p.tables e below s0 t := fun t kk_ => P269 t (by
          refine XS.ifNo X268.here hx rfl (hb hby at_137) rfl ((if0 _ _).trans (feq ((by decide) : ¬ ((1 : Int32) = (0 : Int32)))).1) ?_
          refine XS.iconst X268.here hx rfl (hb hby at_140) ?_
          refine XS.istore X268.here hx rfl (hb hby at_141) rfl (l' := #[.val (.int pa), .val (.int pb), .val (.int pc_), .val (.int pd_), .val (.int pe), .val (.ref b2), .val (.ref b24), .val (.int (2 : Int32)), .val (.int (1 : Int32)), .val (.int (3 : Int32)), .unset, .unset]) rfl ?_
          refine XS.iconst X268.here hx rfl (hb hby at_143) ?_
          refine XS.istore X268.here hx rfl (hb hby at_144) rfl (l' := #[.val (.int pa), .val (.int pb), .val (.int pc_), .val (.int pd_), .val (.int pe), .val (.ref b2), .val (.ref b24), .val (.int (2 : Int32)), .val (.int (1 : Int32)), .val (.int (3 : Int32)), .val (.int (-1 : Int32)), .unset]) rfl ?_
          refine XS.iload X268.here hx rfl (hb hby at_146) rfl ?_
          refine XS.ifNo X268.here hx rfl (hb hby at_148) rfl ((if0 _ _).trans (flt ((by decide) : ¬ ((3 : Int32) < (0 : Int32)))).1) ?_
          refine XS.aload X268.here hx rfl (hb hby at_151) rfl rfl ?_
          refine XS.iload X268.here hx rfl (hb hby at_153) rfl ?_
          exact kk_)
        obtain ⟨cl271, Ar271, q271, S271, M271, Hs271, G271⟩ := id V_b2
        have hin271 := inb_of (j := (3 : Int32)) S271 ⟨by decide, by decide⟩
        have hat271 : cl271.slots[((3 : Int32)).toNatClampNeg]? = some (.int r_20) := Has.at Hs271 hin271 (rfl)
        have P272 : ∀ t, GG p e below T268 (mkF m 156 #[.val (.int pa), .val (.int pb), .val (.int pc_), .val (.int pd_), .val (.int pe), .val (.ref b2), .val (.ref b24), .val (.int (2 : Int32)), .val (.int (1 : Int32)), .val (.int (3 : Int32)), .val (.int (-1 : Int32)), .unset] [(.int r_20)]) t → Steps p.tables e below s0 t := fun t kk_ => P270 t (by
          refine X268.caload hx (j := (3 : Int32)) (v := (.int r_20)) (by rw [e268]; exact Ar271.1) (State.isArrayOf_alike hZ.alike Ar271.2.1) Ar271.2.2 hin271 hat271 (g := (mkF m 155 #[.val (.int pa), .val (.int pb), .val (.int pc_), .val (.int pd_), .val (.int pe), .val (.ref b2), .val (.ref b24), .val (.int (2 : Int32)), .val (.int (1 : Int32)), .val (.int (3 : Int32)), .val (.int (-1 : Int32)), .unset] [(.int (3 : Int32)), (.ref b2)])) rfl rfl (hb hby at_155) _ ?_
          exact kk_)
        have P273 : ∀ t, GG p e below T268 (mkF m 158 #[.val (.int pa), .val (.int pb), .val (.int pc_), .val (.int pd_), .val (.int pe), .val (.ref b2), .val (.ref b24), .val (.int (2 : Int32)), .val (.int (1 : Int32)), .val (.int (3 : Int32)), .val (.int (-1 : Int32)), .unset] [(.int (1 : Int32)), (.int r_20)]) t → Steps p.tables e below s0 t := fun t kk_ => P272 t (by
          refine XS.iload X268.here hx rfl (hb hby at_156) rfl ?_
          exact kk_)
        obtain ⟨_, _, ⟨T274, L274, k274, n274⟩, -, X274, ⟨Lc274, hQ274, l274, y274, z274⟩, st274⟩ := Jvm.LawKit.callS X268 hx (y := mn_17) hown (mw hZ hw 57 rfl) (mw hZ hw 58 rfl) (mw hZ hw 3 rfl) (mw hZ hw 59 rfl) (by decide) (backOf (W := 0) (rm_mat1 l Z a0 hw [] r_20 T27.heap n0 (Nat.le_trans Z0 K27.1)) hZ (ww hw 59 rfl) (ww hw 3 rfl) (by decide) (by decide)) (g := (mkF m 158 #[.val (.int pa), .val (.int pb), .val (.int pc_), .val (.int pd_), .val (.int pe), .val (.ref b2), .val (.ref b24), .val (.int (2 : Int32)), .val (.int (1 : Int32)), .val (.int (3 : Int32)), .val (.int (-1 : Int32)), .unset] [(.int (1 : Int32)), (.int r_20)])) rfl (by rw [hml]; rfl) (argsL := [(.int r_20), (.int (1 : Int32))]) (rest := []) (lenOf pd_14 rfl) rfl (by show 2 * 0 + _ ≤ _; exact Nat.le_of_eq rfl) (hb hby at_158) (fun _ _ => ⟨rfl, e268, (by decide : 4 + 0 ≤ _), (by decide : 20 + 0 ≤ _)⟩)
        dsimp only [Pt.U, Pt.locs, Pt.cells, Pt.slots] at X274 l274 y274 z274 st274 hQ274
        subst l274 y274 z274
        obtain ⟨r_274, rfl, N274q, e274, po274_0⟩ := hQ274
        have N274 := Fr.app N268 N274q
        have P275 : ∀ t, GG p e below T274 (mkF m 161 #[.val (.int pa), .val (.int pb), .val (.int pc_), .val (.int pd_), .val (.int pe), .val (.ref b2), .val (.ref b24), .val (.int (2 : Int32)), .val (.int (1 : Int32)), .val (.int (3 : Int32)), .val (.int (-1 : Int32)), .unset] [(.int r_274)]) t → Steps p.tables e below s0 t := fun t kk_ => P273 t (st274 _ kk_)
        have res_274 := po274_0
        rcases res_274 with hcase | hcase
        ·
          obtain ⟨rfl, hm161⟩ := hcase
          have P276 : ∀ t, GG p e below T274 (mkF m 172 #[.val (.int pa), .val (.int pb), .val (.int pc_), .val (.int pd_), .val (.int pe), .val (.ref b2), .val (.ref b24), .val (.int (2 : Int32)), .val (.int (1 : Int32)), .val (.int (3 : Int32)), .val (.int (3 : Int32)), .unset] [(.int (2 : Int32)), (.ref b24)]) t → Steps p.tables e below s0 t := fun t kk_ => P275 t (by
            refine XS.ifNo X274.here hx rfl (hb hby at_161) rfl ((if0 _ _).trans (feq ((by decide) : ¬ ((1 : Int32) = (0 : Int32)))).1) ?_
            refine XS.iload X274.here hx rfl (hb hby at_164) rfl ?_
            refine XS.istore X274.here hx rfl (hb hby at_166) rfl (l' := #[.val (.int pa), .val (.int pb), .val (.int pc_), .val (.int pd_), .val (.int pe), .val (.ref b2), .val (.ref b24), .val (.int (2 : Int32)), .val (.int (1 : Int32)), .val (.int (3 : Int32)), .val (.int (3 : Int32)), .unset]) rfl ?_
            refine XS.aload X274.here hx rfl (hb hby at_168) rfl rfl ?_
            refine XS.iload X274.here hx rfl (hb hby at_170) rfl ?_
            exact kk_)
          obtain ⟨_, _, ⟨T277, L277, k277, n277⟩, -, X277, ⟨Lc277, hQ277, l277, y277, z277⟩, st277⟩ := Jvm.LawKit.callS X274 hx (y := mn_25) hown (mw hZ hw 60 rfl) (mw hZ hw 61 rfl) (mw hZ hw 62 rfl) (mw hZ hw 63 rfl) (by decide) (backOf (W := 0) (rm_clo2 l Z a0 hw [] b24 t_27 kb_27 cd_27 nB_27 vs_27 r_5 r_10 r_15 r_20 G1 G3 T27.heap n0 (Nat.le_trans Z0 K27.1) E_b24 F_value_b24 F_coder_b24 V_t_27 S_COMPACT_STRINGS S__assertionsDisabled S_HI_BYTE_SHIFT S_LO_BYTE_SHIFT S_SIOOBE_FORMATTER OL hz rG3 s4_27 ir_5 ir_10 ir_15 ir_20) hZ (ww hw 63 rfl) (ww hw 62 rfl) (by decide) (by decide)) (g := (mkF m 172 #[.val (.int pa), .val (.int pb), .val (.int pc_), .val (.int pd_), .val (.int pe), .val (.ref b2), .val (.ref b24), .val (.int (2 : Int32)), .val (.int (1 : Int32)), .val (.int (3 : Int32)), .val (.int (3 : Int32)), .unset] [(.int (2 : Int32)), (.ref b24)])) rfl (by rw [hml]; rfl) (argsL := [(.ref b24), (.int (2 : Int32))]) (rest := []) (lenOf pd_18 rfl) rfl (by show 2 * 0 + _ ≤ _; exact Nat.le_of_eq rfl) (hb hby at_172) (fun _ _ => ⟨rfl, e274, (by decide : 4 + 0 ≤ _), (by decide : 20 + 0 ≤ _)⟩)
          dsimp only [Pt.U, Pt.locs, Pt.cells, Pt.slots] at X277 l277 y277 z277 st277 hQ277
          subst l277 y277 z277
          obtain ⟨r_277, rfl, N277q, e277, po277_0⟩ := hQ277
          have N277 := Fr.app N274 N277q
          have P278 : ∀ t, GG p e below T277 (mkF m 175 #[.val (.int pa), .val (.int pb), .val (.int pc_), .val (.int pd_), .val (.int pe), .val (.ref b2), .val (.ref b24), .val (.int (2 : Int32)), .val (.int (1 : Int32)), .val (.int (3 : Int32)), .val (.int (3 : Int32)), .unset] [(.int r_277)]) t → Steps p.tables e below s0 t := fun t kk_ => P276 t (st277 _ kk_)
          have res_277 := po277_0
          have P279 : ∀ t, GG p e below T277 (mkF m 189 #[.val (.int pa), .val (.int pb), .val (.int pc_), .val (.int pd_), .val (.int pe), .val (.ref b2), .val (.ref b24), .val (.int (2 : Int32)), .val (.int (1 : Int32)), .val (.int (3 : Int32)), .val (.int (3 : Int32)), .val (.int r_277)] [(.int (1 : Int32))]) t → Steps p.tables e below s0 t := fun t kk_ => P278 t (by
            refine XS.istore X277.here hx rfl (hb hby at_175) rfl (l' := #[.val (.int pa), .val (.int pb), .val (.int pc_), .val (.int pd_), .val (.int pe), .val (.ref b2), .val (.ref b24), .val (.int (2 : Int32)), .val (.int (1 : Int32)), .val (.int (3 : Int32)), .val (.int (3 : Int32)), .val (.int r_277)]) rfl ?_
            refine XS.iload X277.here hx rfl (hb hby at_177) rfl ?_
            refine XS.iload X277.here hx rfl (hb hby at_179) rfl ?_
            refine XS.icmpNo X277.here hx rfl (hb hby at_181) rfl (teq ((by rw [res_277]; simp [clo, hc61_263, hm137, hm161]) : r_277 = (3 : Int32))).2 ?_
            refine XS.iconst X277.here hx rfl (hb hby at_184) ?_
            refine XS.goto X277.here hx rfl (pc0 := 185) (pc' := 189) rfl (hb hby at_185) (by decide) (by decide) ?_
            exact kk_)
          subst hs0
          obtain ⟨fs, hr, hrun, hended, hW, hsame⟩ := X277.leave (v := some (.int (nar .boolean (1 : Int32)))) (fun h => by rw [Bd.returns] at h; cases h)
          refine ⟨_, _, P279 _ ?_, hrun, hended, _, _, rfl, ?_, ⟨_, rfl⟩, hW, hsame.mono (by decide) (by decide)⟩
          · show GG p e below T277 (mkF m 189 #[.val (.int pa), .val (.int pb), .val (.int pc_), .val (.int pd_), .val (.int pe), .val (.ref b2), .val (.ref b24), .val (.int (2 : Int32)), .val (.int (1 : Int32)), .val (.int (3 : Int32)), .val (.int (3 : Int32)), .val (.int r_277)] [(.int (1 : Int32))]) _
            exact retN X277 hx (t := .boolean) Bd.returns (by simp) (hb hby at_189) hr
          · show Q_law Z pa pb pc_ pd_ pe G1 G3 h0 n0 _ T277.heap _
            rw [e277]
            exact ⟨rfl, N277, K27⟩
        ·
          obtain ⟨rfl, hm161⟩ := hcase
          have P280 : ∀ t, GG p e below T274 (mkF m 172 #[.val (.int pa), .val (.int pb), .val (.int pc_), .val (.int pd_), .val (.int pe), .val (.ref b2), .val (.ref b24), .val (.int (2 : Int32)), .val (.int (1 : Int32)), .val (.int (3 : Int32)), .val (.int (-1 : Int32)), .unset] [(.int (2 : Int32)), (.ref b24)]) t → Steps p.tables e below s0 t := fun t kk_ => P275 t (by
            refine XS.ifYes X274.here hx rfl (pc0 := 161) (pc' := 168) rfl (hb hby at_161) rfl ((if0 _ _).trans (teq ((by decide) : (0 : Int32) = (0 : Int32))).1) (by decide) (by decide) ?_
            refine XS.aload X274.here hx rfl (hb hby at_168) rfl rfl ?_
            refine XS.iload X274.here hx rfl (hb hby at_170) rfl ?_
            exact kk_)
          obtain ⟨_, _, ⟨T281, L281, k281, n281⟩, -, X281, ⟨Lc281, hQ281, l281, y281, z281⟩, st281⟩ := Jvm.LawKit.callS X274 hx (y := mn_25) hown (mw hZ hw 60 rfl) (mw hZ hw 61 rfl) (mw hZ hw 62 rfl) (mw hZ hw 63 rfl) (by decide) (backOf (W := 0) (rm_clo2 l Z a0 hw [] b24 t_27 kb_27 cd_27 nB_27 vs_27 r_5 r_10 r_15 r_20 G1 G3 T27.heap n0 (Nat.le_trans Z0 K27.1) E_b24 F_value_b24 F_coder_b24 V_t_27 S_COMPACT_STRINGS S__assertionsDisabled S_HI_BYTE_SHIFT S_LO_BYTE_SHIFT S_SIOOBE_FORMATTER OL hz rG3 s4_27 ir_5 ir_10 ir_15 ir_20) hZ (ww hw 63 rfl) (ww hw 62 rfl) (by decide) (by decide)) (g := (mkF m 172 #[.val (.int pa), .val (.int pb), .val (.int pc_), .val (.int pd_), .val (.int pe), .val (.ref b2), .val (.ref b24), .val (.int (2 : Int32)), .val (.int (1 : Int32)), .val (.int (3 : Int32)), .val (.int (-1 : Int32)), .unset] [(.int (2 : Int32)), (.ref b24)])) rfl (by rw [hml]; rfl) (argsL := [(.ref b24), (.int (2 : Int32))]) (rest := []) (lenOf pd_18 rfl) rfl (by show 2 * 0 + _ ≤ _; exact Nat.le_of_eq rfl) (hb hby at_172) (fun _ _ => ⟨rfl, e274, (by decide : 4 + 0 ≤ _), (by decide : 20 + 0 ≤ _)⟩)
          dsimp only [Pt.U, Pt.locs, Pt.cells, Pt.slots] at X281 l281 y281 z281 st281 hQ281
          subst l281 y281 z281
          obtain ⟨r_281, rfl, N281q, e281, po281_0⟩ := hQ281
          have N281 := Fr.app N274 N281q
          have P282 : ∀ t, GG p e below T281 (mkF m 175 #[.val (.int pa), .val (.int pb), .val (.int pc_), .val (.int pd_), .val (.int pe), .val (.ref b2), .val (.ref b24), .val (.int (2 : Int32)), .val (.int (1 : Int32)), .val (.int (3 : Int32)), .val (.int (-1 : Int32)), .unset] [(.int r_281)]) t → Steps p.tables e below s0 t := fun t kk_ => P280 t (st281 _ kk_)
          have res_281 := po281_0
          have P283 : ∀ t, GG p e below T281 (mkF m 189 #[.val (.int pa), .val (.int pb), .val (.int pc_), .val (.int pd_), .val (.int pe), .val (.ref b2), .val (.ref b24), .val (.int (2 : Int32)), .val (.int (1 : Int32)), .val (.int (3 : Int32)), .val (.int (-1 : Int32)), .val (.int r_281)] [(.int (1 : Int32))]) t → Steps p.tables e below s0 t := fun t kk_ => P282 t (by
            refine XS.istore X281.here hx rfl (hb hby at_175) rfl (l' := #[.val (.int pa), .val (.int pb), .val (.int pc_), .val (.int pd_), .val (.int pe), .val (.ref b2), .val (.ref b24), .val (.int (2 : Int32)), .val (.int (1 : Int32)), .val (.int (3 : Int32)), .val (.int (-1 : Int32)), .val (.int r_281)]) rfl ?_
            refine XS.iload X281.here hx rfl (hb hby at_177) rfl ?_
            refine XS.iload X281.here hx rfl (hb hby at_179) rfl ?_
            refine XS.icmpNo X281.here hx rfl (hb hby at_181) rfl (teq ((absurd hm137 hm161) : r_281 = (-1 : Int32))).2 ?_
            refine XS.iconst X281.here hx rfl (hb hby at_184) ?_
            refine XS.goto X281.here hx rfl (pc0 := 185) (pc' := 189) rfl (hb hby at_185) (by decide) (by decide) ?_
            exact kk_)
          subst hs0
          obtain ⟨fs, hr, hrun, hended, hW, hsame⟩ := X281.leave (v := some (.int (nar .boolean (1 : Int32)))) (fun h => by rw [Bd.returns] at h; cases h)
          refine ⟨_, _, P283 _ ?_, hrun, hended, _, _, rfl, ?_, ⟨_, rfl⟩, hW, hsame.mono (by decide) (by decide)⟩
          · show GG p e below T281 (mkF m 189 #[.val (.int pa), .val (.int pb), .val (.int pc_), .val (.int pd_), .val (.int pe), .val (.ref b2), .val (.ref b24), .val (.int (2 : Int32)), .val (.int (1 : Int32)), .val (.int (3 : Int32)), .val (.int (-1 : Int32)), .val (.int r_281)] [(.int (1 : Int32))]) _
            exact retN X281 hx (t := .boolean) Bd.returns (by simp) (hb hby at_189) hr
          · show Q_law Z pa pb pc_ pd_ pe G1 G3 h0 n0 _ T281.heap _
            rw [e281]
            exact ⟨rfl, N281, K27⟩
      ·
        obtain ⟨rfl, hm137⟩ := hcase
        have P284 : ∀ t, GG p e below T268 (mkF m 172 #[.val (.int pa), .val (.int pb), .val (.int pc_), .val (.int pd_), .val (.int pe), .val (.ref b2), .val (.ref b24), .val (.int (2 : Int32)), .val (.int (1 : Int32)), .val (.int (-1 : Int32)), .val (.int (-1 : Int32)), .unset] [(.int (2 : Int32)), (.ref b24)]) t → Steps p.tables e below s0 t := fun t kk_ => P269 t (by
          refine XS.ifYes X268.here hx rfl (pc0 := 137) (pc' := 143) rfl (hb hby at_137) rfl ((if0 _ _).trans (teq ((by decide) : (0 : Int32) = (0 : Int32))).1) (by decide) (by decide) ?_
          refine XS.iconst X268.here hx rfl (hb hby at_143) ?_
          refine XS.istore X268.here hx rfl (hb hby at_144) rfl (l' := #[.val (.int pa), .val (.int pb), .val (.int pc_), .val (.int pd_), .val (.int pe), .val (.ref b2), .val (.ref b24), .val (.int (2 : Int32)), .val (.int (1 : Int32)), .val (.int (-1 : Int32)), .val (.int (-1 : Int32)), .unset]) rfl ?_
          refine XS.iload X268.here hx rfl (hb hby at_146) rfl ?_
          refine XS.ifYes X268.here hx rfl (pc0 := 148) (pc' := 168) rfl (hb hby at_148) rfl ((if0 _ _).trans (tlt ((by decide) : (-1 : Int32) < (0 : Int32))).1) (by decide) (by decide) ?_
          refine XS.aload X268.here hx rfl (hb hby at_168) rfl rfl ?_
          refine XS.iload X268.here hx rfl (hb hby at_170) rfl ?_
          exact kk_)
        obtain ⟨_, _, ⟨T285, L285, k285, n285⟩, -, X285, ⟨Lc285, hQ285, l285, y285, z285⟩, st285⟩ := Jvm.LawKit.callS X268 hx (y := mn_25) hown (mw hZ hw 60 rfl) (mw hZ hw 61 rfl) (mw hZ hw 62 rfl) (mw hZ hw 63 rfl) (by decide) (backOf (W := 0) (rm_clo2 l Z a0 hw [] b24 t_27 kb_27 cd_27 nB_27 vs_27 r_5 r_10 r_15 r_20 G1 G3 T27.heap n0 (Nat.le_trans Z0 K27.1) E_b24 F_value_b24 F_coder_b24 V_t_27 S_COMPACT_STRINGS S__assertionsDisabled S_HI_BYTE_SHIFT S_LO_BYTE_SHIFT S_SIOOBE_FORMATTER OL hz rG3 s4_27 ir_5 ir_10 ir_15 ir_20) hZ (ww hw 63 rfl) (ww hw 62 rfl) (by decide) (by decide)) (g := (mkF m 172 #[.val (.int pa), .val (.int pb), .val (.int pc_), .val (.int pd_), .val (.int pe), .val (.ref b2), .val (.ref b24), .val (.int (2 : Int32)), .val (.int (1 : Int32)), .val (.int (-1 : Int32)), .val (.int (-1 : Int32)), .unset] [(.int (2 : Int32)), (.ref b24)])) rfl (by rw [hml]; rfl) (argsL := [(.ref b24), (.int (2 : Int32))]) (rest := []) (lenOf pd_18 rfl) rfl (by show 2 * 0 + _ ≤ _; exact Nat.le_of_eq rfl) (hb hby at_172) (fun _ _ => ⟨rfl, e268, (by decide : 4 + 0 ≤ _), (by decide : 20 + 0 ≤ _)⟩)
        dsimp only [Pt.U, Pt.locs, Pt.cells, Pt.slots] at X285 l285 y285 z285 st285 hQ285
        subst l285 y285 z285
        obtain ⟨r_285, rfl, N285q, e285, po285_0⟩ := hQ285
        have N285 := Fr.app N268 N285q
        have P286 : ∀ t, GG p e below T285 (mkF m 175 #[.val (.int pa), .val (.int pb), .val (.int pc_), .val (.int pd_), .val (.int pe), .val (.ref b2), .val (.ref b24), .val (.int (2 : Int32)), .val (.int (1 : Int32)), .val (.int (-1 : Int32)), .val (.int (-1 : Int32)), .unset] [(.int r_285)]) t → Steps p.tables e below s0 t := fun t kk_ => P284 t (st285 _ kk_)
        have res_285 := po285_0
        have P287 : ∀ t, GG p e below T285 (mkF m 189 #[.val (.int pa), .val (.int pb), .val (.int pc_), .val (.int pd_), .val (.int pe), .val (.ref b2), .val (.ref b24), .val (.int (2 : Int32)), .val (.int (1 : Int32)), .val (.int (-1 : Int32)), .val (.int (-1 : Int32)), .val (.int r_285)] [(.int (1 : Int32))]) t → Steps p.tables e below s0 t := fun t kk_ => P286 t (by
          refine XS.istore X285.here hx rfl (hb hby at_175) rfl (l' := #[.val (.int pa), .val (.int pb), .val (.int pc_), .val (.int pd_), .val (.int pe), .val (.ref b2), .val (.ref b24), .val (.int (2 : Int32)), .val (.int (1 : Int32)), .val (.int (-1 : Int32)), .val (.int (-1 : Int32)), .val (.int r_285)]) rfl ?_
          refine XS.iload X285.here hx rfl (hb hby at_177) rfl ?_
          refine XS.iload X285.here hx rfl (hb hby at_179) rfl ?_
          refine XS.icmpNo X285.here hx rfl (hb hby at_181) rfl (teq ((by rw [res_285]; simp [clo, hc61_263, hm137]) : r_285 = (-1 : Int32))).2 ?_
          refine XS.iconst X285.here hx rfl (hb hby at_184) ?_
          refine XS.goto X285.here hx rfl (pc0 := 185) (pc' := 189) rfl (hb hby at_185) (by decide) (by decide) ?_
          exact kk_)
        subst hs0
        obtain ⟨fs, hr, hrun, hended, hW, hsame⟩ := X285.leave (v := some (.int (nar .boolean (1 : Int32)))) (fun h => by rw [Bd.returns] at h; cases h)
        refine ⟨_, _, P287 _ ?_, hrun, hended, _, _, rfl, ?_, ⟨_, rfl⟩, hW, hsame.mono (by decide) (by decide)⟩
        · show GG p e below T285 (mkF m 189 #[.val (.int pa), .val (.int pb), .val (.int pc_), .val (.int pd_), .val (.int pe), .val (.ref b2), .val (.ref b24), .val (.int (2 : Int32)), .val (.int (1 : Int32)), .val (.int (-1 : Int32)), .val (.int (-1 : Int32)), .val (.int r_285)] [(.int (1 : Int32))]) _
          exact retN X285 hx (t := .boolean) Bd.returns (by simp) (hb hby at_189) hr
        · show Q_law Z pa pb pc_ pd_ pe G1 G3 h0 n0 _ T285.heap _
          rw [e285]
          exact ⟨rfl, N285, K27⟩
    ·
      have P288 : ∀ t, GG p e below T27 (mkF m 131 #[.val (.int pa), .val (.int pb), .val (.int pc_), .val (.int pd_), .val (.int pe), .val (.ref b2), .val (.ref b24), .val (.int (2 : Int32)), .val (.int (0 : Int32)), .val (.int (-1 : Int32)), .unset, .unset] [(.int (3 : Int32)), (.ref b2)]) t → Steps p.tables e below s0 t := fun t kk_ => P262 t (by
        refine XS.icmpYes X27.here hx rfl (pc0 := 61) (pc' := 68) rfl (hb hby at_61) rfl (feq (hc61_263 : ¬ (r_15 = (34 : Int32)))).2 (by decide) (by decide) ?_
        refine XS.iconst X27.here hx rfl (hb hby at_68) ?_
        refine XS.istore X27.here hx rfl (hb hby at_69) rfl (l' := #[.val (.int pa), .val (.int pb), .val (.int pc_), .val (.int pd_), .val (.int pe), .val (.ref b2), .val (.ref b24), .val (.int (2 : Int32)), .val (.int (0 : Int32)), .unset, .unset, .unset]) rfl ?_
        refine XS.iconst X27.here hx rfl (hb hby at_71) ?_
        refine XS.istore X27.here hx rfl (hb hby at_72) rfl (l' := #[.val (.int pa), .val (.int pb), .val (.int pc_), .val (.int pd_), .val (.int pe), .val (.ref b2), .val (.ref b24), .val (.int (2 : Int32)), .val (.int (0 : Int32)), .val (.int (-1 : Int32)), .unset, .unset]) rfl ?_
        refine XS.iload X27.here hx rfl (hb hby at_74) rfl ?_
        refine XS.iconst X27.here hx rfl (hb hby at_76) ?_
        refine XS.icmpYes X27.here hx rfl (pc0 := 77) (pc' := 98) rfl (hb hby at_77) rfl (flt ((by decide) : ¬ ((2 : Int32) < (1 : Int32)))).2.1 (by decide) (by decide) ?_
        refine XS.iload X27.here hx rfl (hb hby at_98) rfl ?_
        refine XS.iconst X27.here hx rfl (hb hby at_100) ?_
        refine XS.icmpYes X27.here hx rfl (pc0 := 101) (pc' := 122) rfl (hb hby at_101) rfl (flt ((by decide) : ¬ ((2 : Int32) < (2 : Int32)))).2.1 (by decide) (by decide) ?_
        refine XS.iload X27.here hx rfl (hb hby at_122) rfl ?_
        refine XS.iconst X27.here hx rfl (hb hby at_124) ?_
        refine XS.icmpNo X27.here hx rfl (hb hby at_125) rfl (tlt ((by decide) : (2 : Int32) < (3 : Int32))).2.1 ?_
        refine XS.aload X27.here hx rfl (hb hby at_128) rfl rfl ?_
        refine XS.iconst X27.here hx rfl (hb hby at_130) ?_
        exact kk_)
      obtain ⟨cl289, Ar289, q289, S289, M289, Hs289, G289⟩ := id V_b2
      have hin289 := inb_of (j := (3 : Int32)) S289 ⟨by decide, by decide⟩
      have hat289 : cl289.slots[((3 : Int32)).toNatClampNeg]? = some (.int r_20) := Has.at Hs289 hin289 (rfl)
      have P290 : ∀ t, GG p e below T27 (mkF m 132 #[.val (.int pa), .val (.int pb), .val (.int pc_), .val (.int pd_), .val (.int pe), .val (.ref b2), .val (.ref b24), .val (.int (2 : Int32)), .val (.int (0 : Int32)), .val (.int (-1 : Int32)), .unset, .unset] [(.int r_20)]) t → Steps p.tables e below s0 t := fun t kk_ => P288 t (by
        refine X27.caload hx (j := (3 : Int32)) (v := (.int r_20)) (Ar289.1) (State.isArrayOf_alike hZ.alike Ar289.2.1) Ar289.2.2 hin289 hat289 (g := (mkF m 131 #[.val (.int pa), .val (.int pb), .val (.int pc_), .val (.int pd_), .val (.int pe), .val (.ref b2), .val (.ref b24), .val (.int (2 : Int32)), .val (.int (0 : Int32)), .val (.int (-1 : Int32)), .unset, .unset] [(.int (3 : Int32)), (.ref b2)])) rfl rfl (hb hby at_131) _ ?_
        exact kk_)
      have P291 : ∀ t, GG p e below T27 (mkF m 134 #[.val (.int pa), .val (.int pb), .val (.int pc_), .val (.int pd_), .val (.int pe), .val (.ref b2), .val (.ref b24), .val (.int (2 : Int32)), .val (.int (0 : Int32)), .val (.int (-1 : Int32)), .unset, .unset] [(.int (0 : Int32)), (.int r_20)]) t → Steps p.tables e below s0 t := fun t kk_ => P290 t (by
        refine XS.iload X27.here hx rfl (hb hby at_132) rfl ?_
        exact kk_)
      obtain ⟨_, _, ⟨T292, L292, k292, n292⟩, -, X292, ⟨Lc292, hQ292, l292, y292, z292⟩, st292⟩ := Jvm.LawKit.callS X27 hx (y := mn_24) hown (mw hZ hw 54 rfl) (mw hZ hw 55 rfl) (mw hZ hw 3 rfl) (mw hZ hw 56 rfl) (by decide) (backOf (W := 0) (rm_stp0 l Z a0 hw [] r_20 T27.heap n0 (Nat.le_trans Z0 K27.1)) hZ (ww hw 56 rfl) (ww hw 3 rfl) (by decide) (by decide)) (g := (mkF m 134 #[.val (.int pa), .val (.int pb), .val (.int pc_), .val (.int pd_), .val (.int pe), .val (.ref b2), .val (.ref b24), .val (.int (2 : Int32)), .val (.int (0 : Int32)), .val (.int (-1 : Int32)), .unset, .unset] [(.int (0 : Int32)), (.int r_20)])) rfl (by rw [hml]; rfl) (argsL := [(.int r_20), (.int (0 : Int32))]) (rest := []) (lenOf pd_14 rfl) rfl (by show 2 * 0 + _ ≤ _; exact Nat.le_of_eq rfl) (hb hby at_134) (fun _ _ => ⟨rfl, rfl, (by decide : 4 + 0 ≤ _), (by decide : 20 + 0 ≤ _)⟩)
      dsimp only [Pt.U, Pt.locs, Pt.cells, Pt.slots] at X292 l292 y292 z292 st292 hQ292
      subst l292 y292 z292
      obtain ⟨r_292, rfl, N292q, e292, po292_0⟩ := hQ292
      have N292 := Fr.app N27 N292q
      have P293 : ∀ t, GG p e below T292 (mkF m 137 #[.val (.int pa), .val (.int pb), .val (.int pc_), .val (.int pd_), .val (.int pe), .val (.ref b2), .val (.ref b24), .val (.int (2 : Int32)), .val (.int (0 : Int32)), .val (.int (-1 : Int32)), .unset, .unset] [(.int r_292)]) t → Steps p.tables e below s0 t := fun t kk_ => P291 t (st292 _ kk_)
      have res_292 := po292_0
      rcases res_292 with hcase | hcase
      ·
        obtain ⟨rfl, hm137⟩ := hcase
        have P294 : ∀ t, GG p e below T292 (mkF m 155 #[.val (.int pa), .val (.int pb), .val (.int pc_), .val (.int pd_), .val (.int pe), .val (.ref b2), .val (.ref b24), .val (.int (2 : Int32)), .val (.int (0 : Int32)), .val (.int (3 : Int32)), .val (.int (-1 : Int32)), .unset] [(.int (3 : Int32)), (.ref b2)]) t → Steps p.tables e below s0 t := fun t kk_ => P293 t (by
          refine XS.ifNo X292.here hx rfl (hb hby at_137) rfl ((if0 _ _).trans (feq ((by decide) : ¬ ((1 : Int32) = (0 : Int32)))).1) ?_
          refine XS.iconst X292.here hx rfl (hb hby at_140) ?_
          refine XS.istore X292.here hx rfl (hb hby at_141) rfl (l' := #[.val (.int pa), .val (.int pb), .val (.int pc_), .val (.int pd_), .val (.int pe), .val (.ref b2), .val (.ref b24), .val (.int (2 : Int32)), .val (.int (0 : Int32)), .val (.int (3 : Int32)), .unset, .unset]) rfl ?_
          refine XS.iconst X292.here hx rfl (hb hby at_143) ?_
          refine XS.istore X292.here hx rfl (hb hby at_144) rfl (l' := #[.val (.int pa), .val (.int pb), .val (.int pc_), .val (.int pd_), .val (.int pe), .val (.ref b2), .val (.ref b24), .val (.int (2 : Int32)), .val (.int (0 : Int32)), .val (.int (3 : Int32)), .val (.int (-1 : Int32)), .unset]) rfl ?_
          refine XS.iload X292.here hx rfl (hb hby at_146) rfl ?_
          refine XS.ifNo X292.here hx rfl (hb hby at_148) rfl ((if0 _ _).trans (flt ((by decide) : ¬ ((3 : Int32) < (0 : Int32)))).1) ?_
          refine XS.aload X292.here hx rfl (hb hby at_151) rfl rfl ?_
          refine XS.iload X292.here hx rfl (hb hby at_153) rfl ?_
          exact kk_)
        obtain ⟨cl295, Ar295, q295, S295, M295, Hs295, G295⟩ := id V_b2
        have hin295 := inb_of (j := (3 : Int32)) S295 ⟨by decide, by decide⟩
        have hat295 : cl295.slots[((3 : Int32)).toNatClampNeg]? = some (.int r_20) := Has.at Hs295 hin295 (rfl)
        have P296 : ∀ t, GG p e below T292 (mkF m 156 #[.val (.int pa), .val (.int pb), .val (.int pc_), .val (.int pd_), .val (.int pe), .val (.ref b2), .val (.ref b24), .val (.int (2 : Int32)), .val (.int (0 : Int32)), .val (.int (3 : Int32)), .val (.int (-1 : Int32)), .unset] [(.int r_20)]) t → Steps p.tables e below s0 t := fun t kk_ => P294 t (by
          refine X292.caload hx (j := (3 : Int32)) (v := (.int r_20)) (by rw [e292]; exact Ar295.1) (State.isArrayOf_alike hZ.alike Ar295.2.1) Ar295.2.2 hin295 hat295 (g := (mkF m 155 #[.val (.int pa), .val (.int pb), .val (.int pc_), .val (.int pd_), .val (.int pe), .val (.ref b2), .val (.ref b24), .val (.int (2 : Int32)), .val (.int (0 : Int32)), .val (.int (3 : Int32)), .val (.int (-1 : Int32)), .unset] [(.int (3 : Int32)), (.ref b2)])) rfl rfl (hb hby at_155) _ ?_
          exact kk_)
        have P297 : ∀ t, GG p e below T292 (mkF m 158 #[.val (.int pa), .val (.int pb), .val (.int pc_), .val (.int pd_), .val (.int pe), .val (.ref b2), .val (.ref b24), .val (.int (2 : Int32)), .val (.int (0 : Int32)), .val (.int (3 : Int32)), .val (.int (-1 : Int32)), .unset] [(.int (0 : Int32)), (.int r_20)]) t → Steps p.tables e below s0 t := fun t kk_ => P296 t (by
          refine XS.iload X292.here hx rfl (hb hby at_156) rfl ?_
          exact kk_)
        obtain ⟨_, _, ⟨T298, L298, k298, n298⟩, -, X298, ⟨Lc298, hQ298, l298, y298, z298⟩, st298⟩ := Jvm.LawKit.callS X292 hx (y := mn_17) hown (mw hZ hw 57 rfl) (mw hZ hw 58 rfl) (mw hZ hw 3 rfl) (mw hZ hw 59 rfl) (by decide) (backOf (W := 0) (rm_mat0 l Z a0 hw [] r_20 T27.heap n0 (Nat.le_trans Z0 K27.1)) hZ (ww hw 59 rfl) (ww hw 3 rfl) (by decide) (by decide)) (g := (mkF m 158 #[.val (.int pa), .val (.int pb), .val (.int pc_), .val (.int pd_), .val (.int pe), .val (.ref b2), .val (.ref b24), .val (.int (2 : Int32)), .val (.int (0 : Int32)), .val (.int (3 : Int32)), .val (.int (-1 : Int32)), .unset] [(.int (0 : Int32)), (.int r_20)])) rfl (by rw [hml]; rfl) (argsL := [(.int r_20), (.int (0 : Int32))]) (rest := []) (lenOf pd_14 rfl) rfl (by show 2 * 0 + _ ≤ _; exact Nat.le_of_eq rfl) (hb hby at_158) (fun _ _ => ⟨rfl, e292, (by decide : 4 + 0 ≤ _), (by decide : 20 + 0 ≤ _)⟩)
        dsimp only [Pt.U, Pt.locs, Pt.cells, Pt.slots] at X298 l298 y298 z298 st298 hQ298
        subst l298 y298 z298
        obtain ⟨r_298, rfl, N298q, e298, po298_0⟩ := hQ298
        have N298 := Fr.app N292 N298q
        have P299 : ∀ t, GG p e below T298 (mkF m 161 #[.val (.int pa), .val (.int pb), .val (.int pc_), .val (.int pd_), .val (.int pe), .val (.ref b2), .val (.ref b24), .val (.int (2 : Int32)), .val (.int (0 : Int32)), .val (.int (3 : Int32)), .val (.int (-1 : Int32)), .unset] [(.int r_298)]) t → Steps p.tables e below s0 t := fun t kk_ => P297 t (st298 _ kk_)
        have res_298 := po298_0
        rcases res_298 with hcase | hcase
        ·
          obtain ⟨rfl, hm161⟩ := hcase
          have P300 : ∀ t, GG p e below T298 (mkF m 172 #[.val (.int pa), .val (.int pb), .val (.int pc_), .val (.int pd_), .val (.int pe), .val (.ref b2), .val (.ref b24), .val (.int (2 : Int32)), .val (.int (0 : Int32)), .val (.int (3 : Int32)), .val (.int (3 : Int32)), .unset] [(.int (2 : Int32)), (.ref b24)]) t → Steps p.tables e below s0 t := fun t kk_ => P299 t (by
            refine XS.ifNo X298.here hx rfl (hb hby at_161) rfl ((if0 _ _).trans (feq ((by decide) : ¬ ((1 : Int32) = (0 : Int32)))).1) ?_
            refine XS.iload X298.here hx rfl (hb hby at_164) rfl ?_
            refine XS.istore X298.here hx rfl (hb hby at_166) rfl (l' := #[.val (.int pa), .val (.int pb), .val (.int pc_), .val (.int pd_), .val (.int pe), .val (.ref b2), .val (.ref b24), .val (.int (2 : Int32)), .val (.int (0 : Int32)), .val (.int (3 : Int32)), .val (.int (3 : Int32)), .unset]) rfl ?_
            refine XS.aload X298.here hx rfl (hb hby at_168) rfl rfl ?_
            refine XS.iload X298.here hx rfl (hb hby at_170) rfl ?_
            exact kk_)
          obtain ⟨_, _, ⟨T301, L301, k301, n301⟩, -, X301, ⟨Lc301, hQ301, l301, y301, z301⟩, st301⟩ := Jvm.LawKit.callS X298 hx (y := mn_25) hown (mw hZ hw 60 rfl) (mw hZ hw 61 rfl) (mw hZ hw 62 rfl) (mw hZ hw 63 rfl) (by decide) (backOf (W := 0) (rm_clo2 l Z a0 hw [] b24 t_27 kb_27 cd_27 nB_27 vs_27 r_5 r_10 r_15 r_20 G1 G3 T27.heap n0 (Nat.le_trans Z0 K27.1) E_b24 F_value_b24 F_coder_b24 V_t_27 S_COMPACT_STRINGS S__assertionsDisabled S_HI_BYTE_SHIFT S_LO_BYTE_SHIFT S_SIOOBE_FORMATTER OL hz rG3 s4_27 ir_5 ir_10 ir_15 ir_20) hZ (ww hw 63 rfl) (ww hw 62 rfl) (by decide) (by decide)) (g := (mkF m 172 #[.val (.int pa), .val (.int pb), .val (.int pc_), .val (.int pd_), .val (.int pe), .val (.ref b2), .val (.ref b24), .val (.int (2 : Int32)), .val (.int (0 : Int32)), .val (.int (3 : Int32)), .val (.int (3 : Int32)), .unset] [(.int (2 : Int32)), (.ref b24)])) rfl (by rw [hml]; rfl) (argsL := [(.ref b24), (.int (2 : Int32))]) (rest := []) (lenOf pd_18 rfl) rfl (by show 2 * 0 + _ ≤ _; exact Nat.le_of_eq rfl) (hb hby at_172) (fun _ _ => ⟨rfl, e298, (by decide : 4 + 0 ≤ _), (by decide : 20 + 0 ≤ _)⟩)
          dsimp only [Pt.U, Pt.locs, Pt.cells, Pt.slots] at X301 l301 y301 z301 st301 hQ301
          subst l301 y301 z301
          obtain ⟨r_301, rfl, N301q, e301, po301_0⟩ := hQ301
          have N301 := Fr.app N298 N301q
          have P302 : ∀ t, GG p e below T301 (mkF m 175 #[.val (.int pa), .val (.int pb), .val (.int pc_), .val (.int pd_), .val (.int pe), .val (.ref b2), .val (.ref b24), .val (.int (2 : Int32)), .val (.int (0 : Int32)), .val (.int (3 : Int32)), .val (.int (3 : Int32)), .unset] [(.int r_301)]) t → Steps p.tables e below s0 t := fun t kk_ => P300 t (st301 _ kk_)
          have res_301 := po301_0
          have P303 : ∀ t, GG p e below T301 (mkF m 189 #[.val (.int pa), .val (.int pb), .val (.int pc_), .val (.int pd_), .val (.int pe), .val (.ref b2), .val (.ref b24), .val (.int (2 : Int32)), .val (.int (0 : Int32)), .val (.int (3 : Int32)), .val (.int (3 : Int32)), .val (.int r_301)] [(.int (1 : Int32))]) t → Steps p.tables e below s0 t := fun t kk_ => P302 t (by
            refine XS.istore X301.here hx rfl (hb hby at_175) rfl (l' := #[.val (.int pa), .val (.int pb), .val (.int pc_), .val (.int pd_), .val (.int pe), .val (.ref b2), .val (.ref b24), .val (.int (2 : Int32)), .val (.int (0 : Int32)), .val (.int (3 : Int32)), .val (.int (3 : Int32)), .val (.int r_301)]) rfl ?_
            refine XS.iload X301.here hx rfl (hb hby at_177) rfl ?_
            refine XS.iload X301.here hx rfl (hb hby at_179) rfl ?_
            refine XS.icmpNo X301.here hx rfl (hb hby at_181) rfl (teq ((by rw [res_301]; simp [clo, hc61_263, hm137, hm161]) : r_301 = (3 : Int32))).2 ?_
            refine XS.iconst X301.here hx rfl (hb hby at_184) ?_
            refine XS.goto X301.here hx rfl (pc0 := 185) (pc' := 189) rfl (hb hby at_185) (by decide) (by decide) ?_
            exact kk_)
          subst hs0
          obtain ⟨fs, hr, hrun, hended, hW, hsame⟩ := X301.leave (v := some (.int (nar .boolean (1 : Int32)))) (fun h => by rw [Bd.returns] at h; cases h)
          refine ⟨_, _, P303 _ ?_, hrun, hended, _, _, rfl, ?_, ⟨_, rfl⟩, hW, hsame.mono (by decide) (by decide)⟩
          · show GG p e below T301 (mkF m 189 #[.val (.int pa), .val (.int pb), .val (.int pc_), .val (.int pd_), .val (.int pe), .val (.ref b2), .val (.ref b24), .val (.int (2 : Int32)), .val (.int (0 : Int32)), .val (.int (3 : Int32)), .val (.int (3 : Int32)), .val (.int r_301)] [(.int (1 : Int32))]) _
            exact retN X301 hx (t := .boolean) Bd.returns (by simp) (hb hby at_189) hr
          · show Q_law Z pa pb pc_ pd_ pe G1 G3 h0 n0 _ T301.heap _
            rw [e301]
            exact ⟨rfl, N301, K27⟩
        ·
          obtain ⟨rfl, hm161⟩ := hcase
          have P304 : ∀ t, GG p e below T298 (mkF m 172 #[.val (.int pa), .val (.int pb), .val (.int pc_), .val (.int pd_), .val (.int pe), .val (.ref b2), .val (.ref b24), .val (.int (2 : Int32)), .val (.int (0 : Int32)), .val (.int (3 : Int32)), .val (.int (-1 : Int32)), .unset] [(.int (2 : Int32)), (.ref b24)]) t → Steps p.tables e below s0 t := fun t kk_ => P299 t (by
            refine XS.ifYes X298.here hx rfl (pc0 := 161) (pc' := 168) rfl (hb hby at_161) rfl ((if0 _ _).trans (teq ((by decide) : (0 : Int32) = (0 : Int32))).1) (by decide) (by decide) ?_
            refine XS.aload X298.here hx rfl (hb hby at_168) rfl rfl ?_
            refine XS.iload X298.here hx rfl (hb hby at_170) rfl ?_
            exact kk_)
          obtain ⟨_, _, ⟨T305, L305, k305, n305⟩, -, X305, ⟨Lc305, hQ305, l305, y305, z305⟩, st305⟩ := Jvm.LawKit.callS X298 hx (y := mn_25) hown (mw hZ hw 60 rfl) (mw hZ hw 61 rfl) (mw hZ hw 62 rfl) (mw hZ hw 63 rfl) (by decide) (backOf (W := 0) (rm_clo2 l Z a0 hw [] b24 t_27 kb_27 cd_27 nB_27 vs_27 r_5 r_10 r_15 r_20 G1 G3 T27.heap n0 (Nat.le_trans Z0 K27.1) E_b24 F_value_b24 F_coder_b24 V_t_27 S_COMPACT_STRINGS S__assertionsDisabled S_HI_BYTE_SHIFT S_LO_BYTE_SHIFT S_SIOOBE_FORMATTER OL hz rG3 s4_27 ir_5 ir_10 ir_15 ir_20) hZ (ww hw 63 rfl) (ww hw 62 rfl) (by decide) (by decide)) (g := (mkF m 172 #[.val (.int pa), .val (.int pb), .val (.int pc_), .val (.int pd_), .val (.int pe), .val (.ref b2), .val (.ref b24), .val (.int (2 : Int32)), .val (.int (0 : Int32)), .val (.int (3 : Int32)), .val (.int (-1 : Int32)), .unset] [(.int (2 : Int32)), (.ref b24)])) rfl (by rw [hml]; rfl) (argsL := [(.ref b24), (.int (2 : Int32))]) (rest := []) (lenOf pd_18 rfl) rfl (by show 2 * 0 + _ ≤ _; exact Nat.le_of_eq rfl) (hb hby at_172) (fun _ _ => ⟨rfl, e298, (by decide : 4 + 0 ≤ _), (by decide : 20 + 0 ≤ _)⟩)
          dsimp only [Pt.U, Pt.locs, Pt.cells, Pt.slots] at X305 l305 y305 z305 st305 hQ305
          subst l305 y305 z305
          obtain ⟨r_305, rfl, N305q, e305, po305_0⟩ := hQ305
          have N305 := Fr.app N298 N305q
          have P306 : ∀ t, GG p e below T305 (mkF m 175 #[.val (.int pa), .val (.int pb), .val (.int pc_), .val (.int pd_), .val (.int pe), .val (.ref b2), .val (.ref b24), .val (.int (2 : Int32)), .val (.int (0 : Int32)), .val (.int (3 : Int32)), .val (.int (-1 : Int32)), .unset] [(.int r_305)]) t → Steps p.tables e below s0 t := fun t kk_ => P304 t (st305 _ kk_)
          have res_305 := po305_0
          have P307 : ∀ t, GG p e below T305 (mkF m 189 #[.val (.int pa), .val (.int pb), .val (.int pc_), .val (.int pd_), .val (.int pe), .val (.ref b2), .val (.ref b24), .val (.int (2 : Int32)), .val (.int (0 : Int32)), .val (.int (3 : Int32)), .val (.int (-1 : Int32)), .val (.int r_305)] [(.int (1 : Int32))]) t → Steps p.tables e below s0 t := fun t kk_ => P306 t (by
            refine XS.istore X305.here hx rfl (hb hby at_175) rfl (l' := #[.val (.int pa), .val (.int pb), .val (.int pc_), .val (.int pd_), .val (.int pe), .val (.ref b2), .val (.ref b24), .val (.int (2 : Int32)), .val (.int (0 : Int32)), .val (.int (3 : Int32)), .val (.int (-1 : Int32)), .val (.int r_305)]) rfl ?_
            refine XS.iload X305.here hx rfl (hb hby at_177) rfl ?_
            refine XS.iload X305.here hx rfl (hb hby at_179) rfl ?_
            refine XS.icmpNo X305.here hx rfl (hb hby at_181) rfl (teq ((by rw [res_305]; simp [clo, hc61_263, hm137.resolve_left hm161, hm161]) : r_305 = (-1 : Int32))).2 ?_
            refine XS.iconst X305.here hx rfl (hb hby at_184) ?_
            refine XS.goto X305.here hx rfl (pc0 := 185) (pc' := 189) rfl (hb hby at_185) (by decide) (by decide) ?_
            exact kk_)
          subst hs0
          obtain ⟨fs, hr, hrun, hended, hW, hsame⟩ := X305.leave (v := some (.int (nar .boolean (1 : Int32)))) (fun h => by rw [Bd.returns] at h; cases h)
          refine ⟨_, _, P307 _ ?_, hrun, hended, _, _, rfl, ?_, ⟨_, rfl⟩, hW, hsame.mono (by decide) (by decide)⟩
          · show GG p e below T305 (mkF m 189 #[.val (.int pa), .val (.int pb), .val (.int pc_), .val (.int pd_), .val (.int pe), .val (.ref b2), .val (.ref b24), .val (.int (2 : Int32)), .val (.int (0 : Int32)), .val (.int (3 : Int32)), .val (.int (-1 : Int32)), .val (.int r_305)] [(.int (1 : Int32))]) _
            exact retN X305 hx (t := .boolean) Bd.returns (by simp) (hb hby at_189) hr
          · show Q_law Z pa pb pc_ pd_ pe G1 G3 h0 n0 _ T305.heap _
            rw [e305]
            exact ⟨rfl, N305, K27⟩
      ·
        obtain ⟨rfl, hm137⟩ := hcase
        have P308 : ∀ t, GG p e below T292 (mkF m 172 #[.val (.int pa), .val (.int pb), .val (.int pc_), .val (.int pd_), .val (.int pe), .val (.ref b2), .val (.ref b24), .val (.int (2 : Int32)), .val (.int (0 : Int32)), .val (.int (-1 : Int32)), .val (.int (-1 : Int32)), .unset] [(.int (2 : Int32)), (.ref b24)]) t → Steps p.tables e below s0 t := fun t kk_ => P293 t (by
          refine XS.ifYes X292.here hx rfl (pc0 := 137) (pc' := 143) rfl (hb hby at_137) rfl ((if0 _ _).trans (teq ((by decide) : (0 : Int32) = (0 : Int32))).1) (by decide) (by decide) ?_
          refine XS.iconst X292.here hx rfl (hb hby at_143) ?_
          refine XS.istore X292.here hx rfl (hb hby at_144) rfl (l' := #[.val (.int pa), .val (.int pb), .val (.int pc_), .val (.int pd_), .val (.int pe), .val (.ref b2), .val (.ref b24), .val (.int (2 : Int32)), .val (.int (0 : Int32)), .val (.int (-1 : Int32)), .val (.int (-1 : Int32)), .unset]) rfl ?_
          refine XS.iload X292.here hx rfl (hb hby at_146) rfl ?_
          refine XS.ifYes X292.here hx rfl (pc0 := 148) (pc' := 168) rfl (hb hby at_148) rfl ((if0 _ _).trans (tlt ((by decide) : (-1 : Int32) < (0 : Int32))).1) (by decide) (by decide) ?_
          refine XS.aload X292.here hx rfl (hb hby at_168) rfl rfl ?_
          refine XS.iload X292.here hx rfl (hb hby at_170) rfl ?_
          exact kk_)
        obtain ⟨_, _, ⟨T309, L309, k309, n309⟩, -, X309, ⟨Lc309, hQ309, l309, y309, z309⟩, st309⟩ := Jvm.LawKit.callS X292 hx (y := mn_25) hown (mw hZ hw 60 rfl) (mw hZ hw 61 rfl) (mw hZ hw 62 rfl) (mw hZ hw 63 rfl) (by decide) (backOf (W := 0) (rm_clo2 l Z a0 hw [] b24 t_27 kb_27 cd_27 nB_27 vs_27 r_5 r_10 r_15 r_20 G1 G3 T27.heap n0 (Nat.le_trans Z0 K27.1) E_b24 F_value_b24 F_coder_b24 V_t_27 S_COMPACT_STRINGS S__assertionsDisabled S_HI_BYTE_SHIFT S_LO_BYTE_SHIFT S_SIOOBE_FORMATTER OL hz rG3 s4_27 ir_5 ir_10 ir_15 ir_20) hZ (ww hw 63 rfl) (ww hw 62 rfl) (by decide) (by decide)) (g := (mkF m 172 #[.val (.int pa), .val (.int pb), .val (.int pc_), .val (.int pd_), .val (.int pe), .val (.ref b2), .val (.ref b24), .val (.int (2 : Int32)), .val (.int (0 : Int32)), .val (.int (-1 : Int32)), .val (.int (-1 : Int32)), .unset] [(.int (2 : Int32)), (.ref b24)])) rfl (by rw [hml]; rfl) (argsL := [(.ref b24), (.int (2 : Int32))]) (rest := []) (lenOf pd_18 rfl) rfl (by show 2 * 0 + _ ≤ _; exact Nat.le_of_eq rfl) (hb hby at_172) (fun _ _ => ⟨rfl, e292, (by decide : 4 + 0 ≤ _), (by decide : 20 + 0 ≤ _)⟩)
        dsimp only [Pt.U, Pt.locs, Pt.cells, Pt.slots] at X309 l309 y309 z309 st309 hQ309
        subst l309 y309 z309
        obtain ⟨r_309, rfl, N309q, e309, po309_0⟩ := hQ309
        have N309 := Fr.app N292 N309q
        have P310 : ∀ t, GG p e below T309 (mkF m 175 #[.val (.int pa), .val (.int pb), .val (.int pc_), .val (.int pd_), .val (.int pe), .val (.ref b2), .val (.ref b24), .val (.int (2 : Int32)), .val (.int (0 : Int32)), .val (.int (-1 : Int32)), .val (.int (-1 : Int32)), .unset] [(.int r_309)]) t → Steps p.tables e below s0 t := fun t kk_ => P308 t (st309 _ kk_)
        have res_309 := po309_0
        have P311 : ∀ t, GG p e below T309 (mkF m 189 #[.val (.int pa), .val (.int pb), .val (.int pc_), .val (.int pd_), .val (.int pe), .val (.ref b2), .val (.ref b24), .val (.int (2 : Int32)), .val (.int (0 : Int32)), .val (.int (-1 : Int32)), .val (.int (-1 : Int32)), .val (.int r_309)] [(.int (1 : Int32))]) t → Steps p.tables e below s0 t := fun t kk_ => P310 t (by
          refine XS.istore X309.here hx rfl (hb hby at_175) rfl (l' := #[.val (.int pa), .val (.int pb), .val (.int pc_), .val (.int pd_), .val (.int pe), .val (.ref b2), .val (.ref b24), .val (.int (2 : Int32)), .val (.int (0 : Int32)), .val (.int (-1 : Int32)), .val (.int (-1 : Int32)), .val (.int r_309)]) rfl ?_
          refine XS.iload X309.here hx rfl (hb hby at_177) rfl ?_
          refine XS.iload X309.here hx rfl (hb hby at_179) rfl ?_
          refine XS.icmpNo X309.here hx rfl (hb hby at_181) rfl (teq ((by rw [res_309]; simp [clo, hc61_263, hm137]) : r_309 = (-1 : Int32))).2 ?_
          refine XS.iconst X309.here hx rfl (hb hby at_184) ?_
          refine XS.goto X309.here hx rfl (pc0 := 185) (pc' := 189) rfl (hb hby at_185) (by decide) (by decide) ?_
          exact kk_)
        subst hs0
        obtain ⟨fs, hr, hrun, hended, hW, hsame⟩ := X309.leave (v := some (.int (nar .boolean (1 : Int32)))) (fun h => by rw [Bd.returns] at h; cases h)
        refine ⟨_, _, P311 _ ?_, hrun, hended, _, _, rfl, ?_, ⟨_, rfl⟩, hW, hsame.mono (by decide) (by decide)⟩
        · show GG p e below T309 (mkF m 189 #[.val (.int pa), .val (.int pb), .val (.int pc_), .val (.int pd_), .val (.int pe), .val (.ref b2), .val (.ref b24), .val (.int (2 : Int32)), .val (.int (0 : Int32)), .val (.int (-1 : Int32)), .val (.int (-1 : Int32)), .val (.int r_309)] [(.int (1 : Int32))]) _
          exact retN X309 hx (t := .boolean) Bd.returns (by simp) (hb hby at_189) hr
        · show Q_law Z pa pb pc_ pd_ pe G1 G3 h0 n0 _ T309.heap _
          rw [e309]
          exact ⟨rfl, N309, K27⟩
  ·
    have P312 : ∀ t, GG p e below T27 (mkF m 52 #[.val (.int pa), .val (.int pb), .val (.int pc_), .val (.int pd_), .val (.int pe), .val (.ref b2), .val (.ref b24), .unset, .unset, .unset, .unset, .unset] [(.int (3 : Int32))]) t → Steps p.tables e below s0 t := fun t kk_ => P29 t (by rw [hk]; exact kk_)
    have P313 : ∀ t, GG p e below T27 (mkF m 58 #[.val (.int pa), .val (.int pb), .val (.int pc_), .val (.int pd_), .val (.int pe), .val (.ref b2), .val (.ref b24), .val (.int (3 : Int32)), .unset, .unset, .unset, .unset] [(.int (3 : Int32)), (.ref b2)]) t → Steps p.tables e below s0 t := fun t kk_ => P312 t (by
      refine XS.istore X27.here hx rfl (hb hby at_52) rfl (l' := #[.val (.int pa), .val (.int pb), .val (.int pc_), .val (.int pd_), .val (.int pe), .val (.ref b2), .val (.ref b24), .val (.int (3 : Int32)), .unset, .unset, .unset, .unset]) rfl ?_
      refine XS.aload X27.here hx rfl (hb hby at_54) rfl rfl ?_
      refine XS.iload X27.here hx rfl (hb hby at_56) rfl ?_
      exact kk_)
    obtain ⟨cl314, Ar314, q314, S314, M314, Hs314, G314⟩ := id V_b2
    have hin314 := inb_of (j := (3 : Int32)) S314 ⟨by decide, by decide⟩
    have hat314 : cl314.slots[((3 : Int32)).toNatClampNeg]? = some (.int r_20) := Has.at Hs314 hin314 (rfl)
    have P315 : ∀ t, GG p e below T27 (mkF m 59 #[.val (.int pa), .val (.int pb), .val (.int pc_), .val (.int pd_), .val (.int pe), .val (.ref b2), .val (.ref b24), .val (.int (3 : Int32)), .unset, .unset, .unset, .unset] [(.int r_20)]) t → Steps p.tables e below s0 t := fun t kk_ => P313 t (by
      refine X27.caload hx (j := (3 : Int32)) (v := (.int r_20)) (Ar314.1) (State.isArrayOf_alike hZ.alike Ar314.2.1) Ar314.2.2 hin314 hat314 (g := (mkF m 58 #[.val (.int pa), .val (.int pb), .val (.int pc_), .val (.int pd_), .val (.int pe), .val (.ref b2), .val (.ref b24), .val (.int (3 : Int32)), .unset, .unset, .unset, .unset] [(.int (3 : Int32)), (.ref b2)])) rfl rfl (hb hby at_58) _ ?_
      exact kk_)
    have P316 : ∀ t, GG p e below T27 (mkF m 61 #[.val (.int pa), .val (.int pb), .val (.int pc_), .val (.int pd_), .val (.int pe), .val (.ref b2), .val (.ref b24), .val (.int (3 : Int32)), .unset, .unset, .unset, .unset] [(.int (34 : Int32)), (.int r_20)]) t → Steps p.tables e below s0 t := fun t kk_ => P315 t (by
      refine XS.bipush X27.here hx rfl (hb hby at_59) ?_
      exact kk_)
    by_cases hc61_317 : r_20 = (34 : Int32)
    ·
      have P318 : ∀ t, GG p e below T27 (mkF m 172 #[.val (.int pa), .val (.int pb), .val (.int pc_), .val (.int pd_), .val (.int pe), .val (.ref b2), .val (.ref b24), .val (.int (3 : Int32)), .val (.int (1 : Int32)), .val (.int (-1 : Int32)), .val (.int (-1 : Int32)), .unset] [(.int (3 : Int32)), (.ref b24)]) t → Steps p.tables e below s0 t := fun t kk_ => P316 t (by
        refine XS.icmpNo X27.here hx rfl (hb hby at_61) rfl (teq (hc61_317 : r_20 = (34 : Int32))).2 ?_
        refine XS.iconst X27.here hx rfl (hb hby at_64) ?_
        refine XS.goto X27.here hx rfl (pc0 := 65) (pc' := 69) rfl (hb hby at_65) (by decide) (by decide) ?_
        refine XS.istore X27.here hx rfl (hb hby at_69) rfl (l' := #[.val (.int pa), .val (.int pb), .val (.int pc_), .val (.int pd_), .val (.int pe), .val (.ref b2), .val (.ref b24), .val (.int (3 : Int32)), .val (.int (1 : Int32)), .unset, .unset, .unset]) rfl ?_
        refine XS.iconst X27.here hx rfl (hb hby at_71) ?_
        refine XS.istore X27.here hx rfl (hb hby at_72) rfl (l' := #[.val (.int pa), .val (.int pb), .val (.int pc_), .val (.int pd_), .val (.int pe), .val (.ref b2), .val (.ref b24), .val (.int (3 : Int32)), .val (.int (1 : Int32)), .val (.int (-1 : Int32)), .unset, .unset]) rfl ?_
        refine XS.iload X27.here hx rfl (hb hby at_74) rfl ?_
        refine XS.iconst X27.here hx rfl (hb hby at_76) ?_
        refine XS.icmpYes X27.here hx rfl (pc0 := 77) (pc' := 98) rfl (hb hby at_77) rfl (flt ((by decide) : ¬ ((3 : Int32) < (1 : Int32)))).2.1 (by decide) (by decide) ?_
        refine XS.iload X27.here hx rfl (hb hby at_98) rfl ?_
        refine XS.iconst X27.here hx rfl (hb hby at_100) ?_
        refine XS.icmpYes X27.here hx rfl (pc0 := 101) (pc' := 122) rfl (hb hby at_101) rfl (flt ((by decide) : ¬ ((3 : Int32) < (2 : Int32)))).2.1 (by decide) (by decide) ?_
        refine XS.iload X27.here hx rfl (hb hby at_122) rfl ?_
        refine XS.iconst X27.here hx rfl (hb hby at_124) ?_
        refine XS.icmpYes X27.here hx rfl (pc0 := 125) (pc' := 143) rfl (hb hby at_125) rfl (flt ((by decide) : ¬ ((3 : Int32) < (3 : Int32)))).2.1 (by decide) (by decide) ?_
        refine XS.iconst X27.here hx rfl (hb hby at_143) ?_
        refine XS.istore X27.here hx rfl (hb hby at_144) rfl (l' := #[.val (.int pa), .val (.int pb), .val (.int pc_), .val (.int pd_), .val (.int pe), .val (.ref b2), .val (.ref b24), .val (.int (3 : Int32)), .val (.int (1 : Int32)), .val (.int (-1 : Int32)), .val (.int (-1 : Int32)), .unset]) rfl ?_
        refine XS.iload X27.here hx rfl (hb hby at_146) rfl ?_
        refine XS.ifYes X27.here hx rfl (pc0 := 148) (pc' := 168) rfl (hb hby at_148) rfl ((if0 _ _).trans (tlt ((by decide) : (-1 : Int32) < (0 : Int32))).1) (by decide) (by decide) ?_
        refine XS.aload X27.here hx rfl (hb hby at_168) rfl rfl ?_
        refine XS.iload X27.here hx rfl (hb hby at_170) rfl ?_
        exact kk_)
      obtain ⟨_, _, ⟨T319, L319, k319, n319⟩, -, X319, ⟨Lc319, hQ319, l319, y319, z319⟩, st319⟩ := Jvm.LawKit.callS X27 hx (y := mn_25) hown (mw hZ hw 60 rfl) (mw hZ hw 61 rfl) (mw hZ hw 62 rfl) (mw hZ hw 63 rfl) (by decide) (backOf (W := 0) (rm_clo3 l Z a0 hw [] b24 t_27 kb_27 cd_27 nB_27 vs_27 r_5 r_10 r_15 r_20 G1 G3 T27.heap n0 (Nat.le_trans Z0 K27.1) E_b24 F_value_b24 F_coder_b24 V_t_27 S_COMPACT_STRINGS S__assertionsDisabled S_HI_BYTE_SHIFT S_LO_BYTE_SHIFT S_SIOOBE_FORMATTER OL hz rG3 s4_27 ir_5 ir_10 ir_15 ir_20) hZ (ww hw 63 rfl) (ww hw 62 rfl) (by decide) (by decide)) (g := (mkF m 172 #[.val (.int pa), .val (.int pb), .val (.int pc_), .val (.int pd_), .val (.int pe), .val (.ref b2), .val (.ref b24), .val (.int (3 : Int32)), .val (.int (1 : Int32)), .val (.int (-1 : Int32)), .val (.int (-1 : Int32)), .unset] [(.int (3 : Int32)), (.ref b24)])) rfl (by rw [hml]; rfl) (argsL := [(.ref b24), (.int (3 : Int32))]) (rest := []) (lenOf pd_18 rfl) rfl (by show 2 * 0 + _ ≤ _; exact Nat.le_of_eq rfl) (hb hby at_172) (fun _ _ => ⟨rfl, rfl, (by decide : 4 + 0 ≤ _), (by decide : 20 + 0 ≤ _)⟩)
      dsimp only [Pt.U, Pt.locs, Pt.cells, Pt.slots] at X319 l319 y319 z319 st319 hQ319
      subst l319 y319 z319
      obtain ⟨r_319, rfl, N319q, e319, po319_0⟩ := hQ319
      have N319 := Fr.app N27 N319q
      have P320 : ∀ t, GG p e below T319 (mkF m 175 #[.val (.int pa), .val (.int pb), .val (.int pc_), .val (.int pd_), .val (.int pe), .val (.ref b2), .val (.ref b24), .val (.int (3 : Int32)), .val (.int (1 : Int32)), .val (.int (-1 : Int32)), .val (.int (-1 : Int32)), .unset] [(.int r_319)]) t → Steps p.tables e below s0 t := fun t kk_ => P318 t (st319 _ kk_)
      have res_319 := po319_0
      have P321 : ∀ t, GG p e below T319 (mkF m 189 #[.val (.int pa), .val (.int pb), .val (.int pc_), .val (.int pd_), .val (.int pe), .val (.ref b2), .val (.ref b24), .val (.int (3 : Int32)), .val (.int (1 : Int32)), .val (.int (-1 : Int32)), .val (.int (-1 : Int32)), .val (.int r_319)] [(.int (1 : Int32))]) t → Steps p.tables e below s0 t := fun t kk_ => P320 t (by
        refine XS.istore X319.here hx rfl (hb hby at_175) rfl (l' := #[.val (.int pa), .val (.int pb), .val (.int pc_), .val (.int pd_), .val (.int pe), .val (.ref b2), .val (.ref b24), .val (.int (3 : Int32)), .val (.int (1 : Int32)), .val (.int (-1 : Int32)), .val (.int (-1 : Int32)), .val (.int r_319)]) rfl ?_
        refine XS.iload X319.here hx rfl (hb hby at_177) rfl ?_
        refine XS.iload X319.here hx rfl (hb hby at_179) rfl ?_
        refine XS.icmpNo X319.here hx rfl (hb hby at_181) rfl (teq ((by rw [res_319]; simp [clo, hc61_317]) : r_319 = (-1 : Int32))).2 ?_
        refine XS.iconst X319.here hx rfl (hb hby at_184) ?_
        refine XS.goto X319.here hx rfl (pc0 := 185) (pc' := 189) rfl (hb hby at_185) (by decide) (by decide) ?_
        exact kk_)
      subst hs0
      obtain ⟨fs, hr, hrun, hended, hW, hsame⟩ := X319.leave (v := some (.int (nar .boolean (1 : Int32)))) (fun h => by rw [Bd.returns] at h; cases h)
      refine ⟨_, _, P321 _ ?_, hrun, hended, _, _, rfl, ?_, ⟨_, rfl⟩, hW, hsame.mono (by decide) (by decide)⟩
      · show GG p e below T319 (mkF m 189 #[.val (.int pa), .val (.int pb), .val (.int pc_), .val (.int pd_), .val (.int pe), .val (.ref b2), .val (.ref b24), .val (.int (3 : Int32)), .val (.int (1 : Int32)), .val (.int (-1 : Int32)), .val (.int (-1 : Int32)), .val (.int r_319)] [(.int (1 : Int32))]) _
        exact retN X319 hx (t := .boolean) Bd.returns (by simp) (hb hby at_189) hr
      · show Q_law Z pa pb pc_ pd_ pe G1 G3 h0 n0 _ T319.heap _
        rw [e319]
        exact ⟨rfl, N319, K27⟩
    ·
      have P322 : ∀ t, GG p e below T27 (mkF m 172 #[.val (.int pa), .val (.int pb), .val (.int pc_), .val (.int pd_), .val (.int pe), .val (.ref b2), .val (.ref b24), .val (.int (3 : Int32)), .val (.int (0 : Int32)), .val (.int (-1 : Int32)), .val (.int (-1 : Int32)), .unset] [(.int (3 : Int32)), (.ref b24)]) t → Steps p.tables e below s0 t := fun t kk_ => P316 t (by
        refine XS.icmpYes X27.here hx rfl (pc0 := 61) (pc' := 68) rfl (hb hby at_61) rfl (feq (hc61_317 : ¬ (r_20 = (34 : Int32)))).2 (by decide) (by decide) ?_
        refine XS.iconst X27.here hx rfl (hb hby at_68) ?_
        refine XS.istore X27.here hx rfl (hb hby at_69) rfl (l' := #[.val (.int pa), .val (.int pb), .val (.int pc_), .val (.int pd_), .val (.int pe), .val (.ref b2), .val (.ref b24), .val (.int (3 : Int32)), .val (.int (0 : Int32)), .unset, .unset, .unset]) rfl ?_
        refine XS.iconst X27.here hx rfl (hb hby at_71) ?_
        refine XS.istore X27.here hx rfl (hb hby at_72) rfl (l' := #[.val (.int pa), .val (.int pb), .val (.int pc_), .val (.int pd_), .val (.int pe), .val (.ref b2), .val (.ref b24), .val (.int (3 : Int32)), .val (.int (0 : Int32)), .val (.int (-1 : Int32)), .unset, .unset]) rfl ?_
        refine XS.iload X27.here hx rfl (hb hby at_74) rfl ?_
        refine XS.iconst X27.here hx rfl (hb hby at_76) ?_
        refine XS.icmpYes X27.here hx rfl (pc0 := 77) (pc' := 98) rfl (hb hby at_77) rfl (flt ((by decide) : ¬ ((3 : Int32) < (1 : Int32)))).2.1 (by decide) (by decide) ?_
        refine XS.iload X27.here hx rfl (hb hby at_98) rfl ?_
        refine XS.iconst X27.here hx rfl (hb hby at_100) ?_
        refine XS.icmpYes X27.here hx rfl (pc0 := 101) (pc' := 122) rfl (hb hby at_101) rfl (flt ((by decide) : ¬ ((3 : Int32) < (2 : Int32)))).2.1 (by decide) (by decide) ?_
        refine XS.iload X27.here hx rfl (hb hby at_122) rfl ?_
        refine XS.iconst X27.here hx rfl (hb hby at_124) ?_
        refine XS.icmpYes X27.here hx rfl (pc0 := 125) (pc' := 143) rfl (hb hby at_125) rfl (flt ((by decide) : ¬ ((3 : Int32) < (3 : Int32)))).2.1 (by decide) (by decide) ?_
        refine XS.iconst X27.here hx rfl (hb hby at_143) ?_
        refine XS.istore X27.here hx rfl (hb hby at_144) rfl (l' := #[.val (.int pa), .val (.int pb), .val (.int pc_), .val (.int pd_), .val (.int pe), .val (.ref b2), .val (.ref b24), .val (.int (3 : Int32)), .val (.int (0 : Int32)), .val (.int (-1 : Int32)), .val (.int (-1 : Int32)), .unset]) rfl ?_
        refine XS.iload X27.here hx rfl (hb hby at_146) rfl ?_
        refine XS.ifYes X27.here hx rfl (pc0 := 148) (pc' := 168) rfl (hb hby at_148) rfl ((if0 _ _).trans (tlt ((by decide) : (-1 : Int32) < (0 : Int32))).1) (by decide) (by decide) ?_
        refine XS.aload X27.here hx rfl (hb hby at_168) rfl rfl ?_
        refine XS.iload X27.here hx rfl (hb hby at_170) rfl ?_
        exact kk_)
      obtain ⟨_, _, ⟨T323, L323, k323, n323⟩, -, X323, ⟨Lc323, hQ323, l323, y323, z323⟩, st323⟩ := Jvm.LawKit.callS X27 hx (y := mn_25) hown (mw hZ hw 60 rfl) (mw hZ hw 61 rfl) (mw hZ hw 62 rfl) (mw hZ hw 63 rfl) (by decide) (backOf (W := 0) (rm_clo3 l Z a0 hw [] b24 t_27 kb_27 cd_27 nB_27 vs_27 r_5 r_10 r_15 r_20 G1 G3 T27.heap n0 (Nat.le_trans Z0 K27.1) E_b24 F_value_b24 F_coder_b24 V_t_27 S_COMPACT_STRINGS S__assertionsDisabled S_HI_BYTE_SHIFT S_LO_BYTE_SHIFT S_SIOOBE_FORMATTER OL hz rG3 s4_27 ir_5 ir_10 ir_15 ir_20) hZ (ww hw 63 rfl) (ww hw 62 rfl) (by decide) (by decide)) (g := (mkF m 172 #[.val (.int pa), .val (.int pb), .val (.int pc_), .val (.int pd_), .val (.int pe), .val (.ref b2), .val (.ref b24), .val (.int (3 : Int32)), .val (.int (0 : Int32)), .val (.int (-1 : Int32)), .val (.int (-1 : Int32)), .unset] [(.int (3 : Int32)), (.ref b24)])) rfl (by rw [hml]; rfl) (argsL := [(.ref b24), (.int (3 : Int32))]) (rest := []) (lenOf pd_18 rfl) rfl (by show 2 * 0 + _ ≤ _; exact Nat.le_of_eq rfl) (hb hby at_172) (fun _ _ => ⟨rfl, rfl, (by decide : 4 + 0 ≤ _), (by decide : 20 + 0 ≤ _)⟩)
      dsimp only [Pt.U, Pt.locs, Pt.cells, Pt.slots] at X323 l323 y323 z323 st323 hQ323
      subst l323 y323 z323
      obtain ⟨r_323, rfl, N323q, e323, po323_0⟩ := hQ323
      have N323 := Fr.app N27 N323q
      have P324 : ∀ t, GG p e below T323 (mkF m 175 #[.val (.int pa), .val (.int pb), .val (.int pc_), .val (.int pd_), .val (.int pe), .val (.ref b2), .val (.ref b24), .val (.int (3 : Int32)), .val (.int (0 : Int32)), .val (.int (-1 : Int32)), .val (.int (-1 : Int32)), .unset] [(.int r_323)]) t → Steps p.tables e below s0 t := fun t kk_ => P322 t (st323 _ kk_)
      have res_323 := po323_0
      have P325 : ∀ t, GG p e below T323 (mkF m 189 #[.val (.int pa), .val (.int pb), .val (.int pc_), .val (.int pd_), .val (.int pe), .val (.ref b2), .val (.ref b24), .val (.int (3 : Int32)), .val (.int (0 : Int32)), .val (.int (-1 : Int32)), .val (.int (-1 : Int32)), .val (.int r_323)] [(.int (1 : Int32))]) t → Steps p.tables e below s0 t := fun t kk_ => P324 t (by
        refine XS.istore X323.here hx rfl (hb hby at_175) rfl (l' := #[.val (.int pa), .val (.int pb), .val (.int pc_), .val (.int pd_), .val (.int pe), .val (.ref b2), .val (.ref b24), .val (.int (3 : Int32)), .val (.int (0 : Int32)), .val (.int (-1 : Int32)), .val (.int (-1 : Int32)), .val (.int r_323)]) rfl ?_
        refine XS.iload X323.here hx rfl (hb hby at_177) rfl ?_
        refine XS.iload X323.here hx rfl (hb hby at_179) rfl ?_
        refine XS.icmpNo X323.here hx rfl (hb hby at_181) rfl (teq ((by rw [res_323]; simp [clo, hc61_317]) : r_323 = (-1 : Int32))).2 ?_
        refine XS.iconst X323.here hx rfl (hb hby at_184) ?_
        refine XS.goto X323.here hx rfl (pc0 := 185) (pc' := 189) rfl (hb hby at_185) (by decide) (by decide) ?_
        exact kk_)
      subst hs0
      obtain ⟨fs, hr, hrun, hended, hW, hsame⟩ := X323.leave (v := some (.int (nar .boolean (1 : Int32)))) (fun h => by rw [Bd.returns] at h; cases h)
      refine ⟨_, _, P325 _ ?_, hrun, hended, _, _, rfl, ?_, ⟨_, rfl⟩, hW, hsame.mono (by decide) (by decide)⟩
      · show GG p e below T323 (mkF m 189 #[.val (.int pa), .val (.int pb), .val (.int pc_), .val (.int pd_), .val (.int pe), .val (.ref b2), .val (.ref b24), .val (.int (3 : Int32)), .val (.int (0 : Int32)), .val (.int (-1 : Int32)), .val (.int (-1 : Int32)), .val (.int r_323)] [(.int (1 : Int32))]) _
        exact retN X323 hx (t := .boolean) Bd.returns (by simp) (hb hby at_189) hr
      · show Q_law Z pa pb pc_ pd_ pe G1 G3 h0 n0 _ T323.heap _
        rw [e323]
        exact ⟨rfl, N323, K27⟩
set_option maxRecDepth 65536 in
set_option maxHeartbeats 40000000 in
theorem comes_1 {Post : Tables → Env → Array Value → State → Outcome → State → Prop} (hpost : ∀ tb e args s v u, (limb_1_1.after args s (.returned v) u = true ∧ limb_1_2.after args s (.returned v) u = true ∧ True) → FrameEnd s (.returned v) u (Jvm.fieldLocs frame_1_writes args s ++ Jvm.arrayLocs frame_1_arrays args s ++ Jvm.staticLocs frame_1_statics s) 16 128 → Post tb e args s (.returned v) u) :
    ArmFor flags0 classFile x code maxLocals ret World_1 tables_1 room_1 Calls_1 rest_1 Pre_1 Post := by
  intro l hfl _ _ p e ha hc hk s m args below hf hA hF happ hP
  obtain ⟨hcalls, hrest, hpre⟩ := hP
  obtain ⟨-, -, -, hnamed, -, -, -, hat⟩ := (Spec.applies_iff hf).mp happ
  obtain ⟨hg, hn⟩ := and_e (Cond.before_iff.mp (show (Jvm.Cond.and given_1 narrow_1).before args s = true from hpre))
  obtain ⟨h1, h2⟩ := and_e hg
  obtain ⟨ga, h2⟩ := and_e h2
  obtain ⟨gb, h2⟩ := and_e h2
  obtain ⟨gc, h2⟩ := and_e h2
  obtain ⟨gd, ge⟩ := and_e h2
  obtain ⟨w0, w1, w2, w3, w4, rfl⟩ : ∃ w0 w1 w2 w3 w4 : Value, args = #[w0, w1, w2, w3, w4] := by
    have hs : args.size = 5 := by simpa [Cond.value, given_1] using h1
    obtain ⟨L⟩ := args
    match L, hs with
    | [w0, w1, w2, w3, w4], _ => exact ⟨w0, w1, w2, w3, w4, rfl⟩
  have hw := fun d (hd : d ∈ tables_1) => atoms_spec (ws := Jvm.Cond.code x code maxLocals ret :: tables_1) hat d (List.mem_cons_of_mem _ hd)
  obtain ⟨hsets, hown0⟩ := atoms_of _ (rest_1_c_eq ▸ (show rest_1_c.before _ s = true from hrest))
  have n5 := not_v (Cond.before_iff.mp (hsets _ (List.mem_of_getElem? (i := 2) rfl)))
  obtain ⟨i0, e0⟩ := is_v ga
  obtain rfl : w0 = (.int i0) := Option.some.inj e0
  obtain ⟨i1, e1⟩ := is_v gb
  obtain rfl : w1 = (.int i1) := Option.some.inj e1
  obtain ⟨i2, e2⟩ := is_v gc
  obtain rfl : w2 = (.int i2) := Option.some.inj e2
  obtain ⟨i3, e3⟩ := is_v gd
  obtain rfl : w3 = (.int i3) := Option.some.inj e3
  obtain ⟨i4, e4⟩ := is_v ge
  obtain rfl : w4 = (.int i4) := Option.some.inj e4
  obtain ⟨iG, eG⟩ := is_v (Cond.before_iff.mp (hsets _ (List.mem_of_getElem? (i := 1) rfl)))
  have SG : Sta s s.heap "java/lang/String" "COMPACT_STRINGS" "Z" (.int iG) := Sta.start eG (Or.inl (hsets _ (List.mem_of_getElem? (i := 0) rfl)))
  obtain ⟨vF, eF, rF⟩ := isR_v (Cond.before_iff.mp (hsets _ (List.mem_of_getElem? (i := 8) rfl)))
  have SF : Sta s s.heap "jdk/internal/util/Preconditions" "SIOOBE_FORMATTER" "Ljava/util/function/BiFunction;" vF := Sta.start eF (Or.inl (hsets _ (List.mem_of_getElem? (i := 7) rfl)))
  have cG : ¬ (iG = (0 : Int32)) := gotF (Cond.eq_ints eG (Term.int_eval (0))) n5
  have SA : Sta s s.heap "java/lang/StringUTF16" "$assertionsDisabled" "Z" (.int (1 : Int32)) := Sta.start (Cond.eq_int (hsets _ (List.mem_of_getElem? (i := 12) rfl)) rfl) (Or.inl (hsets _ (List.mem_of_getElem? (i := 11) rfl)))
  have SH : Sta s s.heap "java/lang/StringUTF16" "HI_BYTE_SHIFT" "I" (.int (0 : Int32)) := Sta.start (Cond.eq_int (hsets _ (List.mem_of_getElem? (i := 15) rfl)) rfl) (Or.inl (hsets _ (List.mem_of_getElem? (i := 14) rfl)))
  have SL : Sta s s.heap "java/lang/StringUTF16" "LO_BYTE_SHIFT" "I" (.int (8 : Int32)) := Sta.start (Cond.eq_int (hsets _ (List.mem_of_getElem? (i := 18) rfl)) rfl) (Or.inl (hsets _ (List.mem_of_getElem? (i := 17) rfl)))
  obtain ⟨n, o, h1, h2, h3, _, L, rfl, ⟨rfl, N, -⟩, hq⟩ := rm_law l s _ hw tables_1 i0 i1 i2 i3 i4 iG vF s.heap s.heap.size (Nat.le_refl _) SG SA SH SL SF (Old.start s) cG rF p e ha hc hk s m _ below hf ((Spec.applies_iff_loose hf).mp happ).1 ⟨rfl, State.Warmed39.refl s, rfl⟩ trivial
  exact ⟨n, _, h1, h2, h3, hpost _ _ _ _ _ _ ⟨Cond.after_iff.mpr rfl, Cond.after_iff.mpr (eq_i res_at (Term.int_eval (1)) rfl), trivial⟩ ⟨hq.1, hq.2.1, (hq.2.2.sift fun y hy => Or.inr (N y hy)).mono (by decide) (by decide)⟩⟩
theorem main_1_1 : Claimed_1_1 := comes_1 fun _ _ _ _ _ _ h hF => ⟨h.1, hF⟩
theorem main_1_2 : Claimed_1_2 := comes_1 fun _ _ _ _ _ _ h hF => ⟨h.2.1, hF⟩

end Jvm.Pilot.@@N@@
namespace Jvm.Pilot.@@N@@
open Jvm Jvm.ClassFile Sem Op Lib Jvm.Free Jvm.Stand Jvm.Pilot.@@N@@.Jvm.D
/-! MADE BY PROGRAM (witnessworld.py) out of the Statement's table words and the real class files: 20 classes; the members and pool entries that the words name. The judged class is class 1, her method 4. -/
namespace start1
open Jvm.ClassFile
def u (s : String) : CpInfo := .utf8 (stringToUtf16 s)
/-- a pool by its gaps: so many unusable entries, then the entry; so many at the end -/
def gap : Nat → List CpInfo → List CpInfo
  | 0, r => r
  | n + 1, r => .unusable :: gap n r
def poolList (es : List (Nat × CpInfo)) (last : Nat) : List CpInfo := es.foldr (fun e r => gap e.1 (e.2 :: r)) (gap last [])
def pool (es : List (Nat × CpInfo)) (last : Nat) : Array CpInfo := ⟨poolList es last⟩
def fileOf (pool : Array CpInfo) (this : Nat) (attrs : Array Attribute := #[]) (ms : Array MethodInfo := #[]) (fl : Nat := 33) (sup : Nat := 0) (ifs : Array Nat := #[]) (fds : Array FieldInfo := #[]) : ClassFile where
  minorVersion := 0
  majorVersion := 65
  constantPool := pool
  accessFlags := fl
  thisClass := this
  superClass := sup
  interfaces := ifs
  fields := fds
  methods := ms
  attributes := attrs
def plain (name : String) (sup : Option ClassId) : Class where
  name := name
  kind := .ordinary
  loader := none
  accessFlags := 33
  super := sup
  interfaces := #[]
  cf := none
  fields := #[]
  methods := #[]
  instanceTypes := #[]
  staticTypes := #[]
  resolved := #[]
  callSites := []
  init := .initialized
  statics := none
  mirror := none

def pool0 : Array CpInfo := pool [(5, u "<init>"), (0, u "()V"), (1, .class_ 10), (1, u "java/lang/Object")] 113

def k0c0 : Code := { maxStack := 0, maxLocals := 1, code := object_method_1_code, exceptionTable := #[], attributes := #[] }
def k0m0 : Method := { name := "<init>", desc := "()V", sig := { parameters := [], returnType := none }, accessFlags := 1, code := some k0c0 }
/-- java/lang/Object -/
def k0 : Class := { plain "java/lang/Object" none with
  accessFlags := 33
  interfaces := #[]
  cf := some (fileOf pool0 8 #[] #[{ accessFlags := 1, nameIndex := 5, descriptorIndex := 6, attributes := #[] }] 33 0 #[] #[])
  fields := #[]
  methods := #[k0m0]
  instanceTypes := #[]
  staticTypes := #[]
  resolved := Array.replicate 124 none
  statics := none }

def pool1 : Array CpInfo := pool [(2, .class_ 4), (1, u "java/lang/Object"), (0, u "<init>"), (0, u "()V"), (0, .integer 65535), (0, .methodref 9 10), (0, .class_ 11), (0, .nameAndType 12 13), (0, u "com/example/planscribe/planscribe/terms/QuotesClosingPinLaw"), (0, u "matches"), (0, u "(CZ)Z"), (0, .methodref 9 15), (0, .nameAndType 16 17), (0, u "ch"), (0, u "(I)C"), (0, .class_ 19), (0, u "java/lang/String"), (0, .methodref 18 21), (0, .nameAndType 5 22), (0, u "([C)V"), (0, .methodref 9 24), (0, .nameAndType 25 13), (0, u "stops"), (0, .methodref 27 28), (0, .class_ 29), (0, .nameAndType 30 31), (0, u "com/example/planscribe/planscribe/terms/Quotes"), (0, u "closing"), (0, u "(Ljava/lang/CharSequence;I)I"), (3, u "law"), (0, u "(IIIII)Z")] 4

def k1m0 : Method := { name := "<init>", desc := "()V", sig := { parameters := [], returnType := none }, accessFlags := 2, code := none }
def k1c1 : Code := { maxStack := 2, maxLocals := 2, code := method_2_code, exceptionTable := #[], attributes := #[] }
def k1m1 : Method := { name := "ch", desc := "(I)C", sig := { parameters := [.int], returnType := some .char }, accessFlags := 10, code := some k1c1 }
def k1c2 : Code := { maxStack := 2, maxLocals := 2, code := method_3_code, exceptionTable := #[], attributes := #[] }
def k1m2 : Method := { name := "matches", desc := "(CZ)Z", sig := { parameters := [.char, .boolean], returnType := some .boolean }, accessFlags := 10, code := some k1c2 }
def k1c3 : Code := { maxStack := 2, maxLocals := 2, code := method_4_code, exceptionTable := #[], attributes := #[] }
def k1m3 : Method := { name := "stops", desc := "(CZ)Z", sig := { parameters := [.char, .boolean], returnType := some .boolean }, accessFlags := 10, code := some k1c3 }
def k1c4 : Code := { maxStack := 3, maxLocals := 12, code := code, exceptionTable := #[], attributes := #[] }
def k1m4 : Method := { name := "law", desc := "(IIIII)Z", sig := { parameters := [.int, .int, .int, .int, .int], returnType := some .boolean }, accessFlags := 9, code := some k1c4 }
/-- com/example/planscribe/planscribe/terms/QuotesClosingPinLaw -/
def k1 : Class := { plain "com/example/planscribe/planscribe/terms/QuotesClosingPinLaw" (some 0) with
  accessFlags := 49
  interfaces := #[]
  cf := some (fileOf pool1 9 #[] #[{ accessFlags := 2, nameIndex := 5, descriptorIndex := 6, attributes := #[] }, { accessFlags := 10, nameIndex := 16, descriptorIndex := 17, attributes := #[] }, { accessFlags := 10, nameIndex := 12, descriptorIndex := 13, attributes := #[] }, { accessFlags := 10, nameIndex := 25, descriptorIndex := 13, attributes := #[] }, { accessFlags := 9, nameIndex := 35, descriptorIndex := 36, attributes := #[] }] 49 2 #[] #[])
  fields := #[]
  methods := #[k1m0, k1m1, k1m2, k1m3, k1m4]
  instanceTypes := #[]
  staticTypes := #[]
  resolved := Array.replicate 41 none
  statics := none }

def pool2 : Array CpInfo := pool [(1, .class_ 2), (0, u "java/io/Serializable"), (0, .class_ 4), (0, u "java/lang/Object")] 2

/-- java/io/Serializable -/
def k2 : Class := { plain "java/io/Serializable" (some 0) with
  accessFlags := 1537
  interfaces := #[]
  cf := some (fileOf pool2 1 #[] #[] 1537 3 #[] #[])
  fields := #[]
  methods := #[]
  instanceTypes := #[]
  staticTypes := #[]
  resolved := Array.replicate 7 none
  statics := none }

def pool3 : Array CpInfo := pool [(1, .class_ 2), (0, u "java/lang/Comparable"), (0, .class_ 4), (0, u "java/lang/Object")] 7

/-- java/lang/Comparable -/
def k3 : Class := { plain "java/lang/Comparable" (some 0) with
  accessFlags := 1537
  interfaces := #[]
  cf := some (fileOf pool3 1 #[] #[] 1537 3 #[] #[])
  fields := #[]
  methods := #[]
  instanceTypes := #[]
  staticTypes := #[]
  resolved := Array.replicate 12 none
  statics := none }

def pool4 : Array CpInfo := pool [(2, .class_ 4), (1, u "java/lang/CharSequence"), (0, u "length"), (0, u "()I"), (38, u "charAt"), (0, u "(I)C"), (0, .class_ 48), (0, u "java/lang/CharSequence$1CodePointIterator"), (10, .class_ 60), (0, u "java/lang/CharSequence$1CharIterator"), (5, .class_ 67), (0, u "java/lang/Object")] 63

def k4m0 : Method := { name := "length", desc := "()I", sig := { parameters := [], returnType := some .int }, accessFlags := 1025, code := none }
def k4m1 : Method := { name := "charAt", desc := "(I)C", sig := { parameters := [.int], returnType := some .char }, accessFlags := 1025, code := none }
/-- java/lang/CharSequence -/
def k4 : Class := { plain "java/lang/CharSequence" (some 0) with
  accessFlags := 1537
  interfaces := #[]
  cf := some (fileOf pool4 2 #[.nestMembers #[47, 59]] #[{ accessFlags := 1025, nameIndex := 5, descriptorIndex := 6, attributes := #[] }, { accessFlags := 1025, nameIndex := 45, descriptorIndex := 46, attributes := #[] }] 1537 66 #[] #[])
  fields := #[]
  methods := #[k4m0, k4m1]
  instanceTypes := #[]
  staticTypes := #[]
  resolved := Array.replicate 131 none
  statics := none }

def pool5 : Array CpInfo := pool [(1, .class_ 2), (0, u "java/lang/constant/Constable"), (0, .class_ 4), (0, u "java/lang/Object")] 6

/-- java/lang/constant/Constable -/
def k5 : Class := { plain "java/lang/constant/Constable" (some 0) with
  accessFlags := 1537
  interfaces := #[]
  cf := some (fileOf pool5 1 #[] #[] 1537 3 #[] #[])
  fields := #[]
  methods := #[]
  instanceTypes := #[]
  staticTypes := #[]
  resolved := Array.replicate 11 none
  statics := none }

def pool6 : Array CpInfo := pool [(1, .class_ 2), (0, u "java/lang/constant/ConstantDesc"), (0, .class_ 4), (0, u "java/lang/Object")] 32

/-- java/lang/constant/ConstantDesc -/
def k6 : Class := { plain "java/lang/constant/ConstantDesc" (some 0) with
  accessFlags := 1537
  interfaces := #[]
  cf := some (fileOf pool6 1 #[] #[] 1537 3 #[] #[])
  fields := #[]
  methods := #[]
  instanceTypes := #[]
  staticTypes := #[]
  resolved := Array.replicate 37 none
  statics := none }

def pool7 : Array CpInfo := pool [(1, .methodref 2 3), (0, .class_ 4), (0, .nameAndType 5 6), (0, u "java/lang/Object"), (0, u "<init>"), (0, u "()V"), (2, .fieldref 10 11), (0, .class_ 12), (0, .nameAndType 13 14), (0, u "java/lang/String"), (0, u "value"), (0, u "[B"), (0, .fieldref 10 16), (0, .nameAndType 17 18), (0, u "coder"), (0, u "B"), (2, u "hash"), (0, u "I"), (2, u "hashIsZero"), (0, u "Z"), (0, .methodref 10 28), (0, .nameAndType 5 29), (0, u "([CIILjava/lang/Void;)V"), (8, .fieldref 10 39), (0, .nameAndType 40 26), (0, u "COMPACT_STRINGS"), (1, .class_ 44), (1, u "java/lang/StringUTF16"), (0, u "compress"), (1, .methodref 42 48), (0, .nameAndType 49 50), (0, u "coderFromArrayLen"), (0, u "([BI)B"), (56, .class_ 109), (1, u "java/lang/StringLatin1"), (32, u "()Z"), (34, .methodref 42 178), (0, .nameAndType 45 179), (0, u "([CII)[B"), (154, u "()I"), (0, .methodref 10 336), (0, .nameAndType 17 337), (0, u "()B"), (25, u "([BI)C"), (27, u "(II)V"), (35, u "(I)C"), (64, .methodref 10 493), (0, .nameAndType 494 142), (0, u "isLatin1"), (0, .methodref 107 496), (0, .nameAndType 497 363), (0, u "charAt"), (0, .methodref 42 496), (2, u "checkIndex"), (5, u "length"), (67, .class_ 576), (0, u "java/lang/CharSequence"), (22, u "CASE_INSENSITIVE_ORDER"), (0, u "Ljava/util/Comparator;"), (409, u "([C)V"), (42, .fieldref 1054 1055), (0, .class_ 1056), (0, .nameAndType 1057 1058), (0, u "jdk/internal/util/Preconditions"), (0, u "SIOOBE_FORMATTER"), (0, u "Ljava/util/function/BiFunction;"), (0, .methodref 1054 1060), (0, .nameAndType 501 1061), (0, u "(IILjava/util/function/BiFunction;)I"), (39, u "serialPersistentFields"), (0, u "[Ljava/io/ObjectStreamField;"), (0, .class_ 1104), (0, u "java/lang/String$CaseInsensitiveComparator"), (1, .class_ 1107), (0, u "java/io/Serializable"), (0, .class_ 1109), (0, u "java/lang/Comparable"), (0, .class_ 1111), (0, u "java/lang/constant/Constable"), (0, .class_ 1113), (0, u "java/lang/constant/ConstantDesc"), (2, u "serialVersionUID"), (0, u "J"), (3, u "REPL"), (0, u "C"), (2, u "LATIN1"), (1, u "UTF16")] 323

def k7m0 : Method := { name := "<init>", desc := "()V", sig := { parameters := [], returnType := none }, accessFlags := 1, code := none }
def k7c1 : Code := { maxStack := 5, maxLocals := 2, code := jdk_42_method_3_code, exceptionTable := #[], attributes := #[] }
def k7m1 : Method := { name := "<init>", desc := "([C)V", sig := { parameters := [(.array .char)], returnType := none }, accessFlags := 1, code := some k7c1 }
def k7c2 : Code := { maxStack := 2, maxLocals := 1, code := jdk_42_method_54_code, exceptionTable := #[], attributes := #[] }
def k7m2 : Method := { name := "length", desc := "()I", sig := { parameters := [], returnType := some .int }, accessFlags := 1, code := some k7c2 }
def k7c3 : Code := { maxStack := 2, maxLocals := 2, code := jdk_42_method_56_code, exceptionTable := #[], attributes := #[] }
def k7m3 : Method := { name := "charAt", desc := "(I)C", sig := { parameters := [.int], returnType := some .char }, accessFlags := 1, code := some k7c3 }
def k7c4 : Code := { maxStack := 4, maxLocals := 6, code := jdk_42_method_149_code, exceptionTable := #[], attributes := #[] }
def k7m4 : Method := { name := "<init>", desc := "([CIILjava/lang/Void;)V", sig := { parameters := [(.array .char), .int, .int, (.object "java/lang/Void")], returnType := none }, accessFlags := 2, code := some k7c4 }
def k7c5 : Code := { maxStack := 1, maxLocals := 1, code := jdk_42_method_152_code, exceptionTable := #[], attributes := #[] }
def k7m5 : Method := { name := "coder", desc := "()B", sig := { parameters := [], returnType := some .byte }, accessFlags := 0, code := some k7c5 }
def k7c6 : Code := { maxStack := 1, maxLocals := 1, code := jdk_42_method_154_code, exceptionTable := #[], attributes := #[] }
def k7m6 : Method := { name := "isLatin1", desc := "()Z", sig := { parameters := [], returnType := some .boolean }, accessFlags := 0, code := some k7c6 }
def k7c7 : Code := { maxStack := 3, maxLocals := 2, code := jdk_42_method_155_code, exceptionTable := #[], attributes := #[] }
def k7m7 : Method := { name := "checkIndex", desc := "(II)V", sig := { parameters := [.int, .int], returnType := none }, accessFlags := 8, code := some k7c7 }
/-- java/lang/String -/
def k7 : Class := { plain "java/lang/String" (some 0) with
  accessFlags := 49
  interfaces := #[2, 3, 4, 5, 6]
  cf := some (fileOf pool7 10 #[.nestMembers #[1103]] #[{ accessFlags := 1, nameIndex := 5, descriptorIndex := 6, attributes := #[] }, { accessFlags := 1, nameIndex := 5, descriptorIndex := 1010, attributes := #[] }, { accessFlags := 1, nameIndex := 507, descriptorIndex := 334, attributes := #[] }, { accessFlags := 1, nameIndex := 497, descriptorIndex := 427, attributes := #[] }, { accessFlags := 2, nameIndex := 5, descriptorIndex := 29, attributes := #[] }, { accessFlags := 0, nameIndex := 17, descriptorIndex := 337, attributes := #[] }, { accessFlags := 0, nameIndex := 494, descriptorIndex := 142, attributes := #[] }, { accessFlags := 8, nameIndex := 501, descriptorIndex := 391, attributes := #[] }] 49 2 #[1106, 1108, 575, 1110, 1112] #[{ accessFlags := 18, nameIndex := 13, descriptorIndex := 14, attributes := #[] }, { accessFlags := 18, nameIndex := 17, descriptorIndex := 18, attributes := #[] }, { accessFlags := 2, nameIndex := 21, descriptorIndex := 22, attributes := #[] }, { accessFlags := 2, nameIndex := 25, descriptorIndex := 26, attributes := #[] }, { accessFlags := 26, nameIndex := 1116, descriptorIndex := 1117, attributes := #[] }, { accessFlags := 24, nameIndex := 40, descriptorIndex := 26, attributes := #[] }, { accessFlags := 26, nameIndex := 1101, descriptorIndex := 1102, attributes := #[] }, { accessFlags := 26, nameIndex := 1121, descriptorIndex := 1122, attributes := #[] }, { accessFlags := 25, nameIndex := 599, descriptorIndex := 600, attributes := #[] }, { accessFlags := 24, nameIndex := 1125, descriptorIndex := 18, attributes := #[] }, { accessFlags := 24, nameIndex := 1127, descriptorIndex := 18, attributes := #[] }])
  fields := #[{ name := "value", type := (.array .byte), accessFlags := 18, slot := 0, constantValue := 0 }, { name := "coder", type := .byte, accessFlags := 18, slot := 1, constantValue := 0 }, { name := "hash", type := .int, accessFlags := 2, slot := 2, constantValue := 0 }, { name := "hashIsZero", type := .boolean, accessFlags := 2, slot := 3, constantValue := 0 }, { name := "serialVersionUID", type := .long, accessFlags := 26, slot := 0, constantValue := 0 }, { name := "COMPACT_STRINGS", type := .boolean, accessFlags := 24, slot := 1, constantValue := 0 }, { name := "serialPersistentFields", type := (.array (.object "java/io/ObjectStreamField")), accessFlags := 26, slot := 2, constantValue := 0 }, { name := "REPL", type := .char, accessFlags := 26, slot := 3, constantValue := 0 }, { name := "CASE_INSENSITIVE_ORDER", type := (.object "java/util/Comparator"), accessFlags := 25, slot := 4, constantValue := 0 }, { name := "LATIN1", type := .byte, accessFlags := 24, slot := 5, constantValue := 0 }, { name := "UTF16", type := .byte, accessFlags := 24, slot := 6, constantValue := 0 }]
  methods := #[k7m0, k7m1, k7m2, k7m3, k7m4, k7m5, k7m6, k7m7]
  instanceTypes := #[(.array .byte), .byte, .int, .boolean]
  staticTypes := #[.long, .boolean, (.array (.object "java/io/ObjectStreamField")), .char, (.object "java/util/Comparator"), .byte, .byte]
  resolved := Array.replicate 1451 none
  statics := some 0 }

def pool8 : Array CpInfo := pool [(3, .class_ 4), (0, u "java/lang/String"), (1, .class_ 8), (1, u "java/lang/Object"), (0, u "<init>"), (0, u "()V"), (0, .methodref 12 13), (0, .class_ 14), (0, .nameAndType 15 16), (0, u "java/lang/StringUTF16"), (0, u "newBytesLength"), (0, u "(I)I"), (3, .integer 1073741823), (23, .fieldref 12 45), (0, .nameAndType 46 47), (0, u "$assertionsDisabled"), (0, u "Z"), (0, .methodref 12 49), (0, .nameAndType 50 51), (0, u "length"), (0, u "([B)I"), (7, .fieldref 12 60), (0, .nameAndType 61 62), (0, u "HI_BYTE_SHIFT"), (0, u "I"), (0, .fieldref 12 64), (0, .nameAndType 65 62), (0, u "LO_BYTE_SHIFT"), (1, .methodref 12 68), (0, .nameAndType 69 70), (0, u "checkIndex"), (0, u "(I[B)V"), (0, .methodref 12 72), (0, .nameAndType 73 74), (0, u "getChar"), (0, u "([BI)C"), (32, .methodref 12 108), (0, .nameAndType 109 110), (0, u "newBytesFor"), (0, u "(I)[B"), (0, .methodref 12 112), (0, .nameAndType 113 114), (0, u "putChar"), (0, u "([BII)V"), (0, .methodref 12 116), (0, .nameAndType 117 118), (0, u "compress"), (0, u "([CI[BII)I"), (0, .methodref 12 120), (0, .nameAndType 121 122), (0, u "toBytes"), (0, u "([CII)[B"), (138, u "coderFromArrayLen"), (0, u "([BI)B"), (106, .class_ 371), (1, u "java/lang/StringUTF16$LinesSpliterator"), (20, u "charAt"), (21, .methodref 3 415), (0, .nameAndType 69 416), (0, u "(II)V"), (13, u "MAX_LENGTH"), (196, .class_ 628), (0, u "java/lang/StringUTF16$CodePointsSpliterator"), (0, .class_ 630), (0, u "java/lang/StringUTF16$CharsSpliterator")] 4

def k8m0 : Method := { name := "<init>", desc := "()V", sig := { parameters := [], returnType := none }, accessFlags := 0, code := none }
def k8c1 : Code := { maxStack := 1, maxLocals := 1, code := jdk_52_method_2_code, exceptionTable := #[], attributes := #[] }
def k8m1 : Method := { name := "newBytesFor", desc := "(I)[B", sig := { parameters := [.int], returnType := some (.array .byte) }, accessFlags := 9, code := some k8c1 }
def k8c2 : Code := { maxStack := 4, maxLocals := 1, code := jdk_52_method_3_code, exceptionTable := #[], attributes := #[] }
def k8m2 : Method := { name := "newBytesLength", desc := "(I)I", sig := { parameters := [.int], returnType := some .int }, accessFlags := 9, code := some k8c2 }
def k8c3 : Code := { maxStack := 4, maxLocals := 3, code := jdk_52_method_4_code, exceptionTable := #[], attributes := #[] }
def k8m3 : Method := { name := "putChar", desc := "([BII)V", sig := { parameters := [(.array .byte), .int, .int], returnType := none }, accessFlags := 8, code := some k8c3 }
def k8c4 : Code := { maxStack := 3, maxLocals := 2, code := jdk_52_method_5_code, exceptionTable := #[], attributes := #[] }
def k8m4 : Method := { name := "getChar", desc := "([BI)C", sig := { parameters := [(.array .byte), .int], returnType := some .char }, accessFlags := 8, code := some k8c4 }
def k8c5 : Code := { maxStack := 2, maxLocals := 1, code := jdk_52_method_6_code, exceptionTable := #[], attributes := #[] }
def k8m5 : Method := { name := "length", desc := "([B)I", sig := { parameters := [(.array .byte)], returnType := some .int }, accessFlags := 9, code := some k8c5 }
def k8c6 : Code := { maxStack := 4, maxLocals := 5, code := jdk_52_method_14_code, exceptionTable := #[], attributes := #[] }
def k8m6 : Method := { name := "toBytes", desc := "([CII)[B", sig := { parameters := [(.array .char), .int, .int], returnType := some (.array .byte) }, accessFlags := 9, code := some k8c6 }
def k8c7 : Code := { maxStack := 2, maxLocals := 2, code := jdk_52_method_15_code, exceptionTable := #[], attributes := #[] }
def k8m7 : Method := { name := "coderFromArrayLen", desc := "([BI)B", sig := { parameters := [(.array .byte), .int], returnType := some .byte }, accessFlags := 8, code := some k8c7 }
def k8c8 : Code := { maxStack := 5, maxLocals := 6, code := jdk_52_method_16_code, exceptionTable := #[], attributes := #[] }
def k8m8 : Method := { name := "compress", desc := "([CII)[B", sig := { parameters := [(.array .char), .int, .int], returnType := some (.array .byte) }, accessFlags := 9, code := some k8c8 }
def k8c9 : Code := { maxStack := 3, maxLocals := 7, code := jdk_52_method_21_code, exceptionTable := #[], attributes := #[] }
def k8m9 : Method := { name := "compress", desc := "([CI[BII)I", sig := { parameters := [(.array .char), .int, (.array .byte), .int, .int], returnType := some .int }, accessFlags := 9, code := some k8c9 }
def k8c10 : Code := { maxStack := 2, maxLocals := 2, code := jdk_52_method_83_code, exceptionTable := #[], attributes := #[] }
def k8m10 : Method := { name := "charAt", desc := "([BI)C", sig := { parameters := [(.array .byte), .int], returnType := some .char }, accessFlags := 9, code := some k8c10 }
def k8c11 : Code := { maxStack := 2, maxLocals := 2, code := jdk_52_method_91_code, exceptionTable := #[], attributes := #[] }
def k8m11 : Method := { name := "checkIndex", desc := "(I[B)V", sig := { parameters := [.int, (.array .byte)], returnType := none }, accessFlags := 9, code := some k8c11 }
/-- java/lang/StringUTF16 -/
def k8 : Class := { plain "java/lang/StringUTF16" (some 0) with
  accessFlags := 48
  interfaces := #[]
  cf := some (fileOf pool8 12 #[.nestMembers #[627, 629, 369]] #[{ accessFlags := 0, nameIndex := 9, descriptorIndex := 10, attributes := #[] }, { accessFlags := 9, nameIndex := 109, descriptorIndex := 110, attributes := #[] }, { accessFlags := 9, nameIndex := 15, descriptorIndex := 16, attributes := #[] }, { accessFlags := 8, nameIndex := 113, descriptorIndex := 114, attributes := #[] }, { accessFlags := 8, nameIndex := 73, descriptorIndex := 74, attributes := #[] }, { accessFlags := 9, nameIndex := 50, descriptorIndex := 51, attributes := #[] }, { accessFlags := 9, nameIndex := 121, descriptorIndex := 122, attributes := #[] }, { accessFlags := 8, nameIndex := 261, descriptorIndex := 262, attributes := #[] }, { accessFlags := 9, nameIndex := 117, descriptorIndex := 122, attributes := #[] }, { accessFlags := 9, nameIndex := 117, descriptorIndex := 118, attributes := #[] }, { accessFlags := 9, nameIndex := 392, descriptorIndex := 74, attributes := #[] }, { accessFlags := 9, nameIndex := 69, descriptorIndex := 70, attributes := #[] }] 48 6 #[] #[{ accessFlags := 26, nameIndex := 61, descriptorIndex := 62, attributes := #[] }, { accessFlags := 26, nameIndex := 65, descriptorIndex := 62, attributes := #[] }, { accessFlags := 24, nameIndex := 430, descriptorIndex := 62, attributes := #[] }, { accessFlags := 4120, nameIndex := 46, descriptorIndex := 47, attributes := #[] }])
  fields := #[{ name := "HI_BYTE_SHIFT", type := .int, accessFlags := 26, slot := 0, constantValue := 0 }, { name := "LO_BYTE_SHIFT", type := .int, accessFlags := 26, slot := 1, constantValue := 0 }, { name := "MAX_LENGTH", type := .int, accessFlags := 24, slot := 2, constantValue := 0 }, { name := "$assertionsDisabled", type := .boolean, accessFlags := 4120, slot := 3, constantValue := 0 }]
  methods := #[k8m0, k8m1, k8m2, k8m3, k8m4, k8m5, k8m6, k8m7, k8m8, k8m9, k8m10, k8m11]
  instanceTypes := #[]
  staticTypes := #[.int, .int, .int, .boolean]
  resolved := Array.replicate 635 none
  statics := some 1 }

def pool9 : Array CpInfo := pool [(2, .class_ 4), (1, u "java/lang/Object"), (0, u "<init>"), (0, u "()V"), (0, .interfaceMethodref 8 9), (0, .class_ 10), (0, .nameAndType 11 12), (0, u "java/lang/CharSequence"), (0, u "length"), (0, u "()I"), (0, .interfaceMethodref 8 14), (0, .nameAndType 15 16), (0, u "charAt"), (0, u "(I)C"), (0, .class_ 18), (0, u "com/example/planscribe/planscribe/terms/Quotes"), (14, u "OPEN"), (0, u "C"), (2, u "CLOSE"), (1, u "STRAIGHT"), (1, u "BEFORE_OPENING"), (0, u "Ljava/lang/String;"), (5, u "closing"), (0, u "(Ljava/lang/CharSequence;I)I")] 2

def k9m0 : Method := { name := "<init>", desc := "()V", sig := { parameters := [], returnType := none }, accessFlags := 2, code := none }
def k9c1 : Code := { maxStack := 2, maxLocals := 5, code := prog_75_method_3_code, exceptionTable := #[], attributes := #[] }
def k9m1 : Method := { name := "closing", desc := "(Ljava/lang/CharSequence;I)I", sig := { parameters := [(.object "java/lang/CharSequence"), .int], returnType := some .int }, accessFlags := 8, code := some k9c1 }
/-- com/example/planscribe/planscribe/terms/Quotes -/
def k9 : Class := { plain "com/example/planscribe/planscribe/terms/Quotes" (some 0) with
  accessFlags := 48
  interfaces := #[]
  cf := some (fileOf pool9 17 #[] #[{ accessFlags := 2, nameIndex := 5, descriptorIndex := 6, attributes := #[] }, { accessFlags := 8, nameIndex := 48, descriptorIndex := 49, attributes := #[] }] 48 2 #[] #[{ accessFlags := 26, nameIndex := 33, descriptorIndex := 34, attributes := #[] }, { accessFlags := 26, nameIndex := 37, descriptorIndex := 34, attributes := #[] }, { accessFlags := 26, nameIndex := 39, descriptorIndex := 34, attributes := #[] }, { accessFlags := 26, nameIndex := 41, descriptorIndex := 42, attributes := #[] }])
  fields := #[{ name := "OPEN", type := .char, accessFlags := 26, slot := 0, constantValue := 0 }, { name := "CLOSE", type := .char, accessFlags := 26, slot := 1, constantValue := 0 }, { name := "STRAIGHT", type := .char, accessFlags := 26, slot := 2, constantValue := 0 }, { name := "BEFORE_OPENING", type := (.object "java/lang/String"), accessFlags := 26, slot := 3, constantValue := 0 }]
  methods := #[k9m0, k9m1]
  instanceTypes := #[]
  staticTypes := #[.char, .char, .char, (.object "java/lang/String")]
  resolved := Array.replicate 52 none
  statics := none }

def pool10 : Array CpInfo := pool [(2, .class_ 4), (1, u "java/lang/Object"), (0, u "<init>"), (0, u "()V"), (17, .class_ 26), (1, u "jdk/internal/util/Preconditions"), (6, u "checkIndex"), (21, .class_ 56), (0, u "jdk/internal/util/Preconditions$4"), (57, .class_ 115), (0, u "jdk/internal/util/Preconditions$1"), (7, u "SIOOBE_FORMATTER"), (0, u "Ljava/util/function/BiFunction;"), (0, .class_ 126), (0, u "jdk/internal/util/Preconditions$2"), (3, u "AIOOBE_FORMATTER"), (0, .class_ 132), (0, u "jdk/internal/util/Preconditions$3"), (3, u "IOOBE_FORMATTER"), (41, u "(IILjava/util/function/BiFunction;)I")] 15

def k10m0 : Method := { name := "<init>", desc := "()V", sig := { parameters := [], returnType := none }, accessFlags := 1, code := none }
def k10c1 : Code := { maxStack := 3, maxLocals := 3, code := jdk_41_method_11_code, exceptionTable := #[], attributes := #[] }
def k10m1 : Method := { name := "checkIndex", desc := "(IILjava/util/function/BiFunction;)I", sig := { parameters := [.int, .int, (.object "java/util/function/BiFunction")], returnType := some .int }, accessFlags := 9, code := some k10c1 }
/-- jdk/internal/util/Preconditions -/
def k10 : Class := { plain "jdk/internal/util/Preconditions" (some 0) with
  accessFlags := 33
  interfaces := #[]
  cf := some (fileOf pool10 24 #[.nestMembers #[55, 131, 125, 114]] #[{ accessFlags := 1, nameIndex := 5, descriptorIndex := 6, attributes := #[] }, { accessFlags := 9, nameIndex := 33, descriptorIndex := 178, attributes := #[] }] 33 2 #[] #[{ accessFlags := 25, nameIndex := 123, descriptorIndex := 124, attributes := #[] }, { accessFlags := 25, nameIndex := 130, descriptorIndex := 124, attributes := #[] }, { accessFlags := 25, nameIndex := 136, descriptorIndex := 124, attributes := #[] }])
  fields := #[{ name := "SIOOBE_FORMATTER", type := (.object "java/util/function/BiFunction"), accessFlags := 25, slot := 0, constantValue := 0 }, { name := "AIOOBE_FORMATTER", type := (.object "java/util/function/BiFunction"), accessFlags := 25, slot := 1, constantValue := 0 }, { name := "IOOBE_FORMATTER", type := (.object "java/util/function/BiFunction"), accessFlags := 25, slot := 2, constantValue := 0 }]
  methods := #[k10m0, k10m1]
  instanceTypes := #[]
  staticTypes := #[(.object "java/util/function/BiFunction"), (.object "java/util/function/BiFunction"), (.object "java/util/function/BiFunction")]
  resolved := Array.replicate 194 none
  statics := some 2 }

def pool11 : Array CpInfo := pool [(1, .class_ 2), (0, u "java/lang/String"), (1, .class_ 6), (1, u "java/lang/Object"), (0, u "<init>"), (0, u "()V"), (0, .methodref 1 10), (0, .nameAndType 11 12), (0, u "checkIndex"), (0, u "(II)V"), (1, .class_ 16), (1, u "java/lang/StringLatin1"), (36, u "([BI)C"), (67, u "$assertionsDisabled"), (0, u "Z"), (98, .class_ 223), (1, u "java/lang/StringLatin1$LinesSpliterator"), (28, u "charAt"), (137, .class_ 391), (0, u "java/lang/StringLatin1$CharsSpliterator")] 3

def k11m0 : Method := { name := "<init>", desc := "()V", sig := { parameters := [], returnType := none }, accessFlags := 0, code := none }
def k11c1 : Code := { maxStack := 2, maxLocals := 2, code := jdk_43_method_2_code, exceptionTable := #[], attributes := #[] }
def k11m1 : Method := { name := "charAt", desc := "([BI)C", sig := { parameters := [(.array .byte), .int], returnType := some .char }, accessFlags := 9, code := some k11c1 }
/-- java/lang/StringLatin1 -/
def k11 : Class := { plain "java/lang/StringLatin1" (some 0) with
  accessFlags := 48
  interfaces := #[]
  cf := some (fileOf pool11 14 #[.nestMembers #[390, 221]] #[{ accessFlags := 0, nameIndex := 7, descriptorIndex := 8, attributes := #[] }, { accessFlags := 9, nameIndex := 252, descriptorIndex := 53, attributes := #[] }] 48 4 #[] #[{ accessFlags := 4120, nameIndex := 121, descriptorIndex := 122, attributes := #[] }])
  fields := #[{ name := "$assertionsDisabled", type := .boolean, accessFlags := 4120, slot := 0, constantValue := 0 }]
  methods := #[k11m0, k11m1]
  instanceTypes := #[]
  staticTypes := #[.boolean]
  resolved := Array.replicate 395 none
  statics := none }

def pool12 : Array CpInfo := pool [(9, u "<init>"), (6, .class_ 18), (1, u "java/lang/Object"), (0, u "()V"), (1, .class_ 23), (1, u "jdk/internal/util/ArraysSupport"), (0, u "LOG2_ARRAY_LONG_INDEX_SCALE"), (0, u "I"), (2, u "U"), (0, u "Ljdk/internal/misc/Unsafe;"), (8, u "BIG_ENDIAN"), (0, u "Z"), (8, u "LOG2_BYTE_BIT_SIZE"), (4, u "LOG2_ARRAY_INT_INDEX_SCALE"), (54, u "JLA"), (0, u "Ljdk/internal/access/JavaLangAccess;"), (11, u "LOG2_ARRAY_BOOLEAN_INDEX_SCALE"), (9, u "LOG2_ARRAY_BYTE_INDEX_SCALE"), (5, u "LOG2_ARRAY_CHAR_INDEX_SCALE"), (5, u "LOG2_ARRAY_SHORT_INDEX_SCALE"), (18, u "LOG2_ARRAY_FLOAT_INDEX_SCALE"), (24, u "LOG2_ARRAY_DOUBLE_INDEX_SCALE"), (89, u "T_BOOLEAN"), (2, u "T_CHAR"), (1, u "T_FLOAT"), (1, u "T_DOUBLE"), (1, u "T_BYTE"), (1, u "T_SHORT"), (1, u "T_INT"), (1, u "T_LONG"), (1, u "SOFT_MAX_ARRAY_LENGTH")] 83

def k12m0 : Method := { name := "<init>", desc := "()V", sig := { parameters := [], returnType := none }, accessFlags := 2, code := none }
/-- jdk/internal/util/ArraysSupport -/
def k12 : Class := { plain "jdk/internal/util/ArraysSupport" (some 0) with
  accessFlags := 33
  interfaces := #[]
  cf := some (fileOf pool12 21 #[] #[{ accessFlags := 2, nameIndex := 9, descriptorIndex := 19, attributes := #[] }] 33 16 #[] #[{ accessFlags := 24, nameIndex := 28, descriptorIndex := 29, attributes := #[] }, { accessFlags := 26, nameIndex := 38, descriptorIndex := 39, attributes := #[] }, { accessFlags := 25, nameIndex := 121, descriptorIndex := 25, attributes := #[] }, { accessFlags := 25, nameIndex := 131, descriptorIndex := 25, attributes := #[] }, { accessFlags := 25, nameIndex := 137, descriptorIndex := 25, attributes := #[] }, { accessFlags := 25, nameIndex := 143, descriptorIndex := 25, attributes := #[] }, { accessFlags := 25, nameIndex := 53, descriptorIndex := 25, attributes := #[] }, { accessFlags := 25, nameIndex := 24, descriptorIndex := 25, attributes := #[] }, { accessFlags := 25, nameIndex := 162, descriptorIndex := 25, attributes := #[] }, { accessFlags := 25, nameIndex := 187, descriptorIndex := 25, attributes := #[] }, { accessFlags := 26, nameIndex := 48, descriptorIndex := 25, attributes := #[] }, { accessFlags := 25, nameIndex := 277, descriptorIndex := 25, attributes := #[] }, { accessFlags := 25, nameIndex := 280, descriptorIndex := 25, attributes := #[] }, { accessFlags := 25, nameIndex := 282, descriptorIndex := 25, attributes := #[] }, { accessFlags := 25, nameIndex := 284, descriptorIndex := 25, attributes := #[] }, { accessFlags := 25, nameIndex := 286, descriptorIndex := 25, attributes := #[] }, { accessFlags := 25, nameIndex := 288, descriptorIndex := 25, attributes := #[] }, { accessFlags := 25, nameIndex := 290, descriptorIndex := 25, attributes := #[] }, { accessFlags := 25, nameIndex := 292, descriptorIndex := 25, attributes := #[] }, { accessFlags := 26, nameIndex := 108, descriptorIndex := 109, attributes := #[] }, { accessFlags := 25, nameIndex := 294, descriptorIndex := 25, attributes := #[] }])
  fields := #[{ name := "U", type := (.object "jdk/internal/misc/Unsafe"), accessFlags := 24, slot := 0, constantValue := 0 }, { name := "BIG_ENDIAN", type := .boolean, accessFlags := 26, slot := 1, constantValue := 0 }, { name := "LOG2_ARRAY_BOOLEAN_INDEX_SCALE", type := .int, accessFlags := 25, slot := 2, constantValue := 0 }, { name := "LOG2_ARRAY_BYTE_INDEX_SCALE", type := .int, accessFlags := 25, slot := 3, constantValue := 0 }, { name := "LOG2_ARRAY_CHAR_INDEX_SCALE", type := .int, accessFlags := 25, slot := 4, constantValue := 0 }, { name := "LOG2_ARRAY_SHORT_INDEX_SCALE", type := .int, accessFlags := 25, slot := 5, constantValue := 0 }, { name := "LOG2_ARRAY_INT_INDEX_SCALE", type := .int, accessFlags := 25, slot := 6, constantValue := 0 }, { name := "LOG2_ARRAY_LONG_INDEX_SCALE", type := .int, accessFlags := 25, slot := 7, constantValue := 0 }, { name := "LOG2_ARRAY_FLOAT_INDEX_SCALE", type := .int, accessFlags := 25, slot := 8, constantValue := 0 }, { name := "LOG2_ARRAY_DOUBLE_INDEX_SCALE", type := .int, accessFlags := 25, slot := 9, constantValue := 0 }, { name := "LOG2_BYTE_BIT_SIZE", type := .int, accessFlags := 26, slot := 10, constantValue := 0 }, { name := "T_BOOLEAN", type := .int, accessFlags := 25, slot := 11, constantValue := 0 }, { name := "T_CHAR", type := .int, accessFlags := 25, slot := 12, constantValue := 0 }, { name := "T_FLOAT", type := .int, accessFlags := 25, slot := 13, constantValue := 0 }, { name := "T_DOUBLE", type := .int, accessFlags := 25, slot := 14, constantValue := 0 }, { name := "T_BYTE", type := .int, accessFlags := 25, slot := 15, constantValue := 0 }, { name := "T_SHORT", type := .int, accessFlags := 25, slot := 16, constantValue := 0 }, { name := "T_INT", type := .int, accessFlags := 25, slot := 17, constantValue := 0 }, { name := "T_LONG", type := .int, accessFlags := 25, slot := 18, constantValue := 0 }, { name := "JLA", type := (.object "jdk/internal/access/JavaLangAccess"), accessFlags := 26, slot := 19, constantValue := 0 }, { name := "SOFT_MAX_ARRAY_LENGTH", type := .int, accessFlags := 25, slot := 20, constantValue := 0 }]
  methods := #[k12m0]
  instanceTypes := #[]
  staticTypes := #[(.object "jdk/internal/misc/Unsafe"), .boolean, .int, .int, .int, .int, .int, .int, .int, .int, .int, .int, .int, .int, .int, .int, .int, .int, .int, (.object "jdk/internal/access/JavaLangAccess"), .int]
  resolved := Array.replicate 378 none
  statics := none }

def pool13 : Array CpInfo := pool [(1, u "java/lang/Cloneable"), (0, .class_ 1), (0, u "java/lang/Object"), (0, .class_ 3)] 3

/-- java/lang/Cloneable -/
def k13 : Class := { plain "java/lang/Cloneable" (some 0) with
  accessFlags := 1537
  interfaces := #[]
  cf := some (fileOf pool13 2 #[] #[] 1537 4 #[] #[])
  fields := #[]
  methods := #[]
  instanceTypes := #[]
  staticTypes := #[]
  resolved := Array.replicate 8 none
  statics := none }

/-- the primitive byte -/
def k14 : Class := { plain "byte" none with kind := .primitive 'B', accessFlags := 0x411 }
/-- [B -/
def k15 : Class := { plain "[B" (some 0) with kind := .array 14 .byte, interfaces := #[13, 2], accessFlags := 1041 }

/-- the primitive char -/
def k16 : Class := { plain "char" none with kind := .primitive 'C', accessFlags := 0x411 }
/-- [C -/
def k17 : Class := { plain "[C" (some 0) with kind := .array 16 .char, interfaces := #[13, 2], accessFlags := 1041 }

/-- the primitive int -/
def k18 : Class := { plain "int" none with kind := .primitive 'I', accessFlags := 0x411 }
/-- [I -/
def k19 : Class := { plain "[I" (some 0) with kind := .array 18 .int, interfaces := #[13, 2], accessFlags := 1041 }

def heap : Heap := #[{ cls := 7, slots := #[.long 0, .int 1, .null, .int 0, .null, .int 0, .int 0], vm := .statics 7 },
  { cls := 8, slots := #[.int 0, .int 8, .int 0, .int 1], vm := .statics 8 },
  { cls := 10, slots := #[.null, .null, .null], vm := .statics 10 }]
def classes : Array Class := #[k0, k1, k2, k3, k4, k5, k6, k7, k8, k9, k10, k11, k12, k13, k14, k15, k16, k17, k18, k19]
def interned : List (Array UInt16 × Addr) := []
def slotsUsed : Nat := 14
def theMethod : MethodId := ⟨1, 4⟩
def args0 : Array Value := #[.int 5, .int 6, .int 7, .int 8, .int 9]
def aboutOver (below : List Frame) : State where
  vm := { classes := classes, interned := interned.toArray }
  heap := heap
  slotsUsed := slotsUsed
  threads := #[{ frames := .invoking theMethod args0 :: below }]
def below0 : List Frame := [.native { method := ⟨0, 0⟩, args := #[] }]
def about1 : State := aboutOver below0
def p0 : Program := .bare "" "" ""
def e0 : Env := launch0.env 0 0 0
theorem w_frames : about1.frames = Frame.invoking theMethod args0 :: below0 := rfl
set_option maxRecDepth 65536 in
theorem w_args : argsFit about1.vm theMethod args0 = true := by decide +kernel
set_option maxRecDepth 65536 in
theorem w_heap : heapFits about1 = true := by decide +kernel
set_option maxRecDepth 65536 in
theorem w_runnable : about1.curStatus? = some .runnable := by decide +kernel
set_option maxRecDepth 65536 in
theorem w_alone : about1.alone = true := by decide +kernel
set_option maxRecDepth 65536 in
theorem w_named : about1.methodNamed? x = some theMethod := by decide +kernel
set_option maxRecDepth 65536 in
theorem w_hears : about1.hears theMethod below0 = true := by decide +kernel
set_option maxRecDepth 65536 in
theorem w_ripe : about1.ripe theMethod args0 below0 = true := by decide +kernel
theorem w_running : about1.status = .running := rfl
set_option maxRecDepth 65536 in
theorem w_room : about1.hasRoom e0.platform room_1 = true :=
  launch0.hasRoom_least _ room_1 (by decide +kernel) (by decide +kernel) (by decide +kernel) (by decide +kernel) (by decide +kernel) (by decide +kernel)
theorem allAtoms_all (ts : List Jvm.Cond) (a : Array Jvm.Value) (st : Jvm.State) : (allAtoms ts).before a st = ts.all (fun c => c.before a st) := by
  induction ts with
  | nil => rfl
  | cons c t ih =>
    show (Jvm.Cond.and c (allAtoms t)).before a st = _
    rw [Jvm.Cond.before_and, ih, List.all_cons]
def words1 : List Jvm.Cond := Jvm.Cond.code x code maxLocals ret :: tables_1
/-- a 'code' word, met by the world's own term for the bytes: nothing is compared byte by byte -/
theorem code_word {y : MethodName} {bytes : ByteArray} {mx : Nat} {rt : Option FieldType} {a : Array Value} {s : State} {m : MethodId} {meth : Method} {c : Code} (h1 : s.methodNamed? y = some m) (h2 : s.vm.method? m = some meth) (h3 : meth.code = some c) (h4 : c.code = bytes)
    (h5 : (c.maxLocals == mx && c.exceptionTable.isEmpty && decide (c.maxStack ≤ mostOperands) && decide (meth.sig.returnType = rt) && !meth.locks && decide (parseMethodDescriptor y.desc = some meth.sig)) = true) : (Jvm.Cond.code y bytes mx rt).before a s = true := by
  simp only [Bool.and_eq_true, beq_iff_eq, Bool.not_eq_true', decide_eq_true_eq] at h5
  obtain ⟨⟨⟨⟨⟨g1, g2⟩, g3⟩, g4⟩, g5⟩, g6⟩ := h5
  simp [Cond.before, Cond.holds, Cond.value, h1, h2, h3, h4, g1, g2, g3, g4, g5, g6]
def isCode : Jvm.Cond → Bool
  | .code _ _ _ _ => true
  | _ => false
theorem all_split {L : List Jvm.Cond} {P : Jvm.Cond → Bool} (h1 : L.all (fun c => isCode c || P c) = true) (h2 : ∀ c ∈ L.filter isCode, P c = true) : L.all P = true := by
  refine List.all_eq_true.mpr fun c hc => ?_
  have h := List.all_eq_true.mp h1 c hc
  rcases Bool.eq_false_or_eq_true (isCode c) with hi | hi
  · exact h2 c (List.mem_filter.mpr ⟨hc, hi⟩)
  · simpa [hi] using h
set_option maxRecDepth 65536 in
theorem w_c0 : (Jvm.Cond.code x code maxLocals ret).before args0 about1 = true := code_word (m := ⟨1, 4⟩) (meth := k1m4) (c := k1c4) (by decide +kernel) rfl rfl rfl (by decide +kernel)
set_option maxRecDepth 65536 in
theorem w_c1 : (Jvm.Cond.code ({ cls := "com/example/planscribe/planscribe/terms/QuotesClosingPinLaw", name := "ch", desc := "(I)C" } : Jvm.MethodName) method_2_code (2 : Nat) (Option.some Jvm.ClassFile.FieldType.char)).before args0 about1 = true := code_word (m := ⟨1, 1⟩) (meth := k1m1) (c := k1c1) (by decide +kernel) rfl rfl rfl (by decide +kernel)
set_option maxRecDepth 65536 in
theorem w_c2 : (Jvm.Cond.code ({ cls := "java/lang/String", name := "<init>", desc := "([C)V" } : Jvm.MethodName) jdk_42_method_3_code (2 : Nat) (Option.none : Option Jvm.ClassFile.FieldType)).before args0 about1 = true := code_word (m := ⟨7, 1⟩) (meth := k7m1) (c := k7c1) (by decide +kernel) rfl rfl rfl (by decide +kernel)
set_option maxRecDepth 65536 in
theorem w_c3 : (Jvm.Cond.code ({ cls := "java/lang/String", name := "<init>", desc := "([CIILjava/lang/Void;)V" } : Jvm.MethodName) jdk_42_method_149_code (6 : Nat) (Option.none : Option Jvm.ClassFile.FieldType)).before args0 about1 = true := code_word (m := ⟨7, 4⟩) (meth := k7m4) (c := k7c4) (by decide +kernel) rfl rfl rfl (by decide +kernel)
set_option maxRecDepth 65536 in
theorem w_c4 : (Jvm.Cond.code ({ cls := "java/lang/Object", name := "<init>", desc := "()V" } : Jvm.MethodName) object_method_1_code (1 : Nat) (Option.none : Option Jvm.ClassFile.FieldType)).before args0 about1 = true := code_word (m := ⟨0, 0⟩) (meth := k0m0) (c := k0c0) (by decide +kernel) rfl rfl rfl (by decide +kernel)
set_option maxRecDepth 65536 in
theorem w_c5 : (Jvm.Cond.code ({ cls := "java/lang/StringUTF16", name := "compress", desc := "([CII)[B" } : Jvm.MethodName) jdk_52_method_16_code (6 : Nat) (Option.some (Jvm.ClassFile.FieldType.array Jvm.ClassFile.FieldType.byte))).before args0 about1 = true := code_word (m := ⟨8, 8⟩) (meth := k8m8) (c := k8c8) (by decide +kernel) rfl rfl rfl (by decide +kernel)
set_option maxRecDepth 65536 in
theorem w_c6 : (Jvm.Cond.code ({ cls := "java/lang/StringUTF16", name := "compress", desc := "([CI[BII)I" } : Jvm.MethodName) jdk_52_method_21_code (7 : Nat) (Option.some Jvm.ClassFile.FieldType.int)).before args0 about1 = true := code_word (m := ⟨8, 9⟩) (meth := k8m9) (c := k8c9) (by decide +kernel) rfl rfl rfl (by decide +kernel)
set_option maxRecDepth 65536 in
theorem w_c7 : (Jvm.Cond.code ({ cls := "java/lang/StringUTF16", name := "toBytes", desc := "([CII)[B" } : Jvm.MethodName) jdk_52_method_14_code (5 : Nat) (Option.some (Jvm.ClassFile.FieldType.array Jvm.ClassFile.FieldType.byte))).before args0 about1 = true := code_word (m := ⟨8, 6⟩) (meth := k8m6) (c := k8c6) (by decide +kernel) rfl rfl rfl (by decide +kernel)
set_option maxRecDepth 65536 in
theorem w_c8 : (Jvm.Cond.code ({ cls := "java/lang/StringUTF16", name := "newBytesFor", desc := "(I)[B" } : Jvm.MethodName) jdk_52_method_2_code (1 : Nat) (Option.some (Jvm.ClassFile.FieldType.array Jvm.ClassFile.FieldType.byte))).before args0 about1 = true := code_word (m := ⟨8, 1⟩) (meth := k8m1) (c := k8c1) (by decide +kernel) rfl rfl rfl (by decide +kernel)
set_option maxRecDepth 65536 in
theorem w_c9 : (Jvm.Cond.code ({ cls := "java/lang/StringUTF16", name := "newBytesLength", desc := "(I)I" } : Jvm.MethodName) jdk_52_method_3_code (1 : Nat) (Option.some Jvm.ClassFile.FieldType.int)).before args0 about1 = true := code_word (m := ⟨8, 2⟩) (meth := k8m2) (c := k8c2) (by decide +kernel) rfl rfl rfl (by decide +kernel)
set_option maxRecDepth 65536 in
theorem w_c10 : (Jvm.Cond.code ({ cls := "java/lang/StringUTF16", name := "putChar", desc := "([BII)V" } : Jvm.MethodName) jdk_52_method_4_code (3 : Nat) (Option.none : Option Jvm.ClassFile.FieldType)).before args0 about1 = true := code_word (m := ⟨8, 3⟩) (meth := k8m3) (c := k8c3) (by decide +kernel) rfl rfl rfl (by decide +kernel)
set_option maxRecDepth 65536 in
theorem w_c11 : (Jvm.Cond.code ({ cls := "java/lang/StringUTF16", name := "getChar", desc := "([BI)C" } : Jvm.MethodName) jdk_52_method_5_code (2 : Nat) (Option.some Jvm.ClassFile.FieldType.char)).before args0 about1 = true := code_word (m := ⟨8, 4⟩) (meth := k8m4) (c := k8c4) (by decide +kernel) rfl rfl rfl (by decide +kernel)
set_option maxRecDepth 65536 in
theorem w_c12 : (Jvm.Cond.code ({ cls := "java/lang/StringUTF16", name := "coderFromArrayLen", desc := "([BI)B" } : Jvm.MethodName) jdk_52_method_15_code (2 : Nat) (Option.some Jvm.ClassFile.FieldType.byte)).before args0 about1 = true := code_word (m := ⟨8, 7⟩) (meth := k8m7) (c := k8c7) (by decide +kernel) rfl rfl rfl (by decide +kernel)
set_option maxRecDepth 65536 in
theorem w_c13 : (Jvm.Cond.code ({ cls := "com/example/planscribe/planscribe/terms/QuotesClosingPinLaw", name := "stops", desc := "(CZ)Z" } : Jvm.MethodName) method_4_code (2 : Nat) (Option.some Jvm.ClassFile.FieldType.boolean)).before args0 about1 = true := code_word (m := ⟨1, 3⟩) (meth := k1m3) (c := k1c3) (by decide +kernel) rfl rfl rfl (by decide +kernel)
set_option maxRecDepth 65536 in
theorem w_c14 : (Jvm.Cond.code ({ cls := "com/example/planscribe/planscribe/terms/QuotesClosingPinLaw", name := "matches", desc := "(CZ)Z" } : Jvm.MethodName) method_3_code (2 : Nat) (Option.some Jvm.ClassFile.FieldType.boolean)).before args0 about1 = true := code_word (m := ⟨1, 2⟩) (meth := k1m2) (c := k1c2) (by decide +kernel) rfl rfl rfl (by decide +kernel)
set_option maxRecDepth 65536 in
theorem w_c15 : (Jvm.Cond.code ({ cls := "com/example/planscribe/planscribe/terms/Quotes", name := "closing", desc := "(Ljava/lang/CharSequence;I)I" } : Jvm.MethodName) prog_75_method_3_code (5 : Nat) (Option.some Jvm.ClassFile.FieldType.int)).before args0 about1 = true := code_word (m := ⟨9, 1⟩) (meth := k9m1) (c := k9c1) (by decide +kernel) rfl rfl rfl (by decide +kernel)
set_option maxRecDepth 65536 in
theorem w_c16 : (Jvm.Cond.code ({ cls := "java/lang/String", name := "charAt", desc := "(I)C" } : Jvm.MethodName) jdk_42_method_56_code (2 : Nat) (Option.some Jvm.ClassFile.FieldType.char)).before args0 about1 = true := code_word (m := ⟨7, 3⟩) (meth := k7m3) (c := k7c3) (by decide +kernel) rfl rfl rfl (by decide +kernel)
set_option maxRecDepth 65536 in
theorem w_c17 : (Jvm.Cond.code ({ cls := "java/lang/String", name := "isLatin1", desc := "()Z" } : Jvm.MethodName) jdk_42_method_154_code (1 : Nat) (Option.some Jvm.ClassFile.FieldType.boolean)).before args0 about1 = true := code_word (m := ⟨7, 6⟩) (meth := k7m6) (c := k7c6) (by decide +kernel) rfl rfl rfl (by decide +kernel)
set_option maxRecDepth 65536 in
theorem w_c18 : (Jvm.Cond.code ({ cls := "java/lang/StringUTF16", name := "charAt", desc := "([BI)C" } : Jvm.MethodName) jdk_52_method_83_code (2 : Nat) (Option.some Jvm.ClassFile.FieldType.char)).before args0 about1 = true := code_word (m := ⟨8, 10⟩) (meth := k8m10) (c := k8c10) (by decide +kernel) rfl rfl rfl (by decide +kernel)
set_option maxRecDepth 65536 in
theorem w_c19 : (Jvm.Cond.code ({ cls := "java/lang/StringUTF16", name := "checkIndex", desc := "(I[B)V" } : Jvm.MethodName) jdk_52_method_91_code (2 : Nat) (Option.none : Option Jvm.ClassFile.FieldType)).before args0 about1 = true := code_word (m := ⟨8, 11⟩) (meth := k8m11) (c := k8c11) (by decide +kernel) rfl rfl rfl (by decide +kernel)
set_option maxRecDepth 65536 in
theorem w_c20 : (Jvm.Cond.code ({ cls := "java/lang/StringUTF16", name := "length", desc := "([B)I" } : Jvm.MethodName) jdk_52_method_6_code (1 : Nat) (Option.some Jvm.ClassFile.FieldType.int)).before args0 about1 = true := code_word (m := ⟨8, 5⟩) (meth := k8m5) (c := k8c5) (by decide +kernel) rfl rfl rfl (by decide +kernel)
set_option maxRecDepth 65536 in
theorem w_c21 : (Jvm.Cond.code ({ cls := "java/lang/String", name := "checkIndex", desc := "(II)V" } : Jvm.MethodName) jdk_42_method_155_code (2 : Nat) (Option.none : Option Jvm.ClassFile.FieldType)).before args0 about1 = true := code_word (m := ⟨7, 7⟩) (meth := k7m7) (c := k7c7) (by decide +kernel) rfl rfl rfl (by decide +kernel)
set_option maxRecDepth 65536 in
theorem w_c22 : (Jvm.Cond.code ({ cls := "jdk/internal/util/Preconditions", name := "checkIndex", desc := "(IILjava/util/function/BiFunction;)I" } : Jvm.MethodName) jdk_41_method_11_code (3 : Nat) (Option.some Jvm.ClassFile.FieldType.int)).before args0 about1 = true := code_word (m := ⟨10, 1⟩) (meth := k10m1) (c := k10c1) (by decide +kernel) rfl rfl rfl (by decide +kernel)
set_option maxRecDepth 65536 in
theorem w_c23 : (Jvm.Cond.code ({ cls := "java/lang/String", name := "length", desc := "()I" } : Jvm.MethodName) jdk_42_method_54_code (1 : Nat) (Option.some Jvm.ClassFile.FieldType.int)).before args0 about1 = true := code_word (m := ⟨7, 2⟩) (meth := k7m2) (c := k7c2) (by decide +kernel) rfl rfl rfl (by decide +kernel)
set_option maxRecDepth 65536 in
theorem w_c24 : (Jvm.Cond.code ({ cls := "java/lang/String", name := "coder", desc := "()B" } : Jvm.MethodName) jdk_42_method_152_code (1 : Nat) (Option.some Jvm.ClassFile.FieldType.byte)).before args0 about1 = true := code_word (m := ⟨7, 5⟩) (meth := k7m5) (c := k7c5) (by decide +kernel) rfl rfl rfl (by decide +kernel)
set_option maxRecDepth 65536 in
theorem w_c25 : (Jvm.Cond.code ({ cls := "java/lang/StringLatin1", name := "charAt", desc := "([BI)C" } : Jvm.MethodName) jdk_43_method_2_code (2 : Nat) (Option.some Jvm.ClassFile.FieldType.char)).before args0 about1 = true := code_word (m := ⟨11, 1⟩) (meth := k11m1) (c := k11c1) (by decide +kernel) rfl rfl rfl (by decide +kernel)
def codes1 : List Jvm.Cond := [Jvm.Cond.code x code maxLocals ret, Jvm.Cond.code ({ cls := "com/example/planscribe/planscribe/terms/QuotesClosingPinLaw", name := "ch", desc := "(I)C" } : Jvm.MethodName) method_2_code (2 : Nat) (Option.some Jvm.ClassFile.FieldType.char), Jvm.Cond.code ({ cls := "java/lang/String", name := "<init>", desc := "([C)V" } : Jvm.MethodName) jdk_42_method_3_code (2 : Nat) (Option.none : Option Jvm.ClassFile.FieldType), Jvm.Cond.code ({ cls := "java/lang/String", name := "<init>", desc := "([CIILjava/lang/Void;)V" } : Jvm.MethodName) jdk_42_method_149_code (6 : Nat) (Option.none : Option Jvm.ClassFile.FieldType), Jvm.Cond.code ({ cls := "java/lang/Object", name := "<init>", desc := "()V" } : Jvm.MethodName) object_method_1_code (1 : Nat) (Option.none : Option Jvm.ClassFile.FieldType), Jvm.Cond.code ({ cls := "java/lang/StringUTF16", name := "compress", desc := "([CII)[B" } : Jvm.MethodName) jdk_52_method_16_code (6 : Nat) (Option.some (Jvm.ClassFile.FieldType.array Jvm.ClassFile.FieldType.byte)), Jvm.Cond.code ({ cls := "java/lang/StringUTF16", name := "compress", desc := "([CI[BII)I" } : Jvm.MethodName) jdk_52_method_21_code (7 : Nat) (Option.some Jvm.ClassFile.FieldType.int), Jvm.Cond.code ({ cls := "java/lang/StringUTF16", name := "toBytes", desc := "([CII)[B" } : Jvm.MethodName) jdk_52_method_14_code (5 : Nat) (Option.some (Jvm.ClassFile.FieldType.array Jvm.ClassFile.FieldType.byte)), Jvm.Cond.code ({ cls := "java/lang/StringUTF16", name := "newBytesFor", desc := "(I)[B" } : Jvm.MethodName) jdk_52_method_2_code (1 : Nat) (Option.some (Jvm.ClassFile.FieldType.array Jvm.ClassFile.FieldType.byte)), Jvm.Cond.code ({ cls := "java/lang/StringUTF16", name := "newBytesLength", desc := "(I)I" } : Jvm.MethodName) jdk_52_method_3_code (1 : Nat) (Option.some Jvm.ClassFile.FieldType.int), Jvm.Cond.code ({ cls := "java/lang/StringUTF16", name := "putChar", desc := "([BII)V" } : Jvm.MethodName) jdk_52_method_4_code (3 : Nat) (Option.none : Option Jvm.ClassFile.FieldType), Jvm.Cond.code ({ cls := "java/lang/StringUTF16", name := "getChar", desc := "([BI)C" } : Jvm.MethodName) jdk_52_method_5_code (2 : Nat) (Option.some Jvm.ClassFile.FieldType.char), Jvm.Cond.code ({ cls := "java/lang/StringUTF16", name := "coderFromArrayLen", desc := "([BI)B" } : Jvm.MethodName) jdk_52_method_15_code (2 : Nat) (Option.some Jvm.ClassFile.FieldType.byte), Jvm.Cond.code ({ cls := "com/example/planscribe/planscribe/terms/QuotesClosingPinLaw", name := "stops", desc := "(CZ)Z" } : Jvm.MethodName) method_4_code (2 : Nat) (Option.some Jvm.ClassFile.FieldType.boolean), Jvm.Cond.code ({ cls := "com/example/planscribe/planscribe/terms/QuotesClosingPinLaw", name := "matches", desc := "(CZ)Z" } : Jvm.MethodName) method_3_code (2 : Nat) (Option.some Jvm.ClassFile.FieldType.boolean), Jvm.Cond.code ({ cls := "com/example/planscribe/planscribe/terms/Quotes", name := "closing", desc := "(Ljava/lang/CharSequence;I)I" } : Jvm.MethodName) prog_75_method_3_code (5 : Nat) (Option.some Jvm.ClassFile.FieldType.int), Jvm.Cond.code ({ cls := "java/lang/String", name := "charAt", desc := "(I)C" } : Jvm.MethodName) jdk_42_method_56_code (2 : Nat) (Option.some Jvm.ClassFile.FieldType.char), Jvm.Cond.code ({ cls := "java/lang/String", name := "isLatin1", desc := "()Z" } : Jvm.MethodName) jdk_42_method_154_code (1 : Nat) (Option.some Jvm.ClassFile.FieldType.boolean), Jvm.Cond.code ({ cls := "java/lang/StringUTF16", name := "charAt", desc := "([BI)C" } : Jvm.MethodName) jdk_52_method_83_code (2 : Nat) (Option.some Jvm.ClassFile.FieldType.char), Jvm.Cond.code ({ cls := "java/lang/StringUTF16", name := "checkIndex", desc := "(I[B)V" } : Jvm.MethodName) jdk_52_method_91_code (2 : Nat) (Option.none : Option Jvm.ClassFile.FieldType), Jvm.Cond.code ({ cls := "java/lang/StringUTF16", name := "length", desc := "([B)I" } : Jvm.MethodName) jdk_52_method_6_code (1 : Nat) (Option.some Jvm.ClassFile.FieldType.int), Jvm.Cond.code ({ cls := "java/lang/String", name := "checkIndex", desc := "(II)V" } : Jvm.MethodName) jdk_42_method_155_code (2 : Nat) (Option.none : Option Jvm.ClassFile.FieldType), Jvm.Cond.code ({ cls := "jdk/internal/util/Preconditions", name := "checkIndex", desc := "(IILjava/util/function/BiFunction;)I" } : Jvm.MethodName) jdk_41_method_11_code (3 : Nat) (Option.some Jvm.ClassFile.FieldType.int), Jvm.Cond.code ({ cls := "java/lang/String", name := "length", desc := "()I" } : Jvm.MethodName) jdk_42_method_54_code (1 : Nat) (Option.some Jvm.ClassFile.FieldType.int), Jvm.Cond.code ({ cls := "java/lang/String", name := "coder", desc := "()B" } : Jvm.MethodName) jdk_42_method_152_code (1 : Nat) (Option.some Jvm.ClassFile.FieldType.byte), Jvm.Cond.code ({ cls := "java/lang/StringLatin1", name := "charAt", desc := "([BI)C" } : Jvm.MethodName) jdk_43_method_2_code (2 : Nat) (Option.some Jvm.ClassFile.FieldType.char)]
set_option maxRecDepth 65536 in
theorem codes_eq : words1.filter isCode = codes1 := rfl
theorem w_codes : ∀ c ∈ words1.filter isCode, c.before args0 about1 = true := by
  rw [codes_eq]
  intro c hc
  simp only [codes1, List.mem_cons, List.not_mem_nil, or_false] at hc
  rcases hc with rfl | rfl | rfl | rfl | rfl | rfl | rfl | rfl | rfl | rfl | rfl | rfl | rfl | rfl | rfl | rfl | rfl | rfl | rfl | rfl | rfl | rfl | rfl | rfl | rfl | rfl
  · exact w_c0
  · exact w_c1
  · exact w_c2
  · exact w_c3
  · exact w_c4
  · exact w_c5
  · exact w_c6
  · exact w_c7
  · exact w_c8
  · exact w_c9
  · exact w_c10
  · exact w_c11
  · exact w_c12
  · exact w_c13
  · exact w_c14
  · exact w_c15
  · exact w_c16
  · exact w_c17
  · exact w_c18
  · exact w_c19
  · exact w_c20
  · exact w_c21
  · exact w_c22
  · exact w_c23
  · exact w_c24
  · exact w_c25
set_option maxRecDepth 65536 in
theorem w_t1 : (words1.take 24).all (fun c => isCode c || c.before args0 about1) = true := by decide +kernel
set_option maxRecDepth 65536 in
theorem w_t2 : ((words1.drop 24).take 24).all (fun c => isCode c || c.before args0 about1) = true := by decide +kernel
set_option maxRecDepth 65536 in
theorem w_t3 : (((words1.drop 24).drop 24).take 24).all (fun c => isCode c || c.before args0 about1) = true := by decide +kernel
set_option maxRecDepth 65536 in
theorem w_t4 : ((((words1.drop 24).drop 24).drop 24).take 24).all (fun c => isCode c || c.before args0 about1) = true := by decide +kernel
set_option maxRecDepth 65536 in
theorem w_t5 : ((((words1.drop 24).drop 24).drop 24).drop 24).all (fun c => isCode c || c.before args0 about1) = true := by decide +kernel
theorem w_tables : (allAtoms (Jvm.Cond.code x code maxLocals ret :: tables_1)).before args0 about1 = true := by
  rw [allAtoms_all]
  show words1.all (fun c => c.before args0 about1) = true
  refine all_split ?_ w_codes
  rw [← List.take_append_drop 24 words1, List.all_append, w_t1, ← List.take_append_drop 24 (words1.drop 24), List.all_append, w_t2, ← List.take_append_drop 24 ((words1.drop 24).drop 24), List.all_append, w_t3, ← List.take_append_drop 24 (((words1.drop 24).drop 24).drop 24), List.all_append, w_t4, w_t5]
  rfl
set_option maxRecDepth 65536 in
theorem w_rest : rest_1_c.before args0 about1 = true := by decide +kernel
set_option maxRecDepth 65536 in
theorem w_case : (Jvm.Cond.and given_1 narrow_1).before args0 about1 = true := by decide +kernel
theorem w_applies : (headSpec (Jvm.Cond.code x code maxLocals ret :: tables_1) room_1).applies x e0.platform about1 = true :=
  (Spec.applies_iff w_frames).mpr ⟨w_running, w_runnable, w_alone, w_named, w_hears, w_ripe, w_room, w_tables⟩
theorem atStart : AtStart classFile x code maxLocals ret World_1 tables_1 room_1 Calls_1 rest_1 Pre_1 launch0 p0 e0 about1 theMethod args0 below0 :=
  ⟨lists_1, trivial, launch0.admits_env _ _ _, launch0.least_env, fairChoices_fair.cas, fairChoices_fair.clock, w_frames, w_args, w_heap, w_applies, trivial, w_rest, w_case⟩
end start1
theorem witness_1 : WitnessClaimed_1 := ⟨start1.p0, start1.e0, start1.about1, start1.theMethod, start1.args0, start1.below0, start1.atStart⟩
end Jvm.Pilot.@@N@@
