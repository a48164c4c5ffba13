import JvmDerived
import JvmDerived.Pilot.@@N@@Statement
import JvmDerived.Pilot.@@N@@Code
set_option linter.unusedVariables false
set_option linter.unusedSimpArgs false
namespace Jvm.RoadKit
open Sem ClassFile Op Lib Jvm.Stand Jvm.Free Jvm.LawKit
section New
variable {p : Program} {l : Launch} {e : Env} {R : Room} {s : State} {m : MethodId} {args : Array Value} {below : List Frame} {meth : Method} {c : Code} {T : State} {locs : List Loc} {cells slots : Nat}
theorem retI (X : Stand p l e R s m args below meth c T locs cells slots) (hx : p.tables.exec = Jvm.exec) {pc : Nat} {Ls : Array Slot} {z : Int32} {rest : List Value} (hret : meth.sig.returnType = some .int) (hd : decode c.code pc = .ok (.ireturn, 1)) {fs : List Frame}
    (hl : ∀ (f : JFrame) (acts : List Action), f.method = m → f.locked = none → f.entered = [] → (doReturn e (T.setTop f) acts (some (.int z))).1 = T.setFrames fs) : Steps p.tables e below (T.setTop (mkF m pc Ls (.int z :: rest))) (T.setFrames fs) := by
  have hm' : T.vm.method? m = some meth := X.method'
  have hn : narrow .int (.int z) = .int z := rfl
  show Steps p.tables e below (T.setTop { method := m, pc := pc, locals := Ls, stack := _ :: rest, locked := none }) _
  jvm_step X.here [X.here.top, hx, hd, hm', hret, hn]
  first | (intro acts; rw [hl _ acts rfl rfl rfl]) | rw [hl _ _ rfl rfl rfl]
  exact Steps.refl _
end New
end Jvm.RoadKit
namespace Jvm.Pilot.@@N@@
open Jvm Jvm.ClassFile Sem Op Lib Jvm.Free Jvm.Stand Jvm.LawKit Jvm.RoadKit Bundle Jvm.Pilot.@@N@@.Jvm.D
def own_nt (c v : Int64) : Int64 := v * ((2 : Int64) - (c * v))
def own_inv (c : Int64) : Int64 := own_nt c (own_nt c (own_nt c (own_nt c (own_nt c c))))
def own_sh (x : Int64) (k : Int32) : Int64 := (x.toUInt64 >>> (k &&& 0x3f).toInt64.toUInt64).toInt64
def own_spread (h : Int32) : Int64 :=
  let a := (h.toInt64 &&& (4294967295 : Int64)) * (-4658895280553007687 : Int64)
  let b := (a ^^^ own_sh a 27) * (-7723592293110705685 : Int64)
  b ^^^ own_sh b 31
theorem own_i1 : own_inv (-4658895280553007687 : Int64) = (-7575587736534282103 : Int64) := by decide +kernel
theorem own_i2 : own_inv (-7723592293110705685 : Int64) = (3573116690164977347 : Int64) := by decide +kernel
theorem own_m1 : (-4658895280553007687 : Int64) * (-7575587736534282103 : Int64) = 1 := by decide +kernel
theorem own_m2 : (-7723592293110705685 : Int64) * (3573116690164977347 : Int64) = 1 := by decide +kernel
theorem own_shb (x : Int64) (k : Nat) (q : Int32) (hq : (q &&& 0x3f).toInt64.toUInt64.toBitVec % 64 = BitVec.ofNat 64 k) (hk : k < 64) : (own_sh x q).toBitVec = x.toBitVec >>> k := by
  show x.toBitVec >>> ((q &&& 0x3f).toInt64.toUInt64.toBitVec % 64) = _
  rw [hq, BitVec.ushiftRight_eq']
  have : (BitVec.ofNat 64 k).toNat = k := by simp; omega
  rw [this]
theorem own_xs (d : BitVec 64) (k : Nat) (hk : 64 ≤ k + (k + k)) : (d ^^^ (d >>> k)) ^^^ ((d ^^^ (d >>> k)) >>> k) ^^^ ((d ^^^ (d >>> k)) >>> (k + k)) = d := by
  apply BitVec.eq_of_getLsbD_eq
  intro i hi
  simp only [BitVec.getLsbD_xor, BitVec.getLsbD_ushiftRight]
  have e1 : k + (k + i) = k + k + i := by omega
  have e2 : d.getLsbD (k + (k + k + i)) = false := BitVec.getLsbD_of_ge _ _ (by omega)
  rw [e1, e2]
  cases d.getLsbD i <;> cases d.getLsbD (k + i) <;> cases d.getLsbD (k + k + i) <;> rfl
theorem own_xsI (d : Int64) (q q2 : Int32) (k : Nat) (hq : (q &&& 0x3f).toInt64.toUInt64.toBitVec % 64 = BitVec.ofNat 64 k) (hq2 : (q2 &&& 0x3f).toInt64.toUInt64.toBitVec % 64 = BitVec.ofNat 64 (k + k)) (h1 : k < 64) (h2 : k + k < 64) (hk : 64 ≤ k + (k + k)) :
    ((d ^^^ own_sh d q) ^^^ own_sh (d ^^^ own_sh d q) q) ^^^ own_sh (d ^^^ own_sh d q) q2 = d := by
  apply Int64.toBitVec_inj.mp
  simp only [Int64.toBitVec_xor, own_shb _ k q hq h1, own_shb _ (k + k) q2 hq2 h2]
  exact own_xs _ _ hk
theorem own_math (h : Int32) (y b2 t b1 m i1 i2 : Int64) (e1 : i1 = own_inv (-4658895280553007687 : Int64)) (e2 : i2 = own_inv (-7723592293110705685 : Int64)) (ey : y = own_spread h) (eb2 : b2 = (y ^^^ own_sh y 31) ^^^ own_sh y 62) (et : t = b2 * i2) (eb1 : b1 = (t ^^^ own_sh t 27) ^^^ own_sh t 54) (em : m = b1 * i1) :
    (-4658895280553007687 : Int64) * i1 = 1 ∧ (-7723592293110705685 : Int64) * i2 = 1 ∧ m = h.toInt64 &&& (4294967295 : Int64) := by
  rw [own_i1] at e1
  rw [own_i2] at e2
  subst e1 e2
  refine ⟨own_m1, own_m2, ?_⟩
  obtain ⟨z, hz⟩ : ∃ z, z = h.toInt64 &&& (4294967295 : Int64) := ⟨_, rfl⟩
  obtain ⟨a, ha⟩ : ∃ a, a = z * (-4658895280553007687 : Int64) := ⟨_, rfl⟩
  obtain ⟨b, hb⟩ : ∃ b, b = (a ^^^ own_sh a 27) * (-7723592293110705685 : Int64) := ⟨_, rfl⟩
  have hy : y = b ^^^ own_sh b 31 := by rw [ey, hb, ha, hz]; rfl
  have h2 : b2 = b := by rw [eb2, hy]; exact own_xsI b 31 62 31 (by decide +kernel) (by decide +kernel) (by decide) (by decide) (by decide)
  have h3 : t = a ^^^ own_sh a 27 := by rw [et, h2, hb, Int64.mul_assoc, own_m2, Int64.mul_one]
  have h4 : b1 = a := by rw [eb1, h3]; exact own_xsI a 27 54 27 (by decide +kernel) (by decide +kernel) (by decide) (by decide) (by decide)
  rw [em, h4, ha, Int64.mul_assoc, own_m1, Int64.mul_one, hz]
theorem d1_0 : decode method_2_code 0 = .ok (.lload_n 0, 1) := by decide +kernel
theorem d1_1 : decode method_2_code 1 = .ok (.lstore_n 2, 1) := by decide +kernel
theorem d1_2 : decode method_2_code 2 = .ok (.lload_n 2, 1) := by decide +kernel
theorem d1_3 : decode method_2_code 3 = .ok (.ldc2_w 7, 3) := by decide +kernel
theorem d1_6 : decode method_2_code 6 = .ok (.lload_n 0, 1) := by decide +kernel
theorem d1_7 : decode method_2_code 7 = .ok (.lload_n 2, 1) := by decide +kernel
theorem d1_8 : decode method_2_code 8 = .ok (.lmul, 1) := by decide +kernel
theorem d1_9 : decode method_2_code 9 = .ok (.lsub, 1) := by decide +kernel
theorem d1_10 : decode method_2_code 10 = .ok (.lmul, 1) := by decide +kernel
theorem d1_11 : decode method_2_code 11 = .ok (.lstore_n 2, 1) := by decide +kernel
theorem d1_12 : decode method_2_code 12 = .ok (.lload_n 2, 1) := by decide +kernel
theorem d1_13 : decode method_2_code 13 = .ok (.ldc2_w 7, 3) := by decide +kernel
theorem d1_16 : decode method_2_code 16 = .ok (.lload_n 0, 1) := by decide +kernel
theorem d1_17 : decode method_2_code 17 = .ok (.lload_n 2, 1) := by decide +kernel
theorem d1_18 : decode method_2_code 18 = .ok (.lmul, 1) := by decide +kernel
theorem d1_19 : decode method_2_code 19 = .ok (.lsub, 1) := by decide +kernel
theorem d1_20 : decode method_2_code 20 = .ok (.lmul, 1) := by decide +kernel
theorem d1_21 : decode method_2_code 21 = .ok (.lstore_n 2, 1) := by decide +kernel
theorem d1_22 : decode method_2_code 22 = .ok (.lload_n 2, 1) := by decide +kernel
theorem d1_23 : decode method_2_code 23 = .ok (.ldc2_w 7, 3) := by decide +kernel
theorem d1_26 : decode method_2_code 26 = .ok (.lload_n 0, 1) := by decide +kernel
theorem d1_27 : decode method_2_code 27 = .ok (.lload_n 2, 1) := by decide +kernel
theorem d1_28 : decode method_2_code 28 = .ok (.lmul, 1) := by decide +kernel
theorem d1_29 : decode method_2_code 29 = .ok (.lsub, 1) := by decide +kernel
theorem d1_30 : decode method_2_code 30 = .ok (.lmul, 1) := by decide +kernel
theorem d1_31 : decode method_2_code 31 = .ok (.lstore_n 2, 1) := by decide +kernel
theorem d1_32 : decode method_2_code 32 = .ok (.lload_n 2, 1) := by decide +kernel
theorem d1_33 : decode method_2_code 33 = .ok (.ldc2_w 7, 3) := by decide +kernel
theorem d1_36 : decode method_2_code 36 = .ok (.lload_n 0, 1) := by decide +kernel
theorem d1_37 : decode method_2_code 37 = .ok (.lload_n 2, 1) := by decide +kernel
theorem d1_38 : decode method_2_code 38 = .ok (.lmul, 1) := by decide +kernel
theorem d1_39 : decode method_2_code 39 = .ok (.lsub, 1) := by decide +kernel
theorem d1_40 : decode method_2_code 40 = .ok (.lmul, 1) := by decide +kernel
theorem d1_41 : decode method_2_code 41 = .ok (.lstore_n 2, 1) := by decide +kernel
theorem d1_42 : decode method_2_code 42 = .ok (.lload_n 2, 1) := by decide +kernel
theorem d1_43 : decode method_2_code 43 = .ok (.ldc2_w 7, 3) := by decide +kernel
theorem d1_46 : decode method_2_code 46 = .ok (.lload_n 0, 1) := by decide +kernel
theorem d1_47 : decode method_2_code 47 = .ok (.lload_n 2, 1) := by decide +kernel
theorem d1_48 : decode method_2_code 48 = .ok (.lmul, 1) := by decide +kernel
theorem d1_49 : decode method_2_code 49 = .ok (.lsub, 1) := by decide +kernel
theorem d1_50 : decode method_2_code 50 = .ok (.lmul, 1) := by decide +kernel
theorem d1_51 : decode method_2_code 51 = .ok (.lstore_n 2, 1) := by decide +kernel
theorem d1_52 : decode method_2_code 52 = .ok (.lload_n 2, 1) := by decide +kernel
theorem d1_53 : decode method_2_code 53 = .ok (.lreturn, 1) := by decide +kernel
theorem pn_1 : plainName "com/example/roundsplit/roundsplit/map/KeyHasherSpreadPinLaw" = true := by first | (simp [plainName, overriddenIn]; done) | decide +kernel
theorem ef_1 (m : MethodId) (x0 : Int64) : entryFrame m #[(.long x0)] 4 = mkF m 0 #[.val (.long x0), .second, .unset, .unset] [] := by first | (simp [entryFrame, mkF, argsToLocals, Value.category]; done) | rfl
def Q1 (Z : State) (q1 : Int64) (h0 : Heap) (n0 : Nat) (v : Option Value) (h : Heap) (L : List Loc) : Prop := v = some (.long (own_inv q1)) ∧ Fr n0 L ∧ h = h0
set_option maxRecDepth 65536 in
set_option maxHeartbeats 40000000 in
theorem rm1 (l : Launch) (Z : State) (a0 : Array Value) (hw : ∀ d ∈ tables_1, d.before a0 Z = true) (ws : List Jvm.Cond) (q1 : Int64) (h0 : Heap) (n0 : Nat) (Z0 : n0 ≤ h0.size)  :
    MetFree l (⟨"com/example/roundsplit/roundsplit/map/KeyHasherSpreadPinLaw", "inverse", "(J)J"⟩ : MethodName) (head1 (Jvm.Cond.code (⟨"com/example/roundsplit/roundsplit/map/KeyHasherSpreadPinLaw", "inverse", "(J)J"⟩ : MethodName) method_2_code 4 (some .long) :: ws) ({ frames := 0, cells := 0, slots := 0, locals := 0 } : Room)) (fun a U => a = #[(.long q1)] ∧ Z.Warmed39 U.vm ∧ U.heap = h0) (fun _ _ _ _ _ => True) (fun _ U o U' => ∃ v L, o = .returned v ∧ Q1 Z q1 h0 n0 v U'.heap L ∧ FrameEnd U o U' L ({ frames := 0, cells := 0, slots := 0, locals := 0 } : Room).cells ({ frames := 0, cells := 0, slots := 0, locals := 0 } : Room).slots) := by
  refine MetFree.of_bodySF (plainFor_of_name pn_1) hisR ?_
  intro p e s m args below meth c s₁ Bd hml0 hP hK
  obtain ⟨rfl, hZ, hh⟩ := hP
  have hx := Bd.exec
  have hby := Bd.bytes
  have hml : c.maxLocals = 4 := hml0
  have hown : s.vm.findClass "com/example/roundsplit/roundsplit/map/KeyHasherSpreadPinLaw" = some m.cls := findClass_of_methodNamed Bd.named
  have hnm := (name_of_methodNamed Bd.named Bd.method).1
  have X0 : Stand p l e ({ frames := 0, cells := 0, slots := 0, locals := 0 } : Room) s m #[(.long q1)] below meth c s₁ [] 0 0 := Stand.of_body Bd
  have e0 : s₁.heap = h0 := by rw [← hh, Bd.state]; rfl
  have N0 := Fr.nil n0
  have pre0 : ∀ t, Steps p.tables e below (s₁.setTop (mkF m 0 #[.val (.long q1), .second, .unset, .unset] [])) t → Steps p.tables e below (s₁.setTop (entryFrame m #[(.long q1)] 4)) t := fun t k => castTop (ef_1 m q1) k
  obtain ⟨v1, hv1⟩ : ∃ z : Int64, z = (q1 * ((2 : Int64) - (q1 * q1))) := ⟨_, rfl⟩
  obtain ⟨v2, hv2⟩ : ∃ z : Int64, z = (v1 * ((2 : Int64) - (q1 * v1))) := ⟨_, rfl⟩
  obtain ⟨v3, hv3⟩ : ∃ z : Int64, z = (v2 * ((2 : Int64) - (q1 * v2))) := ⟨_, rfl⟩
  obtain ⟨v4, hv4⟩ : ∃ z : Int64, z = (v3 * ((2 : Int64) - (q1 * v3))) := ⟨_, rfl⟩
  obtain ⟨v5, hv5⟩ : ∃ z : Int64, z = (v4 * ((2 : Int64) - (q1 * v4))) := ⟨_, rfl⟩
  obtain ⟨fs, hr, hrun, hended, hW, hsame⟩ := X0.leave (v := some (.long v5)) (fun h => by rw [Bd.returns] at h; cases h)
  refine ⟨_, _, pre0 _ ?_, hrun, hended, _, _, rfl, ?_, ⟨_, rfl⟩, hW, hsame.mono (by decide) (by decide)⟩
  · show Steps p.tables e below (s₁.setTop (mkF m 0 #[.val (.long q1), .second, .unset, .unset] [])) _
    refine XS.lloadN X0.here hx rfl (hb hby d1_0) rfl ?_
    show Steps p.tables e below (s₁.setTop (mkF m 1 #[.val (.long q1), .second, .unset, .unset] [(.long q1)])) _
    refine XS.lstoreN X0.here hx rfl (hb hby d1_1) rfl (l' := #[.val (.long q1), .second, .val (.long q1), .second]) rfl ?_
    show Steps p.tables e below (s₁.setTop (mkF m 2 #[.val (.long q1), .second, .val (.long q1), .second] [])) _
    refine XS.lloadN X0.here hx rfl (hb hby d1_2) rfl ?_
    show Steps p.tables e below (s₁.setTop (mkF m 3 #[.val (.long q1), .second, .val (.long q1), .second] [(.long q1)])) _
    refine X0.ldc2Long hx hown (mvT hZ (hw _ (List.mem_of_getElem? (i := 6) rfl))) (g := (mkF m 3 #[.val (.long q1), .second, .val (.long q1), .second] [(.long q1)])) rfl (hb hby d1_3) _ ?_
    show Steps p.tables e below (s₁.setTop (mkF m 6 #[.val (.long q1), .second, .val (.long q1), .second] [(.long (2 : Int64)), (.long q1)])) _
    refine XS.lloadN X0.here hx rfl (hb hby d1_6) rfl ?_
    show Steps p.tables e below (s₁.setTop (mkF m 7 #[.val (.long q1), .second, .val (.long q1), .second] [(.long q1), (.long (2 : Int64)), (.long q1)])) _
    refine XS.lloadN X0.here hx rfl (hb hby d1_7) rfl ?_
    show Steps p.tables e below (s₁.setTop (mkF m 8 #[.val (.long q1), .second, .val (.long q1), .second] [(.long q1), (.long q1), (.long (2 : Int64)), (.long q1)])) _
    refine XS.lmul X0.here hx rfl (hb hby d1_8) rfl ?_
    show Steps p.tables e below (s₁.setTop (mkF m 9 #[.val (.long q1), .second, .val (.long q1), .second] [(.long (q1 * q1)), (.long (2 : Int64)), (.long q1)])) _
    refine XS.lsub X0.here hx rfl (hb hby d1_9) rfl ?_
    show Steps p.tables e below (s₁.setTop (mkF m 10 #[.val (.long q1), .second, .val (.long q1), .second] [(.long ((2 : Int64) - (q1 * q1))), (.long q1)])) _
    refine XS.lmul X0.here hx rfl (hb hby d1_10) rfl ?_
    show Steps p.tables e below (s₁.setTop (mkF m 11 #[.val (.long q1), .second, .val (.long q1), .second] [(.long (q1 * ((2 : Int64) - (q1 * q1))))])) _
    refine XS.lstoreN X0.here hx rfl (hb hby d1_11) rfl (l' := #[.val (.long q1), .second, .val (.long (q1 * ((2 : Int64) - (q1 * q1)))), .second]) rfl ?_
    refine castTop (g' := (mkF m 12 #[.val (.long q1), .second, .val (.long v1), .second] [])) (by rw [hv1]) ?_
    show Steps p.tables e below (s₁.setTop (mkF m 12 #[.val (.long q1), .second, .val (.long v1), .second] [])) _
    refine XS.lloadN X0.here hx rfl (hb hby d1_12) rfl ?_
    show Steps p.tables e below (s₁.setTop (mkF m 13 #[.val (.long q1), .second, .val (.long v1), .second] [(.long v1)])) _
    refine X0.ldc2Long hx hown (mvT hZ (hw _ (List.mem_of_getElem? (i := 6) rfl))) (g := (mkF m 13 #[.val (.long q1), .second, .val (.long v1), .second] [(.long v1)])) rfl (hb hby d1_13) _ ?_
    show Steps p.tables e below (s₁.setTop (mkF m 16 #[.val (.long q1), .second, .val (.long v1), .second] [(.long (2 : Int64)), (.long v1)])) _
    refine XS.lloadN X0.here hx rfl (hb hby d1_16) rfl ?_
    show Steps p.tables e below (s₁.setTop (mkF m 17 #[.val (.long q1), .second, .val (.long v1), .second] [(.long q1), (.long (2 : Int64)), (.long v1)])) _
    refine XS.lloadN X0.here hx rfl (hb hby d1_17) rfl ?_
    show Steps p.tables e below (s₁.setTop (mkF m 18 #[.val (.long q1), .second, .val (.long v1), .second] [(.long v1), (.long q1), (.long (2 : Int64)), (.long v1)])) _
    refine XS.lmul X0.here hx rfl (hb hby d1_18) rfl ?_
    show Steps p.tables e below (s₁.setTop (mkF m 19 #[.val (.long q1), .second, .val (.long v1), .second] [(.long (q1 * v1)), (.long (2 : Int64)), (.long v1)])) _
    refine XS.lsub X0.here hx rfl (hb hby d1_19) rfl ?_
    show Steps p.tables e below (s₁.setTop (mkF m 20 #[.val (.long q1), .second, .val (.long v1), .second] [(.long ((2 : Int64) - (q1 * v1))), (.long v1)])) _
    refine XS.lmul X0.here hx rfl (hb hby d1_20) rfl ?_
    show Steps p.tables e below (s₁.setTop (mkF m 21 #[.val (.long q1), .second, .val (.long v1), .second] [(.long (v1 * ((2 : Int64) - (q1 * v1))))])) _
    refine XS.lstoreN X0.here hx rfl (hb hby d1_21) rfl (l' := #[.val (.long q1), .second, .val (.long (v1 * ((2 : Int64) - (q1 * v1)))), .second]) rfl ?_
    refine castTop (g' := (mkF m 22 #[.val (.long q1), .second, .val (.long v2), .second] [])) (by rw [hv2]) ?_
    show Steps p.tables e below (s₁.setTop (mkF m 22 #[.val (.long q1), .second, .val (.long v2), .second] [])) _
    refine XS.lloadN X0.here hx rfl (hb hby d1_22) rfl ?_
    show Steps p.tables e below (s₁.setTop (mkF m 23 #[.val (.long q1), .second, .val (.long v2), .second] [(.long v2)])) _
    refine X0.ldc2Long hx hown (mvT hZ (hw _ (List.mem_of_getElem? (i := 6) rfl))) (g := (mkF m 23 #[.val (.long q1), .second, .val (.long v2), .second] [(.long v2)])) rfl (hb hby d1_23) _ ?_
    show Steps p.tables e below (s₁.setTop (mkF m 26 #[.val (.long q1), .second, .val (.long v2), .second] [(.long (2 : Int64)), (.long v2)])) _
    refine XS.lloadN X0.here hx rfl (hb hby d1_26) rfl ?_
    show Steps p.tables e below (s₁.setTop (mkF m 27 #[.val (.long q1), .second, .val (.long v2), .second] [(.long q1), (.long (2 : Int64)), (.long v2)])) _
    refine XS.lloadN X0.here hx rfl (hb hby d1_27) rfl ?_
    show Steps p.tables e below (s₁.setTop (mkF m 28 #[.val (.long q1), .second, .val (.long v2), .second] [(.long v2), (.long q1), (.long (2 : Int64)), (.long v2)])) _
    refine XS.lmul X0.here hx rfl (hb hby d1_28) rfl ?_
    show Steps p.tables e below (s₁.setTop (mkF m 29 #[.val (.long q1), .second, .val (.long v2), .second] [(.long (q1 * v2)), (.long (2 : Int64)), (.long v2)])) _
    refine XS.lsub X0.here hx rfl (hb hby d1_29) rfl ?_
    show Steps p.tables e below (s₁.setTop (mkF m 30 #[.val (.long q1), .second, .val (.long v2), .second] [(.long ((2 : Int64) - (q1 * v2))), (.long v2)])) _
    refine XS.lmul X0.here hx rfl (hb hby d1_30) rfl ?_
    show Steps p.tables e below (s₁.setTop (mkF m 31 #[.val (.long q1), .second, .val (.long v2), .second] [(.long (v2 * ((2 : Int64) - (q1 * v2))))])) _
    refine XS.lstoreN X0.here hx rfl (hb hby d1_31) rfl (l' := #[.val (.long q1), .second, .val (.long (v2 * ((2 : Int64) - (q1 * v2)))), .second]) rfl ?_
    refine castTop (g' := (mkF m 32 #[.val (.long q1), .second, .val (.long v3), .second] [])) (by rw [hv3]) ?_
    show Steps p.tables e below (s₁.setTop (mkF m 32 #[.val (.long q1), .second, .val (.long v3), .second] [])) _
    refine XS.lloadN X0.here hx rfl (hb hby d1_32) rfl ?_
    show Steps p.tables e below (s₁.setTop (mkF m 33 #[.val (.long q1), .second, .val (.long v3), .second] [(.long v3)])) _
    refine X0.ldc2Long hx hown (mvT hZ (hw _ (List.mem_of_getElem? (i := 6) rfl))) (g := (mkF m 33 #[.val (.long q1), .second, .val (.long v3), .second] [(.long v3)])) rfl (hb hby d1_33) _ ?_
    show Steps p.tables e below (s₁.setTop (mkF m 36 #[.val (.long q1), .second, .val (.long v3), .second] [(.long (2 : Int64)), (.long v3)])) _
    refine XS.lloadN X0.here hx rfl (hb hby d1_36) rfl ?_
    show Steps p.tables e below (s₁.setTop (mkF m 37 #[.val (.long q1), .second, .val (.long v3), .second] [(.long q1), (.long (2 : Int64)), (.long v3)])) _
    refine XS.lloadN X0.here hx rfl (hb hby d1_37) rfl ?_
    show Steps p.tables e below (s₁.setTop (mkF m 38 #[.val (.long q1), .second, .val (.long v3), .second] [(.long v3), (.long q1), (.long (2 : Int64)), (.long v3)])) _
    refine XS.lmul X0.here hx rfl (hb hby d1_38) rfl ?_
    show Steps p.tables e below (s₁.setTop (mkF m 39 #[.val (.long q1), .second, .val (.long v3), .second] [(.long (q1 * v3)), (.long (2 : Int64)), (.long v3)])) _
    refine XS.lsub X0.here hx rfl (hb hby d1_39) rfl ?_
    show Steps p.tables e below (s₁.setTop (mkF m 40 #[.val (.long q1), .second, .val (.long v3), .second] [(.long ((2 : Int64) - (q1 * v3))), (.long v3)])) _
    refine XS.lmul X0.here hx rfl (hb hby d1_40) rfl ?_
    show Steps p.tables e below (s₁.setTop (mkF m 41 #[.val (.long q1), .second, .val (.long v3), .second] [(.long (v3 * ((2 : Int64) - (q1 * v3))))])) _
    refine XS.lstoreN X0.here hx rfl (hb hby d1_41) rfl (l' := #[.val (.long q1), .second, .val (.long (v3 * ((2 : Int64) - (q1 * v3)))), .second]) rfl ?_
    refine castTop (g' := (mkF m 42 #[.val (.long q1), .second, .val (.long v4), .second] [])) (by rw [hv4]) ?_
    show Steps p.tables e below (s₁.setTop (mkF m 42 #[.val (.long q1), .second, .val (.long v4), .second] [])) _
    refine XS.lloadN X0.here hx rfl (hb hby d1_42) rfl ?_
    show Steps p.tables e below (s₁.setTop (mkF m 43 #[.val (.long q1), .second, .val (.long v4), .second] [(.long v4)])) _
    refine X0.ldc2Long hx hown (mvT hZ (hw _ (List.mem_of_getElem? (i := 6) rfl))) (g := (mkF m 43 #[.val (.long q1), .second, .val (.long v4), .second] [(.long v4)])) rfl (hb hby d1_43) _ ?_
    show Steps p.tables e below (s₁.setTop (mkF m 46 #[.val (.long q1), .second, .val (.long v4), .second] [(.long (2 : Int64)), (.long v4)])) _
    refine XS.lloadN X0.here hx rfl (hb hby d1_46) rfl ?_
    show Steps p.tables e below (s₁.setTop (mkF m 47 #[.val (.long q1), .second, .val (.long v4), .second] [(.long q1), (.long (2 : Int64)), (.long v4)])) _
    refine XS.lloadN X0.here hx rfl (hb hby d1_47) rfl ?_
    show Steps p.tables e below (s₁.setTop (mkF m 48 #[.val (.long q1), .second, .val (.long v4), .second] [(.long v4), (.long q1), (.long (2 : Int64)), (.long v4)])) _
    refine XS.lmul X0.here hx rfl (hb hby d1_48) rfl ?_
    show Steps p.tables e below (s₁.setTop (mkF m 49 #[.val (.long q1), .second, .val (.long v4), .second] [(.long (q1 * v4)), (.long (2 : Int64)), (.long v4)])) _
    refine XS.lsub X0.here hx rfl (hb hby d1_49) rfl ?_
    show Steps p.tables e below (s₁.setTop (mkF m 50 #[.val (.long q1), .second, .val (.long v4), .second] [(.long ((2 : Int64) - (q1 * v4))), (.long v4)])) _
    refine XS.lmul X0.here hx rfl (hb hby d1_50) rfl ?_
    show Steps p.tables e below (s₁.setTop (mkF m 51 #[.val (.long q1), .second, .val (.long v4), .second] [(.long (v4 * ((2 : Int64) - (q1 * v4))))])) _
    refine XS.lstoreN X0.here hx rfl (hb hby d1_51) rfl (l' := #[.val (.long q1), .second, .val (.long (v4 * ((2 : Int64) - (q1 * v4)))), .second]) rfl ?_
    refine castTop (g' := (mkF m 52 #[.val (.long q1), .second, .val (.long v5), .second] [])) (by rw [hv5]) ?_
    show Steps p.tables e below (s₁.setTop (mkF m 52 #[.val (.long q1), .second, .val (.long v5), .second] [])) _
    refine XS.lloadN X0.here hx rfl (hb hby d1_52) rfl ?_
    show Steps p.tables e below (s₁.setTop (mkF m 53 #[.val (.long q1), .second, .val (.long v5), .second] [(.long v5)])) _
    exact X0.lreturnOut hx Bd.returns (hb hby d1_53) hr
  · show Q1 Z q1 h0 n0 _ s₁.heap _
    rw [e0]
    exact ⟨by rw [hv5, hv4, hv3, hv2, hv1]; rfl, N0, rfl⟩
theorem d2_0 : decode prog_26_method_11_code 0 = .ok (.iload_n 0, 1) := by decide +kernel
theorem d2_1 : decode prog_26_method_11_code 1 = .ok (.i2l, 1) := by decide +kernel
theorem d2_2 : decode prog_26_method_11_code 2 = .ok (.ldc2_w 92, 3) := by decide +kernel
theorem d2_5 : decode prog_26_method_11_code 5 = .ok (.land, 1) := by decide +kernel
theorem d2_6 : decode prog_26_method_11_code 6 = .ok (.ldc2_w 94, 3) := by decide +kernel
theorem d2_9 : decode prog_26_method_11_code 9 = .ok (.lmul, 1) := by decide +kernel
theorem d2_10 : decode prog_26_method_11_code 10 = .ok (.lstore_n 1, 1) := by decide +kernel
theorem d2_11 : decode prog_26_method_11_code 11 = .ok (.lload_n 1, 1) := by decide +kernel
theorem d2_12 : decode prog_26_method_11_code 12 = .ok (.lload_n 1, 1) := by decide +kernel
theorem d2_13 : decode prog_26_method_11_code 13 = .ok (.bipush 27, 2) := by decide +kernel
theorem d2_15 : decode prog_26_method_11_code 15 = .ok (.lushr, 1) := by decide +kernel
theorem d2_16 : decode prog_26_method_11_code 16 = .ok (.lxor, 1) := by decide +kernel
theorem d2_17 : decode prog_26_method_11_code 17 = .ok (.ldc2_w 96, 3) := by decide +kernel
theorem d2_20 : decode prog_26_method_11_code 20 = .ok (.lmul, 1) := by decide +kernel
theorem d2_21 : decode prog_26_method_11_code 21 = .ok (.lstore_n 1, 1) := by decide +kernel
theorem d2_22 : decode prog_26_method_11_code 22 = .ok (.lload_n 1, 1) := by decide +kernel
theorem d2_23 : decode prog_26_method_11_code 23 = .ok (.lload_n 1, 1) := by decide +kernel
theorem d2_24 : decode prog_26_method_11_code 24 = .ok (.bipush 31, 2) := by decide +kernel
theorem d2_26 : decode prog_26_method_11_code 26 = .ok (.lushr, 1) := by decide +kernel
theorem d2_27 : decode prog_26_method_11_code 27 = .ok (.lxor, 1) := by decide +kernel
theorem d2_28 : decode prog_26_method_11_code 28 = .ok (.lreturn, 1) := by decide +kernel
theorem pn_2 : plainName "com/example/roundsplit/roundsplit/map/KeyHasher" = true := by first | (simp [plainName, overriddenIn]; done) | decide +kernel
theorem ef_2 (m : MethodId) (x0 : Int32) : entryFrame m #[(.int x0)] 3 = mkF m 0 #[.val (.int x0), .unset, .unset] [] := by first | (simp [entryFrame, mkF, argsToLocals, Value.category]; done) | rfl
def Q2 (Z : State) (p1 : Int32) (h0 : Heap) (n0 : Nat) (v : Option Value) (h : Heap) (L : List Loc) : Prop := v = some (.long (own_spread p1)) ∧ Fr n0 L ∧ h = h0
set_option maxRecDepth 65536 in
set_option maxHeartbeats 40000000 in
theorem rm2 (l : Launch) (Z : State) (a0 : Array Value) (hw : ∀ d ∈ tables_1, d.before a0 Z = true) (ws : List Jvm.Cond) (p1 : Int32) (h0 : Heap) (n0 : Nat) (Z0 : n0 ≤ h0.size)  :
    MetFree l (⟨"com/example/roundsplit/roundsplit/map/KeyHasher", "spread", "(I)J"⟩ : MethodName) (head1 (Jvm.Cond.code (⟨"com/example/roundsplit/roundsplit/map/KeyHasher", "spread", "(I)J"⟩ : MethodName) prog_26_method_11_code 3 (some .long) :: ws) ({ frames := 0, cells := 0, slots := 0, locals := 0 } : Room)) (fun a U => a = #[(.int p1)] ∧ Z.Warmed39 U.vm ∧ U.heap = h0) (fun _ _ _ _ _ => True) (fun _ U o U' => ∃ v L, o = .returned v ∧ Q2 Z p1 h0 n0 v U'.heap L ∧ FrameEnd U o U' L ({ frames := 0, cells := 0, slots := 0, locals := 0 } : Room).cells ({ frames := 0, cells := 0, slots := 0, locals := 0 } : Room).slots) := by
  refine MetFree.of_bodySF (plainFor_of_name pn_2) hisR ?_
  intro p e s m args below meth c s₁ Bd hml0 hP hK
  obtain ⟨rfl, hZ, hh⟩ := hP
  have hx := Bd.exec
  have hby := Bd.bytes
  have hml : c.maxLocals = 3 := hml0
  have hown : s.vm.findClass "com/example/roundsplit/roundsplit/map/KeyHasher" = some m.cls := findClass_of_methodNamed Bd.named
  have hnm := (name_of_methodNamed Bd.named Bd.method).1
  have X0 : Stand p l e ({ frames := 0, cells := 0, slots := 0, locals := 0 } : Room) s m #[(.int p1)] below meth c s₁ [] 0 0 := Stand.of_body Bd
  have e0 : s₁.heap = h0 := by rw [← hh, Bd.state]; rfl
  have N0 := Fr.nil n0
  have pre0 : ∀ t, Steps p.tables e below (s₁.setTop (mkF m 0 #[.val (.int p1), .unset, .unset] [])) t → Steps p.tables e below (s₁.setTop (entryFrame m #[(.int p1)] 3)) t := fun t k => castTop (ef_2 m p1) k
  obtain ⟨v1, hv1⟩ : ∃ z : Int64, z = (((p1.toInt64) &&& (4294967295 : Int64)) * (-4658895280553007687 : Int64)) := ⟨_, rfl⟩
  obtain ⟨v2, hv2⟩ : ∃ z : Int64, z = ((v1 ^^^ ((v1.toUInt64 >>> ((27 : Int32) &&& 0x3f).toInt64.toUInt64).toInt64)) * (-7723592293110705685 : Int64)) := ⟨_, rfl⟩
  obtain ⟨fs, hr, hrun, hended, hW, hsame⟩ := X0.leave (v := some (.long (v2 ^^^ ((v2.toUInt64 >>> ((31 : Int32) &&& 0x3f).toInt64.toUInt64).toInt64)))) (fun h => by rw [Bd.returns] at h; cases h)
  refine ⟨_, _, pre0 _ ?_, hrun, hended, _, _, rfl, ?_, ⟨_, rfl⟩, hW, hsame.mono (by decide) (by decide)⟩
  · show Steps p.tables e below (s₁.setTop (mkF m 0 #[.val (.int p1), .unset, .unset] [])) _
    refine XS.iloadN X0.here hx rfl (hb hby d2_0) rfl ?_
    show Steps p.tables e below (s₁.setTop (mkF m 1 #[.val (.int p1), .unset, .unset] [(.int p1)])) _
    refine XS.i2l X0.here hx rfl (hb hby d2_1) rfl ?_
    show Steps p.tables e below (s₁.setTop (mkF m 2 #[.val (.int p1), .unset, .unset] [(.long (p1.toInt64))])) _
    refine X0.ldc2Long hx hown (mvT hZ (hw _ (List.mem_of_getElem? (i := 11) rfl))) (g := (mkF m 2 #[.val (.int p1), .unset, .unset] [(.long (p1.toInt64))])) rfl (hb hby d2_2) _ ?_
    show Steps p.tables e below (s₁.setTop (mkF m 5 #[.val (.int p1), .unset, .unset] [(.long (4294967295 : Int64)), (.long (p1.toInt64))])) _
    refine XS.land X0.here hx rfl (hb hby d2_5) rfl ?_
    show Steps p.tables e below (s₁.setTop (mkF m 6 #[.val (.int p1), .unset, .unset] [(.long ((p1.toInt64) &&& (4294967295 : Int64)))])) _
    refine X0.ldc2Long hx hown (mvT hZ (hw _ (List.mem_of_getElem? (i := 12) rfl))) (g := (mkF m 6 #[.val (.int p1), .unset, .unset] [(.long ((p1.toInt64) &&& (4294967295 : Int64)))])) rfl (hb hby d2_6) _ ?_
    show Steps p.tables e below (s₁.setTop (mkF m 9 #[.val (.int p1), .unset, .unset] [(.long (-4658895280553007687 : Int64)), (.long ((p1.toInt64) &&& (4294967295 : Int64)))])) _
    refine XS.lmul X0.here hx rfl (hb hby d2_9) rfl ?_
    show Steps p.tables e below (s₁.setTop (mkF m 10 #[.val (.int p1), .unset, .unset] [(.long (((p1.toInt64) &&& (4294967295 : Int64)) * (-4658895280553007687 : Int64)))])) _
    refine XS.lstoreN X0.here hx rfl (hb hby d2_10) rfl (l' := #[.val (.int p1), .val (.long (((p1.toInt64) &&& (4294967295 : Int64)) * (-4658895280553007687 : Int64))), .second]) rfl ?_
    refine castTop (g' := (mkF m 11 #[.val (.int p1), .val (.long v1), .second] [])) (by rw [hv1]) ?_
    show Steps p.tables e below (s₁.setTop (mkF m 11 #[.val (.int p1), .val (.long v1), .second] [])) _
    refine XS.lloadN X0.here hx rfl (hb hby d2_11) rfl ?_
    show Steps p.tables e below (s₁.setTop (mkF m 12 #[.val (.int p1), .val (.long v1), .second] [(.long v1)])) _
    refine XS.lloadN X0.here hx rfl (hb hby d2_12) rfl ?_
    show Steps p.tables e below (s₁.setTop (mkF m 13 #[.val (.int p1), .val (.long v1), .second] [(.long v1), (.long v1)])) _
    refine XS.bipush X0.here hx rfl (hb hby d2_13) ?_
    show Steps p.tables e below (s₁.setTop (mkF m 15 #[.val (.int p1), .val (.long v1), .second] [(.int (27 : Int32)), (.long v1), (.long v1)])) _
    refine XS.lushr X0.here hx rfl (hb hby d2_15) rfl ?_
    show Steps p.tables e below (s₁.setTop (mkF m 16 #[.val (.int p1), .val (.long v1), .second] [(.long ((v1.toUInt64 >>> ((27 : Int32) &&& 0x3f).toInt64.toUInt64).toInt64)), (.long v1)])) _
    refine XS.lxor X0.here hx rfl (hb hby d2_16) rfl ?_
    show Steps p.tables e below (s₁.setTop (mkF m 17 #[.val (.int p1), .val (.long v1), .second] [(.long (v1 ^^^ ((v1.toUInt64 >>> ((27 : Int32) &&& 0x3f).toInt64.toUInt64).toInt64)))])) _
    refine X0.ldc2Long hx hown (mvT hZ (hw _ (List.mem_of_getElem? (i := 13) rfl))) (g := (mkF m 17 #[.val (.int p1), .val (.long v1), .second] [(.long (v1 ^^^ ((v1.toUInt64 >>> ((27 : Int32) &&& 0x3f).toInt64.toUInt64).toInt64)))])) rfl (hb hby d2_17) _ ?_
    show Steps p.tables e below (s₁.setTop (mkF m 20 #[.val (.int p1), .val (.long v1), .second] [(.long (-7723592293110705685 : Int64)), (.long (v1 ^^^ ((v1.toUInt64 >>> ((27 : Int32) &&& 0x3f).toInt64.toUInt64).toInt64)))])) _
    refine XS.lmul X0.here hx rfl (hb hby d2_20) rfl ?_
    show Steps p.tables e below (s₁.setTop (mkF m 21 #[.val (.int p1), .val (.long v1), .second] [(.long ((v1 ^^^ ((v1.toUInt64 >>> ((27 : Int32) &&& 0x3f).toInt64.toUInt64).toInt64)) * (-7723592293110705685 : Int64)))])) _
    refine XS.lstoreN X0.here hx rfl (hb hby d2_21) rfl (l' := #[.val (.int p1), .val (.long ((v1 ^^^ ((v1.toUInt64 >>> ((27 : Int32) &&& 0x3f).toInt64.toUInt64).toInt64)) * (-7723592293110705685 : Int64))), .second]) rfl ?_
    refine castTop (g' := (mkF m 22 #[.val (.int p1), .val (.long v2), .second] [])) (by rw [hv2]) ?_
    show Steps p.tables e below (s₁.setTop (mkF m 22 #[.val (.int p1), .val (.long v2), .second] [])) _
    refine XS.lloadN X0.here hx rfl (hb hby d2_22) rfl ?_
    show Steps p.tables e below (s₁.setTop (mkF m 23 #[.val (.int p1), .val (.long v2), .second] [(.long v2)])) _
    refine XS.lloadN X0.here hx rfl (hb hby d2_23) rfl ?_
    show Steps p.tables e below (s₁.setTop (mkF m 24 #[.val (.int p1), .val (.long v2), .second] [(.long v2), (.long v2)])) _
    refine XS.bipush X0.here hx rfl (hb hby d2_24) ?_
    show Steps p.tables e below (s₁.setTop (mkF m 26 #[.val (.int p1), .val (.long v2), .second] [(.int (31 : Int32)), (.long v2), (.long v2)])) _
    refine XS.lushr X0.here hx rfl (hb hby d2_26) rfl ?_
    show Steps p.tables e below (s₁.setTop (mkF m 27 #[.val (.int p1), .val (.long v2), .second] [(.long ((v2.toUInt64 >>> ((31 : Int32) &&& 0x3f).toInt64.toUInt64).toInt64)), (.long v2)])) _
    refine XS.lxor X0.here hx rfl (hb hby d2_27) rfl ?_
    show Steps p.tables e below (s₁.setTop (mkF m 28 #[.val (.int p1), .val (.long v2), .second] [(.long (v2 ^^^ ((v2.toUInt64 >>> ((31 : Int32) &&& 0x3f).toInt64.toUInt64).toInt64)))])) _
    exact X0.lreturnOut hx Bd.returns (hb hby d2_28) hr
  · show Q2 Z p1 h0 n0 _ s₁.heap _
    rw [e0]
    exact ⟨by rw [hv2, hv1]; rfl, N0, rfl⟩
theorem pd_0_0 : parseMethodDescriptor "(J)J" = some ⟨[.long], some .long⟩ := by decide +kernel
theorem pd_0_1 : parseMethodDescriptor "(I)J" = some ⟨[.int], some .long⟩ := by decide +kernel
theorem pn_0 : plainName "com/example/roundsplit/roundsplit/map/KeyHasherSpreadPinLaw" = true := by first | (simp [plainName, overriddenIn]; done) | decide +kernel
theorem ef_0 (m : MethodId) (x0 : Int32) : entryFrame m #[(.int x0)] maxLocals = mkF m 0 #[.val (.int x0), .unset, .unset, .unset, .unset, .unset, .unset, .unset, .unset, .unset, .unset, .unset, .unset, .unset, .unset, .unset, .unset, .unset, .unset] [] := by first | (simp [entryFrame, mkF, argsToLocals, Value.category, maxLocals]; done) | rfl
def Q0 (Z : State) (p1 : Int32) (h0 : Heap) (n0 : Nat) (v : Option Value) (h : Heap) (L : List Loc) : Prop := v = some (.int 1) ∧ Fr n0 L
set_option maxRecDepth 65536 in
set_option maxHeartbeats 40000000 in
theorem rm0 (l : Launch) (Z : State) (a0 : Array Value) (hw : ∀ d ∈ tables_1, d.before a0 Z = true) (ws : List Jvm.Cond) (p1 : Int32) (h0 : Heap) (n0 : Nat) (Z0 : n0 ≤ h0.size)  :
    MetFree l x (head1 (Jvm.Cond.code x code maxLocals ret :: ws) room_1) (fun a U => a = #[(.int p1)] ∧ Z.Warmed39 U.vm ∧ U.heap = h0) (fun _ _ _ _ _ => True) (fun _ U o U' => ∃ v L, o = .returned v ∧ Q0 Z p1 h0 n0 v U'.heap L ∧ FrameEnd U o U' L room_1.cells room_1.slots) := by
  refine MetFree.of_bodySF (plainFor_of_name pn_0) hisR ?_
  intro p e s m args below meth c s₁ Bd hml0 hP hK
  obtain ⟨rfl, hZ, hh⟩ := hP
  have hx := Bd.exec
  have hby := Bd.bytes
  have hml : c.maxLocals = 19 := hml0
  have hown : s.vm.findClass "com/example/roundsplit/roundsplit/map/KeyHasherSpreadPinLaw" = some m.cls := findClass_of_methodNamed Bd.named
  have hnm := (name_of_methodNamed Bd.named Bd.method).1
  have X0 : Stand p l e room_1 s m #[(.int p1)] below meth c s₁ [] 0 0 := Stand.of_body Bd
  have e0 : s₁.heap = h0 := by rw [← hh, Bd.state]; rfl
  have N0 := Fr.nil n0
  have pre0 : ∀ t, Steps p.tables e below (s₁.setTop (mkF m 0 #[.val (.int p1), .unset, .unset, .unset, .unset, .unset, .unset, .unset, .unset, .unset, .unset, .unset, .unset, .unset, .unset, .unset, .unset, .unset, .unset] [])) t → Steps p.tables e below (s₁.setTop (entryFrame m #[(.int p1)] maxLocals)) t := fun t k => castTop (ef_0 m p1) k
  obtain ⟨r1, hr1⟩ : ∃ z : Int64, z = own_inv (-4658895280553007687 : Int64) := ⟨_, rfl⟩
  obtain ⟨r2, hr2⟩ : ∃ z : Int64, z = own_inv (-7723592293110705685 : Int64) := ⟨_, rfl⟩
  obtain ⟨r3, hr3⟩ : ∃ z : Int64, z = own_spread p1 := ⟨_, rfl⟩
  obtain ⟨_, _, ⟨T1, L1, k1, n1⟩, -, X1, ⟨Lc1, hQ1, l1, y1, z1⟩, st1⟩ := Jvm.LawKit.callS X0 hx (y := (⟨"com/example/roundsplit/roundsplit/map/KeyHasherSpreadPinLaw", "inverse", "(J)J"⟩ : MethodName)) hown (mvT hZ (hw _ (List.mem_of_getElem? (i := 2) rfl))) (mvT hZ (hw _ (List.mem_of_getElem? (i := 3) rfl))) (mvT hZ (hw _ (List.mem_of_getElem? (i := 4) rfl))) (mvT hZ (hw _ (List.mem_of_getElem? (i := 5) rfl))) (by decide) (backOf (W := 0) (rm1 l Z a0 hw [] (-4658895280553007687 : Int64) h0 n0 Z0) hZ (hw _ (List.mem_of_getElem? (i := 5) rfl)) (hw _ (List.mem_of_getElem? (i := 4) rfl)) (by decide) (by decide)) (g := (mkF m 9 #[.val (.int p1), .val (.long (-4658895280553007687 : Int64)), .second, .val (.long (-7723592293110705685 : Int64)), .second, .unset, .unset, .unset, .unset, .unset, .unset, .unset, .unset, .unset, .unset, .unset, .unset, .unset, .unset] [(.long (-4658895280553007687 : Int64))])) rfl (by rw [hml]; rfl) (argsL := [(.long (-4658895280553007687 : Int64))]) (rest := []) (lenOf pd_0_0 rfl) rfl (by show 2 * 0 + _ ≤ _; exact Nat.le_of_eq rfl) (hb hby at_9) (fun _ _ => ⟨rfl, e0, (by decide : 0 + 0 ≤ _), (by decide : 0 + 0 ≤ _)⟩)
  dsimp only [Pt.U, Pt.locs, Pt.cells, Pt.slots] at X1 l1 y1 z1 st1 hQ1
  subst l1 y1 z1
  obtain ⟨rfl, N1q, e1⟩ := hQ1
  have N1 := Fr.app N0 N1q
  obtain ⟨_, _, ⟨T2, L2, k2, n2⟩, -, X2, ⟨Lc2, hQ2, l2, y2, z2⟩, st2⟩ := Jvm.LawKit.callS X1 hx (y := (⟨"com/example/roundsplit/roundsplit/map/KeyHasherSpreadPinLaw", "inverse", "(J)J"⟩ : MethodName)) hown (mvT hZ (hw _ (List.mem_of_getElem? (i := 2) rfl))) (mvT hZ (hw _ (List.mem_of_getElem? (i := 3) rfl))) (mvT hZ (hw _ (List.mem_of_getElem? (i := 4) rfl))) (mvT hZ (hw _ (List.mem_of_getElem? (i := 5) rfl))) (by decide) (backOf (W := 0) (rm1 l Z a0 hw [] (-7723592293110705685 : Int64) h0 n0 Z0) hZ (hw _ (List.mem_of_getElem? (i := 5) rfl)) (hw _ (List.mem_of_getElem? (i := 4) rfl)) (by decide) (by decide)) (g := (mkF m 15 #[.val (.int p1), .val (.long (-4658895280553007687 : Int64)), .second, .val (.long (-7723592293110705685 : Int64)), .second, .val (.long r1), .second, .unset, .unset, .unset, .unset, .unset, .unset, .unset, .unset, .unset, .unset, .unset, .unset] [(.long (-7723592293110705685 : Int64))])) rfl (by rw [hml]; rfl) (argsL := [(.long (-7723592293110705685 : Int64))]) (rest := []) (lenOf pd_0_0 rfl) rfl (by show 2 * 0 + _ ≤ _; exact Nat.le_of_eq rfl) (hb hby at_15) (fun _ _ => ⟨rfl, e1, (by decide : 0 + 0 ≤ _), (by decide : 0 + 0 ≤ _)⟩)
  dsimp only [Pt.U, Pt.locs, Pt.cells, Pt.slots] at X2 l2 y2 z2 st2 hQ2
  subst l2 y2 z2
  obtain ⟨rfl, N2q, e2⟩ := hQ2
  have N2 := Fr.app N1 N2q
  obtain ⟨_, _, ⟨T3, L3, k3, n3⟩, -, X3, ⟨Lc3, hQ3, l3, y3, z3⟩, st3⟩ := Jvm.LawKit.callS X2 hx (y := (⟨"com/example/roundsplit/roundsplit/map/KeyHasher", "spread", "(I)J"⟩ : MethodName)) hown (mvT hZ (hw _ (List.mem_of_getElem? (i := 7) rfl))) (mvT hZ (hw _ (List.mem_of_getElem? (i := 8) rfl))) (mvT hZ (hw _ (List.mem_of_getElem? (i := 9) rfl))) (mvT hZ (hw _ (List.mem_of_getElem? (i := 10) rfl))) (by decide) (backOf (W := 0) (rm2 l Z a0 hw [] p1 h0 n0 Z0) hZ (hw _ (List.mem_of_getElem? (i := 10) rfl)) (hw _ (List.mem_of_getElem? (i := 9) rfl)) (by decide) (by decide)) (g := (mkF m 21 #[.val (.int p1), .val (.long (-4658895280553007687 : Int64)), .second, .val (.long (-7723592293110705685 : Int64)), .second, .val (.long r1), .second, .val (.long r2), .second, .unset, .unset, .unset, .unset, .unset, .unset, .unset, .unset, .unset, .unset] [(.int p1)])) rfl (by rw [hml]; rfl) (argsL := [(.int p1)]) (rest := []) (lenOf pd_0_1 rfl) rfl (by show 2 * 0 + _ ≤ _; exact Nat.le_of_eq rfl) (hb hby at_21) (fun _ _ => ⟨rfl, e2, (by decide : 0 + 0 ≤ _), (by decide : 0 + 0 ≤ _)⟩)
  dsimp only [Pt.U, Pt.locs, Pt.cells, Pt.slots] at X3 l3 y3 z3 st3 hQ3
  subst l3 y3 z3
  obtain ⟨rfl, N3q, e3⟩ := hQ3
  have N3 := Fr.app N2 N3q
  obtain ⟨v4, hv4⟩ : ∃ z : Int64, z = ((r3 ^^^ ((r3.toUInt64 >>> ((31 : Int32) &&& 0x3f).toInt64.toUInt64).toInt64)) ^^^ ((r3.toUInt64 >>> ((62 : Int32) &&& 0x3f).toInt64.toUInt64).toInt64)) := ⟨_, rfl⟩
  obtain ⟨v5, hv5⟩ : ∃ z : Int64, z = (v4 * r2) := ⟨_, rfl⟩
  obtain ⟨v6, hv6⟩ : ∃ z : Int64, z = ((v5 ^^^ ((v5.toUInt64 >>> ((27 : Int32) &&& 0x3f).toInt64.toUInt64).toInt64)) ^^^ ((v5.toUInt64 >>> ((54 : Int32) &&& 0x3f).toInt64.toUInt64).toInt64)) := ⟨_, rfl⟩
  obtain ⟨v7, hv7⟩ : ∃ z : Int64, z = (v6 * r1) := ⟨_, rfl⟩
  obtain ⟨c1, c2, c3⟩ := own_math p1 r3 v4 v5 v6 v7 r1 r2 hr1 hr2 hr3 hv4 hv5 hv6 hv7
  obtain ⟨fs, hr, hrun, hended, hW, hsame⟩ := X3.leave (v := some (.int (1 : Int32))) (fun h => by rw [Bd.returns] at h; cases h)
  refine ⟨_, _, pre0 _ ?_, hrun, hended, _, _, rfl, ?_, ⟨_, rfl⟩, hW, hsame.mono (by decide) (by decide)⟩
  · show Steps p.tables e below (s₁.setTop (mkF m 0 #[.val (.int p1), .unset, .unset, .unset, .unset, .unset, .unset, .unset, .unset, .unset, .unset, .unset, .unset, .unset, .unset, .unset, .unset, .unset, .unset] [])) _
    refine X0.ldc2Long hx hown (mvT hZ (hw _ (List.mem_of_getElem? (i := 0) rfl))) (g := (mkF m 0 #[.val (.int p1), .unset, .unset, .unset, .unset, .unset, .unset, .unset, .unset, .unset, .unset, .unset, .unset, .unset, .unset, .unset, .unset, .unset, .unset] [])) rfl (hb hby at_0) _ ?_
    show Steps p.tables e below (s₁.setTop (mkF m 3 #[.val (.int p1), .unset, .unset, .unset, .unset, .unset, .unset, .unset, .unset, .unset, .unset, .unset, .unset, .unset, .unset, .unset, .unset, .unset, .unset] [(.long (-4658895280553007687 : Int64))])) _
    refine XS.lstoreN X0.here hx rfl (hb hby at_3) rfl (l' := #[.val (.int p1), .val (.long (-4658895280553007687 : Int64)), .second, .unset, .unset, .unset, .unset, .unset, .unset, .unset, .unset, .unset, .unset, .unset, .unset, .unset, .unset, .unset, .unset]) rfl ?_
    show Steps p.tables e below (s₁.setTop (mkF m 4 #[.val (.int p1), .val (.long (-4658895280553007687 : Int64)), .second, .unset, .unset, .unset, .unset, .unset, .unset, .unset, .unset, .unset, .unset, .unset, .unset, .unset, .unset, .unset, .unset] [])) _
    refine X0.ldc2Long hx hown (mvT hZ (hw _ (List.mem_of_getElem? (i := 1) rfl))) (g := (mkF m 4 #[.val (.int p1), .val (.long (-4658895280553007687 : Int64)), .second, .unset, .unset, .unset, .unset, .unset, .unset, .unset, .unset, .unset, .unset, .unset, .unset, .unset, .unset, .unset, .unset] [])) rfl (hb hby at_4) _ ?_
    show Steps p.tables e below (s₁.setTop (mkF m 7 #[.val (.int p1), .val (.long (-4658895280553007687 : Int64)), .second, .unset, .unset, .unset, .unset, .unset, .unset, .unset, .unset, .unset, .unset, .unset, .unset, .unset, .unset, .unset, .unset] [(.long (-7723592293110705685 : Int64))])) _
    refine XS.lstoreN X0.here hx rfl (hb hby at_7) rfl (l' := #[.val (.int p1), .val (.long (-4658895280553007687 : Int64)), .second, .val (.long (-7723592293110705685 : Int64)), .second, .unset, .unset, .unset, .unset, .unset, .unset, .unset, .unset, .unset, .unset, .unset, .unset, .unset, .unset]) rfl ?_
    show Steps p.tables e below (s₁.setTop (mkF m 8 #[.val (.int p1), .val (.long (-4658895280553007687 : Int64)), .second, .val (.long (-7723592293110705685 : Int64)), .second, .unset, .unset, .unset, .unset, .unset, .unset, .unset, .unset, .unset, .unset, .unset, .unset, .unset, .unset] [])) _
    refine XS.lloadN X0.here hx rfl (hb hby at_8) rfl ?_
    show Steps p.tables e below (s₁.setTop (mkF m 9 #[.val (.int p1), .val (.long (-4658895280553007687 : Int64)), .second, .val (.long (-7723592293110705685 : Int64)), .second, .unset, .unset, .unset, .unset, .unset, .unset, .unset, .unset, .unset, .unset, .unset, .unset, .unset, .unset] [(.long (-4658895280553007687 : Int64))])) _
    refine st1 _ ?_
    show Steps p.tables e below (T1.setTop (mkF m 12 #[.val (.int p1), .val (.long (-4658895280553007687 : Int64)), .second, .val (.long (-7723592293110705685 : Int64)), .second, .unset, .unset, .unset, .unset, .unset, .unset, .unset, .unset, .unset, .unset, .unset, .unset, .unset, .unset] [(.long (own_inv (-4658895280553007687 : Int64)))])) _
    refine castTop (g' := (mkF m 12 #[.val (.int p1), .val (.long (-4658895280553007687 : Int64)), .second, .val (.long (-7723592293110705685 : Int64)), .second, .unset, .unset, .unset, .unset, .unset, .unset, .unset, .unset, .unset, .unset, .unset, .unset, .unset, .unset] [(.long r1)])) (by rw [hr1]) ?_
    show Steps p.tables e below (T1.setTop (mkF m 12 #[.val (.int p1), .val (.long (-4658895280553007687 : Int64)), .second, .val (.long (-7723592293110705685 : Int64)), .second, .unset, .unset, .unset, .unset, .unset, .unset, .unset, .unset, .unset, .unset, .unset, .unset, .unset, .unset] [(.long r1)])) _
    refine XS.lstore X1.here hx rfl (hb hby at_12) rfl (l' := #[.val (.int p1), .val (.long (-4658895280553007687 : Int64)), .second, .val (.long (-7723592293110705685 : Int64)), .second, .val (.long r1), .second, .unset, .unset, .unset, .unset, .unset, .unset, .unset, .unset, .unset, .unset, .unset, .unset]) rfl ?_
    show Steps p.tables e below (T1.setTop (mkF m 14 #[.val (.int p1), .val (.long (-4658895280553007687 : Int64)), .second, .val (.long (-7723592293110705685 : Int64)), .second, .val (.long r1), .second, .unset, .unset, .unset, .unset, .unset, .unset, .unset, .unset, .unset, .unset, .unset, .unset] [])) _
    refine XS.lloadN X1.here hx rfl (hb hby at_14) rfl ?_
    show Steps p.tables e below (T1.setTop (mkF m 15 #[.val (.int p1), .val (.long (-4658895280553007687 : Int64)), .second, .val (.long (-7723592293110705685 : Int64)), .second, .val (.long r1), .second, .unset, .unset, .unset, .unset, .unset, .unset, .unset, .unset, .unset, .unset, .unset, .unset] [(.long (-7723592293110705685 : Int64))])) _
    refine st2 _ ?_
    show Steps p.tables e below (T2.setTop (mkF m 18 #[.val (.int p1), .val (.long (-4658895280553007687 : Int64)), .second, .val (.long (-7723592293110705685 : Int64)), .second, .val (.long r1), .second, .unset, .unset, .unset, .unset, .unset, .unset, .unset, .unset, .unset, .unset, .unset, .unset] [(.long (own_inv (-7723592293110705685 : Int64)))])) _
    refine castTop (g' := (mkF m 18 #[.val (.int p1), .val (.long (-4658895280553007687 : Int64)), .second, .val (.long (-7723592293110705685 : Int64)), .second, .val (.long r1), .second, .unset, .unset, .unset, .unset, .unset, .unset, .unset, .unset, .unset, .unset, .unset, .unset] [(.long r2)])) (by rw [hr2]) ?_
    show Steps p.tables e below (T2.setTop (mkF m 18 #[.val (.int p1), .val (.long (-4658895280553007687 : Int64)), .second, .val (.long (-7723592293110705685 : Int64)), .second, .val (.long r1), .second, .unset, .unset, .unset, .unset, .unset, .unset, .unset, .unset, .unset, .unset, .unset, .unset] [(.long r2)])) _
    refine XS.lstore X2.here hx rfl (hb hby at_18) rfl (l' := #[.val (.int p1), .val (.long (-4658895280553007687 : Int64)), .second, .val (.long (-7723592293110705685 : Int64)), .second, .val (.long r1), .second, .val (.long r2), .second, .unset, .unset, .unset, .unset, .unset, .unset, .unset, .unset, .unset, .unset]) rfl ?_
    show Steps p.tables e below (T2.setTop (mkF m 20 #[.val (.int p1), .val (.long (-4658895280553007687 : Int64)), .second, .val (.long (-7723592293110705685 : Int64)), .second, .val (.long r1), .second, .val (.long r2), .second, .unset, .unset, .unset, .unset, .unset, .unset, .unset, .unset, .unset, .unset] [])) _
    refine XS.iloadN X2.here hx rfl (hb hby at_20) rfl ?_
    show Steps p.tables e below (T2.setTop (mkF m 21 #[.val (.int p1), .val (.long (-4658895280553007687 : Int64)), .second, .val (.long (-7723592293110705685 : Int64)), .second, .val (.long r1), .second, .val (.long r2), .second, .unset, .unset, .unset, .unset, .unset, .unset, .unset, .unset, .unset, .unset] [(.int p1)])) _
    refine st3 _ ?_
    show Steps p.tables e below (T3.setTop (mkF m 24 #[.val (.int p1), .val (.long (-4658895280553007687 : Int64)), .second, .val (.long (-7723592293110705685 : Int64)), .second, .val (.long r1), .second, .val (.long r2), .second, .unset, .unset, .unset, .unset, .unset, .unset, .unset, .unset, .unset, .unset] [(.long (own_spread p1))])) _
    refine castTop (g' := (mkF m 24 #[.val (.int p1), .val (.long (-4658895280553007687 : Int64)), .second, .val (.long (-7723592293110705685 : Int64)), .second, .val (.long r1), .second, .val (.long r2), .second, .unset, .unset, .unset, .unset, .unset, .unset, .unset, .unset, .unset, .unset] [(.long r3)])) (by rw [hr3]) ?_
    show Steps p.tables e below (T3.setTop (mkF m 24 #[.val (.int p1), .val (.long (-4658895280553007687 : Int64)), .second, .val (.long (-7723592293110705685 : Int64)), .second, .val (.long r1), .second, .val (.long r2), .second, .unset, .unset, .unset, .unset, .unset, .unset, .unset, .unset, .unset, .unset] [(.long r3)])) _
    refine XS.lstore X3.here hx rfl (hb hby at_24) rfl (l' := #[.val (.int p1), .val (.long (-4658895280553007687 : Int64)), .second, .val (.long (-7723592293110705685 : Int64)), .second, .val (.long r1), .second, .val (.long r2), .second, .val (.long r3), .second, .unset, .unset, .unset, .unset, .unset, .unset, .unset, .unset]) rfl ?_
    show Steps p.tables e below (T3.setTop (mkF m 26 #[.val (.int p1), .val (.long (-4658895280553007687 : Int64)), .second, .val (.long (-7723592293110705685 : Int64)), .second, .val (.long r1), .second, .val (.long r2), .second, .val (.long r3), .second, .unset, .unset, .unset, .unset, .unset, .unset, .unset, .unset] [])) _
    refine XS.lload X3.here hx rfl (hb hby at_26) rfl ?_
    show Steps p.tables e below (T3.setTop (mkF m 28 #[.val (.int p1), .val (.long (-4658895280553007687 : Int64)), .second, .val (.long (-7723592293110705685 : Int64)), .second, .val (.long r1), .second, .val (.long r2), .second, .val (.long r3), .second, .unset, .unset, .unset, .unset, .unset, .unset, .unset, .unset] [(.long r3)])) _
    refine XS.lload X3.here hx rfl (hb hby at_28) rfl ?_
    show Steps p.tables e below (T3.setTop (mkF m 30 #[.val (.int p1), .val (.long (-4658895280553007687 : Int64)), .second, .val (.long (-7723592293110705685 : Int64)), .second, .val (.long r1), .second, .val (.long r2), .second, .val (.long r3), .second, .unset, .unset, .unset, .unset, .unset, .unset, .unset, .unset] [(.long r3), (.long r3)])) _
    refine XS.bipush X3.here hx rfl (hb hby at_30) ?_
    show Steps p.tables e below (T3.setTop (mkF m 32 #[.val (.int p1), .val (.long (-4658895280553007687 : Int64)), .second, .val (.long (-7723592293110705685 : Int64)), .second, .val (.long r1), .second, .val (.long r2), .second, .val (.long r3), .second, .unset, .unset, .unset, .unset, .unset, .unset, .unset, .unset] [(.int (31 : Int32)), (.long r3), (.long r3)])) _
    refine XS.lushr X3.here hx rfl (hb hby at_32) rfl ?_
    show Steps p.tables e below (T3.setTop (mkF m 33 #[.val (.int p1), .val (.long (-4658895280553007687 : Int64)), .second, .val (.long (-7723592293110705685 : Int64)), .second, .val (.long r1), .second, .val (.long r2), .second, .val (.long r3), .second, .unset, .unset, .unset, .unset, .unset, .unset, .unset, .unset] [(.long ((r3.toUInt64 >>> ((31 : Int32) &&& 0x3f).toInt64.toUInt64).toInt64)), (.long r3)])) _
    refine XS.lxor X3.here hx rfl (hb hby at_33) rfl ?_
    show Steps p.tables e below (T3.setTop (mkF m 34 #[.val (.int p1), .val (.long (-4658895280553007687 : Int64)), .second, .val (.long (-7723592293110705685 : Int64)), .second, .val (.long r1), .second, .val (.long r2), .second, .val (.long r3), .second, .unset, .unset, .unset, .unset, .unset, .unset, .unset, .unset] [(.long (r3 ^^^ ((r3.toUInt64 >>> ((31 : Int32) &&& 0x3f).toInt64.toUInt64).toInt64)))])) _
    refine XS.lload X3.here hx rfl (hb hby at_34) rfl ?_
    show Steps p.tables e below (T3.setTop (mkF m 36 #[.val (.int p1), .val (.long (-4658895280553007687 : Int64)), .second, .val (.long (-7723592293110705685 : Int64)), .second, .val (.long r1), .second, .val (.long r2), .second, .val (.long r3), .second, .unset, .unset, .unset, .unset, .unset, .unset, .unset, .unset] [(.long r3), (.long (r3 ^^^ ((r3.toUInt64 >>> ((31 : Int32) &&& 0x3f).toInt64.toUInt64).toInt64)))])) _
    refine XS.bipush X3.here hx rfl (hb hby at_36) ?_
    show Steps p.tables e below (T3.setTop (mkF m 38 #[.val (.int p1), .val (.long (-4658895280553007687 : Int64)), .second, .val (.long (-7723592293110705685 : Int64)), .second, .val (.long r1), .second, .val (.long r2), .second, .val (.long r3), .second, .unset, .unset, .unset, .unset, .unset, .unset, .unset, .unset] [(.int (62 : Int32)), (.long r3), (.long (r3 ^^^ ((r3.toUInt64 >>> ((31 : Int32) &&& 0x3f).toInt64.toUInt64).toInt64)))])) _
    refine XS.lushr X3.here hx rfl (hb hby at_38) rfl ?_
    show Steps p.tables e below (T3.setTop (mkF m 39 #[.val (.int p1), .val (.long (-4658895280553007687 : Int64)), .second, .val (.long (-7723592293110705685 : Int64)), .second, .val (.long r1), .second, .val (.long r2), .second, .val (.long r3), .second, .unset, .unset, .unset, .unset, .unset, .unset, .unset, .unset] [(.long ((r3.toUInt64 >>> ((62 : Int32) &&& 0x3f).toInt64.toUInt64).toInt64)), (.long (r3 ^^^ ((r3.toUInt64 >>> ((31 : Int32) &&& 0x3f).toInt64.toUInt64).toInt64)))])) _
    refine XS.lxor X3.here hx rfl (hb hby at_39) rfl ?_
    show Steps p.tables e below (T3.setTop (mkF m 40 #[.val (.int p1), .val (.long (-4658895280553007687 : Int64)), .second, .val (.long (-7723592293110705685 : Int64)), .second, .val (.long r1), .second, .val (.long r2), .second, .val (.long r3), .second, .unset, .unset, .unset, .unset, .unset, .unset, .unset, .unset] [(.long ((r3 ^^^ ((r3.toUInt64 >>> ((31 : Int32) &&& 0x3f).toInt64.toUInt64).toInt64)) ^^^ ((r3.toUInt64 >>> ((62 : Int32) &&& 0x3f).toInt64.toUInt64).toInt64)))])) _
    refine XS.lstore X3.here hx rfl (hb hby at_40) rfl (l' := #[.val (.int p1), .val (.long (-4658895280553007687 : Int64)), .second, .val (.long (-7723592293110705685 : Int64)), .second, .val (.long r1), .second, .val (.long r2), .second, .val (.long r3), .second, .val (.long ((r3 ^^^ ((r3.toUInt64 >>> ((31 : Int32) &&& 0x3f).toInt64.toUInt64).toInt64)) ^^^ ((r3.toUInt64 >>> ((62 : Int32) &&& 0x3f).toInt64.toUInt64).toInt64))), .second, .unset, .unset, .unset, .unset, .unset, .unset]) rfl ?_
    refine castTop (g' := (mkF m 42 #[.val (.int p1), .val (.long (-4658895280553007687 : Int64)), .second, .val (.long (-7723592293110705685 : Int64)), .second, .val (.long r1), .second, .val (.long r2), .second, .val (.long r3), .second, .val (.long v4), .second, .unset, .unset, .unset, .unset, .unset, .unset] [])) (by rw [hv4]) ?_
    show Steps p.tables e below (T3.setTop (mkF m 42 #[.val (.int p1), .val (.long (-4658895280553007687 : Int64)), .second, .val (.long (-7723592293110705685 : Int64)), .second, .val (.long r1), .second, .val (.long r2), .second, .val (.long r3), .second, .val (.long v4), .second, .unset, .unset, .unset, .unset, .unset, .unset] [])) _
    refine XS.lload X3.here hx rfl (hb hby at_42) rfl ?_
    show Steps p.tables e below (T3.setTop (mkF m 44 #[.val (.int p1), .val (.long (-4658895280553007687 : Int64)), .second, .val (.long (-7723592293110705685 : Int64)), .second, .val (.long r1), .second, .val (.long r2), .second, .val (.long r3), .second, .val (.long v4), .second, .unset, .unset, .unset, .unset, .unset, .unset] [(.long v4)])) _
    refine XS.lload X3.here hx rfl (hb hby at_44) rfl ?_
    show Steps p.tables e below (T3.setTop (mkF m 46 #[.val (.int p1), .val (.long (-4658895280553007687 : Int64)), .second, .val (.long (-7723592293110705685 : Int64)), .second, .val (.long r1), .second, .val (.long r2), .second, .val (.long r3), .second, .val (.long v4), .second, .unset, .unset, .unset, .unset, .unset, .unset] [(.long r2), (.long v4)])) _
    refine XS.lmul X3.here hx rfl (hb hby at_46) rfl ?_
    show Steps p.tables e below (T3.setTop (mkF m 47 #[.val (.int p1), .val (.long (-4658895280553007687 : Int64)), .second, .val (.long (-7723592293110705685 : Int64)), .second, .val (.long r1), .second, .val (.long r2), .second, .val (.long r3), .second, .val (.long v4), .second, .unset, .unset, .unset, .unset, .unset, .unset] [(.long (v4 * r2))])) _
    refine XS.lstore X3.here hx rfl (hb hby at_47) rfl (l' := #[.val (.int p1), .val (.long (-4658895280553007687 : Int64)), .second, .val (.long (-7723592293110705685 : Int64)), .second, .val (.long r1), .second, .val (.long r2), .second, .val (.long r3), .second, .val (.long v4), .second, .val (.long (v4 * r2)), .second, .unset, .unset, .unset, .unset]) rfl ?_
    refine castTop (g' := (mkF m 49 #[.val (.int p1), .val (.long (-4658895280553007687 : Int64)), .second, .val (.long (-7723592293110705685 : Int64)), .second, .val (.long r1), .second, .val (.long r2), .second, .val (.long r3), .second, .val (.long v4), .second, .val (.long v5), .second, .unset, .unset, .unset, .unset] [])) (by rw [hv5]) ?_
    show Steps p.tables e below (T3.setTop (mkF m 49 #[.val (.int p1), .val (.long (-4658895280553007687 : Int64)), .second, .val (.long (-7723592293110705685 : Int64)), .second, .val (.long r1), .second, .val (.long r2), .second, .val (.long r3), .second, .val (.long v4), .second, .val (.long v5), .second, .unset, .unset, .unset, .unset] [])) _
    refine XS.lload X3.here hx rfl (hb hby at_49) rfl ?_
    show Steps p.tables e below (T3.setTop (mkF m 51 #[.val (.int p1), .val (.long (-4658895280553007687 : Int64)), .second, .val (.long (-7723592293110705685 : Int64)), .second, .val (.long r1), .second, .val (.long r2), .second, .val (.long r3), .second, .val (.long v4), .second, .val (.long v5), .second, .unset, .unset, .unset, .unset] [(.long v5)])) _
    refine XS.lload X3.here hx rfl (hb hby at_51) rfl ?_
    show Steps p.tables e below (T3.setTop (mkF m 53 #[.val (.int p1), .val (.long (-4658895280553007687 : Int64)), .second, .val (.long (-7723592293110705685 : Int64)), .second, .val (.long r1), .second, .val (.long r2), .second, .val (.long r3), .second, .val (.long v4), .second, .val (.long v5), .second, .unset, .unset, .unset, .unset] [(.long v5), (.long v5)])) _
    refine XS.bipush X3.here hx rfl (hb hby at_53) ?_
    show Steps p.tables e below (T3.setTop (mkF m 55 #[.val (.int p1), .val (.long (-4658895280553007687 : Int64)), .second, .val (.long (-7723592293110705685 : Int64)), .second, .val (.long r1), .second, .val (.long r2), .second, .val (.long r3), .second, .val (.long v4), .second, .val (.long v5), .second, .unset, .unset, .unset, .unset] [(.int (27 : Int32)), (.long v5), (.long v5)])) _
    refine XS.lushr X3.here hx rfl (hb hby at_55) rfl ?_
    show Steps p.tables e below (T3.setTop (mkF m 56 #[.val (.int p1), .val (.long (-4658895280553007687 : Int64)), .second, .val (.long (-7723592293110705685 : Int64)), .second, .val (.long r1), .second, .val (.long r2), .second, .val (.long r3), .second, .val (.long v4), .second, .val (.long v5), .second, .unset, .unset, .unset, .unset] [(.long ((v5.toUInt64 >>> ((27 : Int32) &&& 0x3f).toInt64.toUInt64).toInt64)), (.long v5)])) _
    refine XS.lxor X3.here hx rfl (hb hby at_56) rfl ?_
    show Steps p.tables e below (T3.setTop (mkF m 57 #[.val (.int p1), .val (.long (-4658895280553007687 : Int64)), .second, .val (.long (-7723592293110705685 : Int64)), .second, .val (.long r1), .second, .val (.long r2), .second, .val (.long r3), .second, .val (.long v4), .second, .val (.long v5), .second, .unset, .unset, .unset, .unset] [(.long (v5 ^^^ ((v5.toUInt64 >>> ((27 : Int32) &&& 0x3f).toInt64.toUInt64).toInt64)))])) _
    refine XS.lload X3.here hx rfl (hb hby at_57) rfl ?_
    show Steps p.tables e below (T3.setTop (mkF m 59 #[.val (.int p1), .val (.long (-4658895280553007687 : Int64)), .second, .val (.long (-7723592293110705685 : Int64)), .second, .val (.long r1), .second, .val (.long r2), .second, .val (.long r3), .second, .val (.long v4), .second, .val (.long v5), .second, .unset, .unset, .unset, .unset] [(.long v5), (.long (v5 ^^^ ((v5.toUInt64 >>> ((27 : Int32) &&& 0x3f).toInt64.toUInt64).toInt64)))])) _
    refine XS.bipush X3.here hx rfl (hb hby at_59) ?_
    show Steps p.tables e below (T3.setTop (mkF m 61 #[.val (.int p1), .val (.long (-4658895280553007687 : Int64)), .second, .val (.long (-7723592293110705685 : Int64)), .second, .val (.long r1), .second, .val (.long r2), .second, .val (.long r3), .second, .val (.long v4), .second, .val (.long v5), .second, .unset, .unset, .unset, .unset] [(.int (54 : Int32)), (.long v5), (.long (v5 ^^^ ((v5.toUInt64 >>> ((27 : Int32) &&& 0x3f).toInt64.toUInt64).toInt64)))])) _
    refine XS.lushr X3.here hx rfl (hb hby at_61) rfl ?_
    show Steps p.tables e below (T3.setTop (mkF m 62 #[.val (.int p1), .val (.long (-4658895280553007687 : Int64)), .second, .val (.long (-7723592293110705685 : Int64)), .second, .val (.long r1), .second, .val (.long r2), .second, .val (.long r3), .second, .val (.long v4), .second, .val (.long v5), .second, .unset, .unset, .unset, .unset] [(.long ((v5.toUInt64 >>> ((54 : Int32) &&& 0x3f).toInt64.toUInt64).toInt64)), (.long (v5 ^^^ ((v5.toUInt64 >>> ((27 : Int32) &&& 0x3f).toInt64.toUInt64).toInt64)))])) _
    refine XS.lxor X3.here hx rfl (hb hby at_62) rfl ?_
    show Steps p.tables e below (T3.setTop (mkF m 63 #[.val (.int p1), .val (.long (-4658895280553007687 : Int64)), .second, .val (.long (-7723592293110705685 : Int64)), .second, .val (.long r1), .second, .val (.long r2), .second, .val (.long r3), .second, .val (.long v4), .second, .val (.long v5), .second, .unset, .unset, .unset, .unset] [(.long ((v5 ^^^ ((v5.toUInt64 >>> ((27 : Int32) &&& 0x3f).toInt64.toUInt64).toInt64)) ^^^ ((v5.toUInt64 >>> ((54 : Int32) &&& 0x3f).toInt64.toUInt64).toInt64)))])) _
    refine XS.lstore X3.here hx rfl (hb hby at_63) rfl (l' := #[.val (.int p1), .val (.long (-4658895280553007687 : Int64)), .second, .val (.long (-7723592293110705685 : Int64)), .second, .val (.long r1), .second, .val (.long r2), .second, .val (.long r3), .second, .val (.long v4), .second, .val (.long v5), .second, .val (.long ((v5 ^^^ ((v5.toUInt64 >>> ((27 : Int32) &&& 0x3f).toInt64.toUInt64).toInt64)) ^^^ ((v5.toUInt64 >>> ((54 : Int32) &&& 0x3f).toInt64.toUInt64).toInt64))), .second, .unset, .unset]) rfl ?_
    refine castTop (g' := (mkF m 65 #[.val (.int p1), .val (.long (-4658895280553007687 : Int64)), .second, .val (.long (-7723592293110705685 : Int64)), .second, .val (.long r1), .second, .val (.long r2), .second, .val (.long r3), .second, .val (.long v4), .second, .val (.long v5), .second, .val (.long v6), .second, .unset, .unset] [])) (by rw [hv6]) ?_
    show Steps p.tables e below (T3.setTop (mkF m 65 #[.val (.int p1), .val (.long (-4658895280553007687 : Int64)), .second, .val (.long (-7723592293110705685 : Int64)), .second, .val (.long r1), .second, .val (.long r2), .second, .val (.long r3), .second, .val (.long v4), .second, .val (.long v5), .second, .val (.long v6), .second, .unset, .unset] [])) _
    refine XS.lload X3.here hx rfl (hb hby at_65) rfl ?_
    show Steps p.tables e below (T3.setTop (mkF m 67 #[.val (.int p1), .val (.long (-4658895280553007687 : Int64)), .second, .val (.long (-7723592293110705685 : Int64)), .second, .val (.long r1), .second, .val (.long r2), .second, .val (.long r3), .second, .val (.long v4), .second, .val (.long v5), .second, .val (.long v6), .second, .unset, .unset] [(.long v6)])) _
    refine XS.lload X3.here hx rfl (hb hby at_67) rfl ?_
    show Steps p.tables e below (T3.setTop (mkF m 69 #[.val (.int p1), .val (.long (-4658895280553007687 : Int64)), .second, .val (.long (-7723592293110705685 : Int64)), .second, .val (.long r1), .second, .val (.long r2), .second, .val (.long r3), .second, .val (.long v4), .second, .val (.long v5), .second, .val (.long v6), .second, .unset, .unset] [(.long r1), (.long v6)])) _
    refine XS.lmul X3.here hx rfl (hb hby at_69) rfl ?_
    show Steps p.tables e below (T3.setTop (mkF m 70 #[.val (.int p1), .val (.long (-4658895280553007687 : Int64)), .second, .val (.long (-7723592293110705685 : Int64)), .second, .val (.long r1), .second, .val (.long r2), .second, .val (.long r3), .second, .val (.long v4), .second, .val (.long v5), .second, .val (.long v6), .second, .unset, .unset] [(.long (v6 * r1))])) _
    refine XS.lstore X3.here hx rfl (hb hby at_70) rfl (l' := #[.val (.int p1), .val (.long (-4658895280553007687 : Int64)), .second, .val (.long (-7723592293110705685 : Int64)), .second, .val (.long r1), .second, .val (.long r2), .second, .val (.long r3), .second, .val (.long v4), .second, .val (.long v5), .second, .val (.long v6), .second, .val (.long (v6 * r1)), .second]) rfl ?_
    refine castTop (g' := (mkF m 72 #[.val (.int p1), .val (.long (-4658895280553007687 : Int64)), .second, .val (.long (-7723592293110705685 : Int64)), .second, .val (.long r1), .second, .val (.long r2), .second, .val (.long r3), .second, .val (.long v4), .second, .val (.long v5), .second, .val (.long v6), .second, .val (.long v7), .second] [])) (by rw [hv7]) ?_
    show Steps p.tables e below (T3.setTop (mkF m 72 #[.val (.int p1), .val (.long (-4658895280553007687 : Int64)), .second, .val (.long (-7723592293110705685 : Int64)), .second, .val (.long r1), .second, .val (.long r2), .second, .val (.long r3), .second, .val (.long v4), .second, .val (.long v5), .second, .val (.long v6), .second, .val (.long v7), .second] [])) _
    refine XS.lloadN X3.here hx rfl (hb hby at_72) rfl ?_
    show Steps p.tables e below (T3.setTop (mkF m 73 #[.val (.int p1), .val (.long (-4658895280553007687 : Int64)), .second, .val (.long (-7723592293110705685 : Int64)), .second, .val (.long r1), .second, .val (.long r2), .second, .val (.long r3), .second, .val (.long v4), .second, .val (.long v5), .second, .val (.long v6), .second, .val (.long v7), .second] [(.long (-4658895280553007687 : Int64))])) _
    refine XS.lload X3.here hx rfl (hb hby at_73) rfl ?_
    show Steps p.tables e below (T3.setTop (mkF m 75 #[.val (.int p1), .val (.long (-4658895280553007687 : Int64)), .second, .val (.long (-7723592293110705685 : Int64)), .second, .val (.long r1), .second, .val (.long r2), .second, .val (.long r3), .second, .val (.long v4), .second, .val (.long v5), .second, .val (.long v6), .second, .val (.long v7), .second] [(.long r1), (.long (-4658895280553007687 : Int64))])) _
    refine XS.lmul X3.here hx rfl (hb hby at_75) rfl ?_
    show Steps p.tables e below (T3.setTop (mkF m 76 #[.val (.int p1), .val (.long (-4658895280553007687 : Int64)), .second, .val (.long (-7723592293110705685 : Int64)), .second, .val (.long r1), .second, .val (.long r2), .second, .val (.long r3), .second, .val (.long v4), .second, .val (.long v5), .second, .val (.long v6), .second, .val (.long v7), .second] [(.long ((-4658895280553007687 : Int64) * r1))])) _
    refine XS.lconst X3.here hx rfl (hb hby at_76) ?_
    show Steps p.tables e below (T3.setTop (mkF m 77 #[.val (.int p1), .val (.long (-4658895280553007687 : Int64)), .second, .val (.long (-7723592293110705685 : Int64)), .second, .val (.long r1), .second, .val (.long r2), .second, .val (.long r3), .second, .val (.long v4), .second, .val (.long v5), .second, .val (.long v6), .second, .val (.long v7), .second] [(.long (1 : Int64)), (.long ((-4658895280553007687 : Int64) * r1))])) _
    refine XS.lcmp X3.here hx rfl (hb hby at_77) rfl ?_
    show Steps p.tables e below (T3.setTop (mkF m 78 #[.val (.int p1), .val (.long (-4658895280553007687 : Int64)), .second, .val (.long (-7723592293110705685 : Int64)), .second, .val (.long r1), .second, .val (.long r2), .second, .val (.long r3), .second, .val (.long v4), .second, .val (.long v5), .second, .val (.long v6), .second, .val (.long v7), .second] [(.int (lcmpW ((-4658895280553007687 : Int64) * r1) (1 : Int64)))])) _
    refine XS.ifNo X3.here hx rfl (hb hby at_78) rfl ((if0 _ _).trans (teq ((lw_eq ((-4658895280553007687 : Int64) * r1) (1 : Int64)).mpr c1)).2) ?_
    show Steps p.tables e below (T3.setTop (mkF m 81 #[.val (.int p1), .val (.long (-4658895280553007687 : Int64)), .second, .val (.long (-7723592293110705685 : Int64)), .second, .val (.long r1), .second, .val (.long r2), .second, .val (.long r3), .second, .val (.long v4), .second, .val (.long v5), .second, .val (.long v6), .second, .val (.long v7), .second] [])) _
    refine XS.lloadN X3.here hx rfl (hb hby at_81) rfl ?_
    show Steps p.tables e below (T3.setTop (mkF m 82 #[.val (.int p1), .val (.long (-4658895280553007687 : Int64)), .second, .val (.long (-7723592293110705685 : Int64)), .second, .val (.long r1), .second, .val (.long r2), .second, .val (.long r3), .second, .val (.long v4), .second, .val (.long v5), .second, .val (.long v6), .second, .val (.long v7), .second] [(.long (-7723592293110705685 : Int64))])) _
    refine XS.lload X3.here hx rfl (hb hby at_82) rfl ?_
    show Steps p.tables e below (T3.setTop (mkF m 84 #[.val (.int p1), .val (.long (-4658895280553007687 : Int64)), .second, .val (.long (-7723592293110705685 : Int64)), .second, .val (.long r1), .second, .val (.long r2), .second, .val (.long r3), .second, .val (.long v4), .second, .val (.long v5), .second, .val (.long v6), .second, .val (.long v7), .second] [(.long r2), (.long (-7723592293110705685 : Int64))])) _
    refine XS.lmul X3.here hx rfl (hb hby at_84) rfl ?_
    show Steps p.tables e below (T3.setTop (mkF m 85 #[.val (.int p1), .val (.long (-4658895280553007687 : Int64)), .second, .val (.long (-7723592293110705685 : Int64)), .second, .val (.long r1), .second, .val (.long r2), .second, .val (.long r3), .second, .val (.long v4), .second, .val (.long v5), .second, .val (.long v6), .second, .val (.long v7), .second] [(.long ((-7723592293110705685 : Int64) * r2))])) _
    refine XS.lconst X3.here hx rfl (hb hby at_85) ?_
    show Steps p.tables e below (T3.setTop (mkF m 86 #[.val (.int p1), .val (.long (-4658895280553007687 : Int64)), .second, .val (.long (-7723592293110705685 : Int64)), .second, .val (.long r1), .second, .val (.long r2), .second, .val (.long r3), .second, .val (.long v4), .second, .val (.long v5), .second, .val (.long v6), .second, .val (.long v7), .second] [(.long (1 : Int64)), (.long ((-7723592293110705685 : Int64) * r2))])) _
    refine XS.lcmp X3.here hx rfl (hb hby at_86) rfl ?_
    show Steps p.tables e below (T3.setTop (mkF m 87 #[.val (.int p1), .val (.long (-4658895280553007687 : Int64)), .second, .val (.long (-7723592293110705685 : Int64)), .second, .val (.long r1), .second, .val (.long r2), .second, .val (.long r3), .second, .val (.long v4), .second, .val (.long v5), .second, .val (.long v6), .second, .val (.long v7), .second] [(.int (lcmpW ((-7723592293110705685 : Int64) * r2) (1 : Int64)))])) _
    refine XS.ifNo X3.here hx rfl (hb hby at_87) rfl ((if0 _ _).trans (teq ((lw_eq ((-7723592293110705685 : Int64) * r2) (1 : Int64)).mpr c2)).2) ?_
    show Steps p.tables e below (T3.setTop (mkF m 90 #[.val (.int p1), .val (.long (-4658895280553007687 : Int64)), .second, .val (.long (-7723592293110705685 : Int64)), .second, .val (.long r1), .second, .val (.long r2), .second, .val (.long r3), .second, .val (.long v4), .second, .val (.long v5), .second, .val (.long v6), .second, .val (.long v7), .second] [])) _
    refine XS.lload X3.here hx rfl (hb hby at_90) rfl ?_
    show Steps p.tables e below (T3.setTop (mkF m 92 #[.val (.int p1), .val (.long (-4658895280553007687 : Int64)), .second, .val (.long (-7723592293110705685 : Int64)), .second, .val (.long r1), .second, .val (.long r2), .second, .val (.long r3), .second, .val (.long v4), .second, .val (.long v5), .second, .val (.long v6), .second, .val (.long v7), .second] [(.long v7)])) _
    refine XS.iloadN X3.here hx rfl (hb hby at_92) rfl ?_
    show Steps p.tables e below (T3.setTop (mkF m 93 #[.val (.int p1), .val (.long (-4658895280553007687 : Int64)), .second, .val (.long (-7723592293110705685 : Int64)), .second, .val (.long r1), .second, .val (.long r2), .second, .val (.long r3), .second, .val (.long v4), .second, .val (.long v5), .second, .val (.long v6), .second, .val (.long v7), .second] [(.int p1), (.long v7)])) _
    refine XS.i2l X3.here hx rfl (hb hby at_93) rfl ?_
    show Steps p.tables e below (T3.setTop (mkF m 94 #[.val (.int p1), .val (.long (-4658895280553007687 : Int64)), .second, .val (.long (-7723592293110705685 : Int64)), .second, .val (.long r1), .second, .val (.long r2), .second, .val (.long r3), .second, .val (.long v4), .second, .val (.long v5), .second, .val (.long v6), .second, .val (.long v7), .second] [(.long (p1.toInt64)), (.long v7)])) _
    refine X3.ldc2Long hx hown (mvT hZ (hw _ (List.mem_of_getElem? (i := 14) rfl))) (g := (mkF m 94 #[.val (.int p1), .val (.long (-4658895280553007687 : Int64)), .second, .val (.long (-7723592293110705685 : Int64)), .second, .val (.long r1), .second, .val (.long r2), .second, .val (.long r3), .second, .val (.long v4), .second, .val (.long v5), .second, .val (.long v6), .second, .val (.long v7), .second] [(.long (p1.toInt64)), (.long v7)])) rfl (hb hby at_94) _ ?_
    show Steps p.tables e below (T3.setTop (mkF m 97 #[.val (.int p1), .val (.long (-4658895280553007687 : Int64)), .second, .val (.long (-7723592293110705685 : Int64)), .second, .val (.long r1), .second, .val (.long r2), .second, .val (.long r3), .second, .val (.long v4), .second, .val (.long v5), .second, .val (.long v6), .second, .val (.long v7), .second] [(.long (4294967295 : Int64)), (.long (p1.toInt64)), (.long v7)])) _
    refine XS.land X3.here hx rfl (hb hby at_97) rfl ?_
    show Steps p.tables e below (T3.setTop (mkF m 98 #[.val (.int p1), .val (.long (-4658895280553007687 : Int64)), .second, .val (.long (-7723592293110705685 : Int64)), .second, .val (.long r1), .second, .val (.long r2), .second, .val (.long r3), .second, .val (.long v4), .second, .val (.long v5), .second, .val (.long v6), .second, .val (.long v7), .second] [(.long ((p1.toInt64) &&& (4294967295 : Int64))), (.long v7)])) _
    refine XS.lcmp X3.here hx rfl (hb hby at_98) rfl ?_
    show Steps p.tables e below (T3.setTop (mkF m 99 #[.val (.int p1), .val (.long (-4658895280553007687 : Int64)), .second, .val (.long (-7723592293110705685 : Int64)), .second, .val (.long r1), .second, .val (.long r2), .second, .val (.long r3), .second, .val (.long v4), .second, .val (.long v5), .second, .val (.long v6), .second, .val (.long v7), .second] [(.int (lcmpW v7 ((p1.toInt64) &&& (4294967295 : Int64))))])) _
    refine XS.ifNo X3.here hx rfl (hb hby at_99) rfl ((if0 _ _).trans (teq ((lw_eq v7 ((p1.toInt64) &&& (4294967295 : Int64))).mpr c3)).2) ?_
    show Steps p.tables e below (T3.setTop (mkF m 102 #[.val (.int p1), .val (.long (-4658895280553007687 : Int64)), .second, .val (.long (-7723592293110705685 : Int64)), .second, .val (.long r1), .second, .val (.long r2), .second, .val (.long r3), .second, .val (.long v4), .second, .val (.long v5), .second, .val (.long v6), .second, .val (.long v7), .second] [])) _
    refine XS.iconst X3.here hx rfl (hb hby at_102) ?_
    show Steps p.tables e below (T3.setTop (mkF m 103 #[.val (.int p1), .val (.long (-4658895280553007687 : Int64)), .second, .val (.long (-7723592293110705685 : Int64)), .second, .val (.long r1), .second, .val (.long r2), .second, .val (.long r3), .second, .val (.long v4), .second, .val (.long v5), .second, .val (.long v6), .second, .val (.long v7), .second] [(.int (1 : Int32))])) _
    refine XS.goto X3.here hx rfl (pc0 := 103) (pc' := 107) rfl (hb hby at_103) (by decide) (by decide) ?_
    show Steps p.tables e below (T3.setTop (mkF m 107 #[.val (.int p1), .val (.long (-4658895280553007687 : Int64)), .second, .val (.long (-7723592293110705685 : Int64)), .second, .val (.long r1), .second, .val (.long r2), .second, .val (.long r3), .second, .val (.long v4), .second, .val (.long v5), .second, .val (.long v6), .second, .val (.long v7), .second] [(.int (1 : Int32))])) _
    exact retN X3 hx (t := .boolean) Bd.returns (by simp) (hb hby at_107) hr
  · show Q0 Z p1 h0 n0 _ T3.heap _
    rw [e3]
    exact ⟨rfl, N3⟩
set_option maxRecDepth 65536 in
set_option maxHeartbeats 40000000 in
theorem comes_1 {Post : Tables → Env → Array Value → State → Outcome → State → Prop} (hpost : ∀ tb e args s v u, (limb_1_1.after args s (.returned v) u = true ∧ limb_1_2.after args s (.returned v) u = true ∧ True) → FrameEnd s (.returned v) u (Jvm.fieldLocs frame_1_writes args s ++ Jvm.arrayLocs frame_1_arrays args s ++ Jvm.staticLocs frame_1_statics s) 0 0 → Post tb e args s (.returned v) u) :
    ArmFor flags0 classFile x code maxLocals ret World_1 tables_1 room_1 Calls_1 rest_1 Pre_1 Post := by
  intro l hfl _ _ p e ha hc hk s m args below hf hA hF happ hP
  obtain ⟨hcalls, hrest, hpre⟩ := hP
  obtain ⟨-, -, -, hnamed, -, -, -, hat⟩ := (Spec.applies_iff hf).mp happ
  obtain ⟨hg, hn⟩ := and_e (Cond.before_iff.mp (show (Jvm.Cond.and given_1 narrow_1).before args s = true from hpre))
  obtain ⟨h1, g1⟩ := and_e hg
  obtain ⟨w0, rfl⟩ : ∃ w0 : Value, args = #[w0] := by
    have hs : args.size = 1 := by simpa [Cond.value, given_1] using h1
    obtain ⟨L⟩ := args
    match L, hs with
    | [w0], _ => exact ⟨w0, rfl⟩
  have hw := fun d (hd : d ∈ tables_1) => atoms_spec (ws := Jvm.Cond.code x code maxLocals ret :: tables_1) hat d (List.mem_cons_of_mem _ hd)
  obtain ⟨i0, ei0⟩ := is_v g1
  obtain rfl : w0 = (.int i0) := Option.some.inj ei0
  obtain ⟨n, o, h1, h2, h3, _, L, rfl, ⟨rfl, N⟩, hq⟩ := rm0 l s _ hw tables_1 i0 s.heap s.heap.size (Nat.le_refl _)  p e ha hc hk s m _ below hf ((Spec.applies_iff_loose hf).mp happ).1 ⟨rfl, State.Warmed39.refl s, rfl⟩ trivial
  refine ⟨n, _, h1, h2, h3, hpost _ _ _ _ _ _ ⟨Cond.after_iff.mpr rfl, Cond.after_iff.mpr (eq_i res_at (Term.int_eval (1)) rfl), trivial⟩ ⟨hq.1, hq.2.1, (hq.2.2.sift fun y hy => Or.inr (N y hy)).mono (by decide) (by decide)⟩⟩
theorem main_1_1 : Claimed_1_1 := comes_1 fun _ _ _ _ _ _ h hF => ⟨h.1, hF⟩
theorem main_1_2 : Claimed_1_2 := comes_1 fun _ _ _ _ _ _ h hF => ⟨h.2.1, hF⟩
end Jvm.Pilot.@@N@@
namespace Jvm.Pilot.@@N@@
open Jvm Jvm.ClassFile Sem Op Lib Jvm.Free Jvm.Stand Jvm.Pilot.@@N@@.Jvm.D
/-! MADE BY PROGRAM (witnessworld.py) out of the Statement's table words and the real class files: 9 classes; the members and pool entries that the words name. The judged class is class 1, her method 2. -/
namespace start1
open Jvm.ClassFile
def u (s : String) : CpInfo := .utf8 (stringToUtf16 s)
/-- a pool by its gaps: so many unusable entries, then the entry; so many at the end -/
def gap : Nat → List CpInfo → List CpInfo
  | 0, r => r
  | n + 1, r => .unusable :: gap n r
def poolList (es : List (Nat × CpInfo)) (last : Nat) : List CpInfo := es.foldr (fun e r => gap e.1 (e.2 :: r)) (gap last [])
def pool (es : List (Nat × CpInfo)) (last : Nat) : Array CpInfo := ⟨poolList es last⟩
def fileOf (pool : Array CpInfo) (this : Nat) (attrs : Array Attribute := #[]) (ms : Array MethodInfo := #[]) (fl : Nat := 33) (sup : Nat := 0) (ifs : Array Nat := #[]) (fds : Array FieldInfo := #[]) : ClassFile where
  minorVersion := 0
  majorVersion := 65
  constantPool := pool
  accessFlags := fl
  thisClass := this
  superClass := sup
  interfaces := ifs
  fields := fds
  methods := ms
  attributes := attrs
def plain (name : String) (sup : Option ClassId) : Class where
  name := name
  kind := .ordinary
  loader := none
  accessFlags := 33
  super := sup
  interfaces := #[]
  cf := none
  fields := #[]
  methods := #[]
  instanceTypes := #[]
  staticTypes := #[]
  resolved := #[]
  callSites := []
  init := .initialized
  statics := none
  mirror := none

def pool0 : Array CpInfo := pool [(5, u "<init>"), (0, u "()V"), (1, .class_ 10), (1, u "java/lang/Object")] 113

def k0m0 : Method := { name := "<init>", desc := "()V", sig := { parameters := [], returnType := none }, accessFlags := 1, code := none }
/-- java/lang/Object -/
def k0 : Class := { plain "java/lang/Object" none with
  accessFlags := 33
  interfaces := #[]
  cf := some (fileOf pool0 8 #[] #[{ accessFlags := 1, nameIndex := 5, descriptorIndex := 6, attributes := #[] }] 33 0 #[] #[])
  fields := #[]
  methods := #[k0m0]
  instanceTypes := #[]
  staticTypes := #[]
  resolved := Array.replicate 124 none
  statics := none }

def pool1 : Array CpInfo := pool [(2, .class_ 4), (1, u "java/lang/Object"), (0, u "<init>"), (0, u "()V"), (0, .long 2), (1, .long 13787848793156543929), (1, .long 10723151780598845931), (1, .methodref 14 15), (0, .class_ 16), (0, .nameAndType 17 18), (0, u "com/example/roundsplit/roundsplit/map/KeyHasherSpreadPinLaw"), (0, u "inverse"), (0, u "(J)J"), (0, .methodref 20 21), (0, .class_ 22), (0, .nameAndType 23 24), (0, u "com/example/roundsplit/roundsplit/map/KeyHasher"), (0, u "spread"), (0, u "(I)J"), (0, .long 4294967295), (3, u "law"), (0, u "(I)Z")] 3

def k1m0 : Method := { name := "<init>", desc := "()V", sig := { parameters := [], returnType := none }, accessFlags := 2, code := none }
def k1c1 : Code := { maxStack := 8, maxLocals := 4, code := method_2_code, exceptionTable := #[], attributes := #[] }
def k1m1 : Method := { name := "inverse", desc := "(J)J", sig := { parameters := [.long], returnType := some .long }, accessFlags := 10, code := some k1c1 }
def k1c2 : Code := { maxStack := 6, maxLocals := 19, code := code, exceptionTable := #[], attributes := #[] }
def k1m2 : Method := { name := "law", desc := "(I)Z", sig := { parameters := [.int], returnType := some .boolean }, accessFlags := 9, code := some k1c2 }
/-- com/example/roundsplit/roundsplit/map/KeyHasherSpreadPinLaw -/
def k1 : Class := { plain "com/example/roundsplit/roundsplit/map/KeyHasherSpreadPinLaw" (some 0) with
  accessFlags := 49
  interfaces := #[]
  cf := some (fileOf pool1 14 #[] #[{ accessFlags := 2, nameIndex := 5, descriptorIndex := 6, attributes := #[] }, { accessFlags := 10, nameIndex := 17, descriptorIndex := 18, attributes := #[] }, { accessFlags := 9, nameIndex := 29, descriptorIndex := 30, attributes := #[] }] 49 2 #[] #[])
  fields := #[]
  methods := #[k1m0, k1m1, k1m2]
  instanceTypes := #[]
  staticTypes := #[]
  resolved := Array.replicate 34 none
  statics := none }

def pool2 : Array CpInfo := pool [(1, .class_ 2), (0, u "java/io/Serializable"), (0, .class_ 4), (0, u "java/lang/Object")] 2

/-- java/io/Serializable -/
def k2 : Class := { plain "java/io/Serializable" (some 0) with
  accessFlags := 1537
  interfaces := #[]
  cf := some (fileOf pool2 1 #[] #[] 1537 3 #[] #[])
  fields := #[]
  methods := #[]
  instanceTypes := #[]
  staticTypes := #[]
  resolved := Array.replicate 7 none
  statics := none }

def pool3 : Array CpInfo := pool [(2, .class_ 4), (1, u "java/lang/Object"), (3, .class_ 10), (1, u "com/example/roundsplit/roundsplit/map/KeyHasher"), (0, u "function"), (0, u "Ljava/util/function/ToLongFunction;"), (2, u "FROM_HASH_CODE"), (0, u "Lcom/example/roundsplit/roundsplit/map/KeyHasher;"), (24, .class_ 42), (0, u "com/example/roundsplit/roundsplit/map/KeyHasher$KeyNotTakenException"), (15, u "spread"), (0, u "(I)J"), (11, .class_ 72), (0, u "java/io/Serializable"), (19, .long 4294967295), (1, .long 13787848793156543929), (1, .long 10723151780598845931), (1, u "serialVersionUID"), (0, u "J")] 47

def k3c0 : Code := { maxStack := 5, maxLocals := 3, code := prog_26_method_11_code, exceptionTable := #[], attributes := #[] }
def k3m0 : Method := { name := "spread", desc := "(I)J", sig := { parameters := [.int], returnType := some .long }, accessFlags := 8, code := some k3c0 }
/-- com/example/roundsplit/roundsplit/map/KeyHasher -/
def k3 : Class := { plain "com/example/roundsplit/roundsplit/map/KeyHasher" (some 0) with
  accessFlags := 48
  interfaces := #[2]
  cf := some (fileOf pool3 8 #[.nestMembers #[41]] #[{ accessFlags := 8, nameIndex := 58, descriptorIndex := 59, attributes := #[] }] 48 2 #[71] #[{ accessFlags := 26, nameIndex := 98, descriptorIndex := 99, attributes := #[] }, { accessFlags := 26, nameIndex := 15, descriptorIndex := 16, attributes := #[] }, { accessFlags := 18, nameIndex := 11, descriptorIndex := 12, attributes := #[] }])
  fields := #[{ name := "serialVersionUID", type := .long, accessFlags := 26, slot := 0, constantValue := 0 }, { name := "FROM_HASH_CODE", type := (.object "com/example/roundsplit/roundsplit/map/KeyHasher"), accessFlags := 26, slot := 1, constantValue := 0 }, { name := "function", type := (.object "java/util/function/ToLongFunction"), accessFlags := 18, slot := 0, constantValue := 0 }]
  methods := #[k3m0]
  instanceTypes := #[(.object "java/util/function/ToLongFunction")]
  staticTypes := #[.long, (.object "com/example/roundsplit/roundsplit/map/KeyHasher")]
  resolved := Array.replicate 147 none
  statics := none }

def pool4 : Array CpInfo := pool [(1, u "java/lang/Cloneable"), (0, .class_ 1), (0, u "java/lang/Object"), (0, .class_ 3)] 3

/-- java/lang/Cloneable -/
def k4 : Class := { plain "java/lang/Cloneable" (some 0) with
  accessFlags := 1537
  interfaces := #[]
  cf := some (fileOf pool4 2 #[] #[] 1537 4 #[] #[])
  fields := #[]
  methods := #[]
  instanceTypes := #[]
  staticTypes := #[]
  resolved := Array.replicate 8 none
  statics := none }

/-- the primitive byte -/
def k5 : Class := { plain "byte" none with kind := .primitive 'B', accessFlags := 0x411 }
/-- [B -/
def k6 : Class := { plain "[B" (some 0) with kind := .array 5 .byte, interfaces := #[4, 2], accessFlags := 1041 }

/-- the primitive int -/
def k7 : Class := { plain "int" none with kind := .primitive 'I', accessFlags := 0x411 }
/-- [I -/
def k8 : Class := { plain "[I" (some 0) with kind := .array 7 .int, interfaces := #[4, 2], accessFlags := 1041 }

def heap : Heap := #[]
def classes : Array Class := #[k0, k1, k2, k3, k4, k5, k6, k7, k8]
def interned : List (Array UInt16 × Addr) := []
def slotsUsed : Nat := 0
def theMethod : MethodId := ⟨1, 2⟩
def args0 : Array Value := #[.int 5]
def aboutOver (below : List Frame) : State where
  vm := { classes := classes, interned := interned.toArray }
  heap := heap
  slotsUsed := slotsUsed
  threads := #[{ frames := .invoking theMethod args0 :: below }]
def below0 : List Frame := [.native { method := ⟨0, 0⟩, args := #[] }]
def about1 : State := aboutOver below0
def p0 : Program := .bare "" "" ""
def e0 : Env := launch0.env 0 0 0
theorem w_frames : about1.frames = Frame.invoking theMethod args0 :: below0 := rfl
set_option maxRecDepth 65536 in
theorem w_args : argsFit about1.vm theMethod args0 = true := by decide +kernel
set_option maxRecDepth 65536 in
theorem w_heap : heapFits about1 = true := by decide +kernel
set_option maxRecDepth 65536 in
theorem w_runnable : about1.curStatus? = some .runnable := by decide +kernel
set_option maxRecDepth 65536 in
theorem w_alone : about1.alone = true := by decide +kernel
set_option maxRecDepth 65536 in
theorem w_named : about1.methodNamed? x = some theMethod := by decide +kernel
set_option maxRecDepth 65536 in
theorem w_hears : about1.hears theMethod below0 = true := by decide +kernel
set_option maxRecDepth 65536 in
theorem w_ripe : about1.ripe theMethod args0 below0 = true := by decide +kernel
theorem w_running : about1.status = .running := rfl
set_option maxRecDepth 65536 in
theorem w_room : about1.hasRoom e0.platform room_1 = true :=
  launch0.hasRoom_least _ room_1 (by decide +kernel) (by decide +kernel) (by decide +kernel) (by decide +kernel) (by decide +kernel) (by decide +kernel)
theorem allAtoms_all (ts : List Jvm.Cond) (a : Array Jvm.Value) (st : Jvm.State) : (allAtoms ts).before a st = ts.all (fun c => c.before a st) := by
  induction ts with
  | nil => rfl
  | cons c t ih =>
    show (Jvm.Cond.and c (allAtoms t)).before a st = _
    rw [Jvm.Cond.before_and, ih, List.all_cons]
def words1 : List Jvm.Cond := Jvm.Cond.code x code maxLocals ret :: tables_1
/-- a 'code' word, met by the world's own term for the bytes: nothing is compared byte by byte -/
theorem code_word {y : MethodName} {bytes : ByteArray} {mx : Nat} {rt : Option FieldType} {a : Array Value} {s : State} {m : MethodId} {meth : Method} {c : Code} (h1 : s.methodNamed? y = some m) (h2 : s.vm.method? m = some meth) (h3 : meth.code = some c) (h4 : c.code = bytes)
    (h5 : (c.maxLocals == mx && c.exceptionTable.isEmpty && decide (c.maxStack ≤ mostOperands) && decide (meth.sig.returnType = rt) && !meth.locks && decide (parseMethodDescriptor y.desc = some meth.sig)) = true) : (Jvm.Cond.code y bytes mx rt).before a s = true := by
  simp only [Bool.and_eq_true, beq_iff_eq, Bool.not_eq_true', decide_eq_true_eq] at h5
  obtain ⟨⟨⟨⟨⟨g1, g2⟩, g3⟩, g4⟩, g5⟩, g6⟩ := h5
  simp [Cond.before, Cond.holds, Cond.value, h1, h2, h3, h4, g1, g2, g3, g4, g5, g6]
def isCode : Jvm.Cond → Bool
  | .code _ _ _ _ => true
  | _ => false
theorem all_split {L : List Jvm.Cond} {P : Jvm.Cond → Bool} (h1 : L.all (fun c => isCode c || P c) = true) (h2 : ∀ c ∈ L.filter isCode, P c = true) : L.all P = true := by
  refine List.all_eq_true.mpr fun c hc => ?_
  have h := List.all_eq_true.mp h1 c hc
  rcases Bool.eq_false_or_eq_true (isCode c) with hi | hi
  · exact h2 c (List.mem_filter.mpr ⟨hc, hi⟩)
  · simpa [hi] using h
set_option maxRecDepth 65536 in
theorem w_c0 : (Jvm.Cond.code x code maxLocals ret).before args0 about1 = true := code_word (m := ⟨1, 2⟩) (meth := k1m2) (c := k1c2) (by decide +kernel) rfl rfl rfl (by decide +kernel)
set_option maxRecDepth 65536 in
theorem w_c1 : (Jvm.Cond.code ({ cls := "com/example/roundsplit/roundsplit/map/KeyHasherSpreadPinLaw", name := "inverse", desc := "(J)J" } : Jvm.MethodName) method_2_code (4 : Nat) (Option.some Jvm.ClassFile.FieldType.long)).before args0 about1 = true := code_word (m := ⟨1, 1⟩) (meth := k1m1) (c := k1c1) (by decide +kernel) rfl rfl rfl (by decide +kernel)
set_option maxRecDepth 65536 in
theorem w_c2 : (Jvm.Cond.code ({ cls := "com/example/roundsplit/roundsplit/map/KeyHasher", name := "spread", desc := "(I)J" } : Jvm.MethodName) prog_26_method_11_code (3 : Nat) (Option.some Jvm.ClassFile.FieldType.long)).before args0 about1 = true := code_word (m := ⟨3, 0⟩) (meth := k3m0) (c := k3c0) (by decide +kernel) rfl rfl rfl (by decide +kernel)
def codes1 : List Jvm.Cond := [Jvm.Cond.code x code maxLocals ret, Jvm.Cond.code ({ cls := "com/example/roundsplit/roundsplit/map/KeyHasherSpreadPinLaw", name := "inverse", desc := "(J)J" } : Jvm.MethodName) method_2_code (4 : Nat) (Option.some Jvm.ClassFile.FieldType.long), Jvm.Cond.code ({ cls := "com/example/roundsplit/roundsplit/map/KeyHasher", name := "spread", desc := "(I)J" } : Jvm.MethodName) prog_26_method_11_code (3 : Nat) (Option.some Jvm.ClassFile.FieldType.long)]
set_option maxRecDepth 65536 in
theorem codes_eq : words1.filter isCode = codes1 := rfl
theorem w_codes : ∀ c ∈ words1.filter isCode, c.before args0 about1 = true := by
  rw [codes_eq]
  intro c hc
  simp only [codes1, List.mem_cons, List.not_mem_nil, or_false] at hc
  rcases hc with rfl | rfl | rfl
  · exact w_c0
  · exact w_c1
  · exact w_c2
set_option maxRecDepth 65536 in
theorem w_t1 : words1.all (fun c => isCode c || c.before args0 about1) = true := by decide +kernel
theorem w_tables : (allAtoms (Jvm.Cond.code x code maxLocals ret :: tables_1)).before args0 about1 = true := by
  rw [allAtoms_all]
  show words1.all (fun c => c.before args0 about1) = true
  refine all_split ?_ w_codes
  rw [w_t1]
set_option maxRecDepth 65536 in
theorem w_case : (Jvm.Cond.and given_1 narrow_1).before args0 about1 = true := by decide +kernel
theorem w_applies : (headSpec (Jvm.Cond.code x code maxLocals ret :: tables_1) room_1).applies x e0.platform about1 = true :=
  (Spec.applies_iff w_frames).mpr ⟨w_running, w_runnable, w_alone, w_named, w_hears, w_ripe, w_room, w_tables⟩
theorem atStart : AtStart classFile x code maxLocals ret World_1 tables_1 room_1 Calls_1 rest_1 Pre_1 launch0 p0 e0 about1 theMethod args0 below0 :=
  ⟨lists_1, trivial, launch0.admits_env _ _ _, launch0.least_env, fairChoices_fair.cas, fairChoices_fair.clock, w_frames, w_args, w_heap, w_applies, trivial, trivial, w_case⟩
end start1
theorem witness_1 : WitnessClaimed_1 := ⟨start1.p0, start1.e0, start1.about1, start1.theMethod, start1.args0, start1.below0, start1.atStart⟩
end Jvm.Pilot.@@N@@
