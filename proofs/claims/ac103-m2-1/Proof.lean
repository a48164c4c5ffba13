import JvmDerived
import JvmDerived.Pilot.@@N@@Statement
import JvmDerived.Pilot.@@N@@Code
set_option linter.unusedVariables false
set_option linter.unusedSimpArgs false
namespace Jvm.RoadKit
open Sem ClassFile Op Lib Jvm.Stand Jvm.Free Jvm.LawKit
section New
variable {p : Program} {l : Launch} {e : Env} {R : Room} {s : State} {m : MethodId} {args : Array Value} {below : List Frame} {meth : Method} {c : Code} {T : State} {locs : List Loc} {cells slots : Nat}
theorem retI (X : Stand p l e R s m args below meth c T locs cells slots) (hx : p.tables.exec = Jvm.exec) {pc : Nat} {Ls : Array Slot} {z : Int32} {rest : List Value} (hret : meth.sig.returnType = some .int) (hd : decode c.code pc = .ok (.ireturn, 1)) {fs : List Frame}
    (hl : ∀ (f : JFrame) (acts : List Action), f.method = m → f.locked = none → f.entered = [] → (doReturn e (T.setTop f) acts (some (.int z))).1 = T.setFrames fs) : Steps p.tables e below (T.setTop (mkF m pc Ls (.int z :: rest))) (T.setFrames fs) := by
  have hm' : T.vm.method? m = some meth := X.method'
  have hn : narrow .int (.int z) = .int z := rfl
  show Steps p.tables e below (T.setTop { method := m, pc := pc, locals := Ls, stack := _ :: rest, locked := none }) _
  jvm_step X.here [X.here.top, hx, hd, hm', hret, hn]
  first | (intro acts; rw [hl _ acts rfl rfl rfl]) | rw [hl _ _ rfl rfl rfl]
  exact Steps.refl _
end New
end Jvm.RoadKit
namespace Jvm.Pilot.@@N@@
open Jvm Jvm.ClassFile Sem Op Lib Jvm.Free Jvm.Stand Jvm.LawKit Jvm.RoadKit Bundle Jvm.Pilot.@@N@@.Jvm.D
theorem own_since (s : State) (n : Nat) : s.Since s.vm n := (State.WarmedH.refl s).since n
theorem own_ready {Z : State} {vm : Vm} {cur : ClassId} {index : Nat} {c : ClassId} {f : Field} (hW : Z.Warmed39 vm) (h : Z.vm.fieldReady cur index c f) : vm.fieldReady cur index c f := by
  obtain ⟨k, i, kc, h1, h2, h3, h4⟩ := h
  obtain ⟨k', a1, a2, -, a4, -⟩ := hW.2.2.2 _ _ h1
  obtain ⟨kc', b1, b2, -⟩ := hW.2.2.2 _ _ h3
  refine ⟨k', i, kc', a1, ?_, b1, ?_⟩
  · rcases a4 index with q | ⟨q, -⟩
    · rw [q]; exact h2
    · rw [h2] at q; cases q
  · rw [b2]; exact h4
theorem own_getR {p : Program} {l : Launch} {e : Env} {R : Room} {s : State} {m : MethodId} {args : Array Value} {below : List Frame} {meth : Method} {c : Code} {T : State} {locs : List Loc} {cells slots : Nat} {Z : State} {a0 : Array Value} {h : Heap}
    (X : Stand p l e R s m args below meth c T locs cells slots) (hx : p.tables.exec = Jvm.exec) (hZ : Z.Warmed39 s.vm) {own O n d : String} {index : Nat} (hown : s.vm.findClass own = some m.cls) (w : (Jvm.Cond.fieldRef own index O n d).before a0 Z = true) (eT : T.heap = h) {a : Addr} {v : Value} (F : Fld Z h a O n d v)
    {g : JFrame} (hg : g.method = m) {rest : List Value} (hs : g.stack = .ref a :: rest) (hd : decode c.code g.pc = .ok (.getfield index, 3)) :
    ∀ target, Steps p.tables e below (T.setTop { g with pc := g.pc + 3, stack := v :: rest }) target → Steps p.tables e below (T.setTop g) target := by
  obtain ⟨cell, cf, k, i, f, h1, h2, h3, h4, h5, h6, h7⟩ := F
  have hownZ : Z.vm.findClass own = some m.cls := by rw [← hZ.alike.findClass]; exact hown
  obtain ⟨c1, k1, i1, f1, g1, g2⟩ := Cond.fieldRef_spec hownZ w
  cases h2.symm.trans g1
  have hr : T.vm.fieldReady m.cls index cf f := own_ready X.warmed.wide (own_ready hZ g2)
  intro target hrest
  subst hg
  jvm_step X.here [hx, hd, getfield.wp_ready (s := T) (f := g) X.here.top hr h3 hs (by rw [eT]; exact h1) h4 h7]
  exact hrest
def own_max (x y : Int64) : Int64 := if x < y then y else x
def own_min (x y : Int64) : Int64 := if y < x then y else x
def own_h (lf : Int64) (me : Int32) : Int32 := if lf < me.toInt64 then (0 : Int32) else (1 : Int32)
theorem own_nb (lf : Int64) (me : Int32) : nar .boolean (own_h lf me) = own_h lf me := by
  unfold own_h
  split <;> decide
theorem own_nn64 (p : Int32) (h : ¬ p < (0 : Int32)) : ¬ (p.toInt64 < (0 : Int64)) := by
  rw [Int64.lt_iff_toInt_lt, c_i2l]
  rw [Int32.lt_iff_toInt_lt] at h
  have h0 : (0 : Int64).toInt = 0 := by decide
  have h1 : (0 : Int32).toInt = 0 := by decide
  rw [h0]; rw [h1] at h
  exact h
theorem own_mask (a : Int32) : ¬ ((a &&& (2147483647 : Int32)) < (0 : Int32)) := by
  have h1 := c_and a (2147483647 : Int32) (by decide)
  rw [Int32.lt_iff_toInt_lt]
  have h0 : (0 : Int32).toInt = 0 := by decide
  rw [h0]
  omega
def own_ia (me d fl : Int32) (b : Int64) : Int64 := if (fl &&& (1 : Int32)) = (0 : Int32) then b &&& (9223372036854775807 : Int64) else own_max (0 : Int64) (me.toInt64 + (d % (3 : Int32)).toInt64)
def own_ot (c d fl : Int32) (ia : Int64) : Int32 := if (fl &&& (2 : Int32)) = (0 : Int32) then c &&& (2147483647 : Int32) else (own_min (2147483647 : Int64) (own_max (0 : Int64) (ia + ((d / (3 : Int32)) % (3 : Int32)).toInt64))).toInt32
theorem own_max0 (y : Int64) : ¬ (own_max (0 : Int64) y < (0 : Int64)) := by
  unfold own_max
  split
  · rename_i h
    exact fun q => Int64.lt_irrefl (Int64.lt_trans h q)
  · exact Int64.lt_irrefl
theorem own_ia0 (me d fl : Int32) (b : Int64) : ¬ (own_ia me d fl b < (0 : Int64)) := by
  unfold own_ia
  split
  · have h1 := c_maskL b (9223372036854775807 : Int64) 63 (by decide) (by decide)
    rw [Int64.lt_iff_toInt_lt]
    have h0 : (0 : Int64).toInt = 0 := by decide
    rw [h0]
    omega
  · exact own_max0 _
theorem own_ot0 (c d fl : Int32) (ia : Int64) : ¬ (own_ot c d fl ia < (0 : Int32)) := by
  unfold own_ot
  split
  · exact own_mask c
  · obtain ⟨y, hy⟩ : ∃ y, y = own_max (0 : Int64) (ia + ((d / (3 : Int32)) % (3 : Int32)).toInt64) := ⟨_, rfl⟩
    have h1 : ¬ (y < (0 : Int64)) := by rw [hy]; exact own_max0 _
    rw [← hy]
    have h3 := c_l2i (own_min (2147483647 : Int64) y)
    have h4 : 0 ≤ (own_min (2147483647 : Int64) y).toInt ∧ (own_min (2147483647 : Int64) y).toInt ≤ 2147483647 := by
      have e1 : (2147483647 : Int64).toInt = 2147483647 := by decide
      have e0 : (0 : Int64).toInt = 0 := by decide
      rw [Int64.lt_iff_toInt_lt, e0] at h1
      unfold own_min
      split
      · rename_i q
        rw [Int64.lt_iff_toInt_lt, e1] at q
        omega
      · rw [e1]; omega
    rw [Int32.lt_iff_toInt_lt]
    have h0 : (0 : Int32).toInt = 0 := by decide
    have h5 := rng32 (own_min (2147483647 : Int64) y).toInt32
    rw [h0]
    omega
theorem own_lone (me : Int32) : own_h (9223372036854775807 : Int64) me = (1 : Int32) := by
  unfold own_h
  rw [if_neg]
  rw [Int64.lt_iff_toInt_lt, c_i2l]
  have e1 : (9223372036854775807 : Int64).toInt = 9223372036854775807 := by decide
  have h := rng32 me
  rw [e1]
  omega
def own_W (Z : State) (h : Heap) (a : Addr) (mx lf : Int64) : Prop := Exa Z h a "com/example/tideline/tideline/storage/UncompressBound$Whole" ∧ Fld Z h a "com/example/tideline/tideline/storage/UncompressBound$Whole" "max" "J" (.long mx) ∧ Fld Z h a "com/example/tideline/tideline/storage/UncompressBound$Whole" "left" "J" (.long lf)
def own_U (Z : State) (h : Heap) (a : Addr) (me : Int32) (wv : Value) : Prop := Exa Z h a "com/example/tideline/tideline/storage/UncompressBound" ∧ Fld Z h a "com/example/tideline/tideline/storage/UncompressBound" "maxEach" "I" (.int me) ∧ Fld Z h a "com/example/tideline/tideline/storage/UncompressBound" "whole" "Lcom/example/tideline/tideline/storage/UncompressBound$Whole;" wv
theorem own_W.keep {Z : State} {h h' : Heap} {a : Addr} {mx lf : Int64} {ws : List Addr} (V : own_W Z h a mx lf) (K : Keep h h' ws) (q : a ∉ ws) : own_W Z h' a mx lf := ⟨V.1.keep K, V.2.1.keep K q, V.2.2.keep K q⟩
theorem own_W.ext {Z : State} {h h' : Heap} {a : Addr} {mx lf : Int64} (V : own_W Z h a mx lf) (E : Ext h h') : own_W Z h' a mx lf := ⟨V.1.ext E, V.2.1.ext E, V.2.2.ext E⟩
theorem own_U.keep {Z : State} {h h' : Heap} {a : Addr} {me : Int32} {wv : Value} {ws : List Addr} (V : own_U Z h a me wv) (K : Keep h h' ws) (q : a ∉ ws) : own_U Z h' a me wv := ⟨V.1.keep K, V.2.1.keep K q, V.2.2.keep K q⟩
theorem own_U.ext {Z : State} {h h' : Heap} {a : Addr} {me : Int32} {wv : Value} (V : own_U Z h a me wv) (E : Ext h h') : own_U Z h' a me wv := ⟨V.1.ext E, V.2.1.ext E, V.2.2.ext E⟩
theorem own_wSa : ∀ d ∈ Bundle.stringAtoms, d ∈ tables_1 := by decide +kernel
theorem d1_0 : decode jdk_29_method_66_code 0 = .ok (.lload_n 0, 1) := by decide +kernel
theorem d1_1 : decode jdk_29_method_66_code 1 = .ok (.lload_n 2, 1) := by decide +kernel
theorem d1_2 : decode jdk_29_method_66_code 2 = .ok (.lcmp, 1) := by decide +kernel
theorem d1_3 : decode jdk_29_method_66_code 3 = .ok (.ifCond .lt 7, 3) := by decide +kernel
theorem d1_6 : decode jdk_29_method_66_code 6 = .ok (.lload_n 0, 1) := by decide +kernel
theorem d1_7 : decode jdk_29_method_66_code 7 = .ok (.goto 4, 3) := by decide +kernel
theorem d1_10 : decode jdk_29_method_66_code 10 = .ok (.lload_n 2, 1) := by decide +kernel
theorem d1_11 : decode jdk_29_method_66_code 11 = .ok (.lreturn, 1) := by decide +kernel
theorem pnf_1 : plainFor (⟨"java/lang/Math", "max", "(JJ)J"⟩ : MethodName) = true := by decide +kernel
theorem ef_1 (m : MethodId) (x0 : Int64) (x1 : Int64) : entryFrame m #[(.long x0), (.long x1)] 4 = mkF m 0 #[.val (.long x0), .second, .val (.long x1), .second] [] := by first | (simp [entryFrame, mkF, argsToLocals, Value.category]; done) | rfl
def Q1 (Z : State) (q1 : Int64) (q2 : Int64) (h0 : Heap) (n0 : Nat) (v : Option Value) (h : Heap) (L : List Loc) : Prop := v = some (.long (own_max q1 q2)) ∧ Fr n0 L ∧ h = h0
set_option maxRecDepth 65536 in
set_option maxHeartbeats 40000000 in
theorem rm1 (l : Launch) (Z : State) (a0 : Array Value) (hw : ∀ d ∈ tables_1, d.before a0 Z = true) (ws : List Jvm.Cond) (q1 : Int64) (q2 : Int64) (h0 : Heap) (n0 : Nat) (Z0 : n0 ≤ h0.size)  :
    MetFree l (⟨"java/lang/Math", "max", "(JJ)J"⟩ : MethodName) (head1 (Jvm.Cond.code (⟨"java/lang/Math", "max", "(JJ)J"⟩ : MethodName) jdk_29_method_66_code 4 (some .long) :: ws) ({ frames := 0, cells := 0, slots := 0, locals := 0 } : Room)) (fun a U => a = #[(.long q1), (.long q2)] ∧ Z.Warmed39 U.vm ∧ U.heap = h0) (fun _ _ _ _ _ => True) (fun _ U o U' => ∃ v L, o = .returned v ∧ Q1 Z q1 q2 h0 n0 v U'.heap L ∧ FrameEnd U o U' L ({ frames := 0, cells := 0, slots := 0, locals := 0 } : Room).cells ({ frames := 0, cells := 0, slots := 0, locals := 0 } : Room).slots) := by
  refine MetFree.of_bodySF pnf_1 hisR ?_
  intro p e s m args below meth c s₁ Bd hml0 hP hK
  obtain ⟨rfl, hZ, hh⟩ := hP
  have hx := Bd.exec
  have hby := Bd.bytes
  have hml : c.maxLocals = 4 := hml0
  have hown : s.vm.findClass "java/lang/Math" = some m.cls := findClass_of_methodNamed Bd.named
  have hnm := (name_of_methodNamed Bd.named Bd.method).1
  have X0 : Stand p l e ({ frames := 0, cells := 0, slots := 0, locals := 0 } : Room) s m #[(.long q1), (.long q2)] below meth c s₁ [] 0 0 := Stand.of_body Bd
  have e0 : s₁.heap = h0 := by rw [← hh, Bd.state]; rfl
  have N0 := Fr.nil n0
  have pre0 : ∀ t, Steps p.tables e below (s₁.setTop (mkF m 0 #[.val (.long q1), .second, .val (.long q2), .second] [])) t → Steps p.tables e below (s₁.setTop (entryFrame m #[(.long q1), (.long q2)] 4)) t := fun t k => castTop (ef_1 m q1 q2) k
  obtain ⟨v2, hv2⟩ : ∃ z : Int64, z = if (q1 < q2) then q2 else q1 := ⟨_, rfl⟩
  obtain ⟨fs, hr, hrun, hended, hW, hsame⟩ := X0.leave (v := some (.long v2)) (fun h => by rw [Bd.returns] at h; cases h)
  refine ⟨_, _, pre0 _ ?_, hrun, hended, _, _, rfl, ?_, ⟨_, rfl⟩, hW, hsame.mono (by decide) (by decide)⟩
  · show Steps p.tables e below (s₁.setTop (mkF m 0 #[.val (.long q1), .second, .val (.long q2), .second] [])) _
    refine XS.lloadN X0.here hx rfl (hb hby d1_0) rfl ?_
    show Steps p.tables e below (s₁.setTop (mkF m 1 #[.val (.long q1), .second, .val (.long q2), .second] [(.long q1)])) _
    refine XS.lloadN X0.here hx rfl (hb hby d1_1) rfl ?_
    show Steps p.tables e below (s₁.setTop (mkF m 2 #[.val (.long q1), .second, .val (.long q2), .second] [(.long q2), (.long q1)])) _
    refine XS.lcmp X0.here hx rfl (hb hby d1_2) rfl ?_
    have sg1 : ∀ t, Steps p.tables e below (s₁.setTop (mkF m 11 #[.val (.long q1), .second, .val (.long q2), .second] [(.long v2)])) t → Steps p.tables e below (s₁.setTop (mkF m 3 #[.val (.long q1), .second, .val (.long q2), .second] [(.int (lcmpW q1 q2))])) t := by
      intro t k
      by_cases hc1 : (q1 < q2)
      · rw [show v2 = q2 from by rw [hv2, if_pos hc1]] at k
        show Steps p.tables e below (s₁.setTop (mkF m 3 #[.val (.long q1), .second, .val (.long q2), .second] [(.int (lcmpW q1 q2))])) _
        refine XS.ifYes X0.here hx rfl (pc0 := 3) (pc' := 10) rfl (hb hby d1_3) rfl ((if0 _ _).trans (tlt ((lw_lt q1 q2).mpr hc1)).1) (by decide) (by decide) ?_
        show Steps p.tables e below (s₁.setTop (mkF m 10 #[.val (.long q1), .second, .val (.long q2), .second] [])) _
        refine XS.lloadN X0.here hx rfl (hb hby d1_10) rfl ?_
        exact k
      · rw [show v2 = q1 from by rw [hv2, if_neg hc1]] at k
        show Steps p.tables e below (s₁.setTop (mkF m 3 #[.val (.long q1), .second, .val (.long q2), .second] [(.int (lcmpW q1 q2))])) _
        refine XS.ifNo X0.here hx rfl (hb hby d1_3) rfl ((if0 _ _).trans (flt (fun q => hc1 ((lw_lt q1 q2).mp q))).1) ?_
        show Steps p.tables e below (s₁.setTop (mkF m 6 #[.val (.long q1), .second, .val (.long q2), .second] [])) _
        refine XS.lloadN X0.here hx rfl (hb hby d1_6) rfl ?_
        show Steps p.tables e below (s₁.setTop (mkF m 7 #[.val (.long q1), .second, .val (.long q2), .second] [(.long q1)])) _
        refine XS.goto X0.here hx rfl (pc0 := 7) (pc' := 11) rfl (hb hby d1_7) (by decide) (by decide) ?_
        exact k
    refine sg1 _ ?_
    show Steps p.tables e below (s₁.setTop (mkF m 11 #[.val (.long q1), .second, .val (.long q2), .second] [(.long v2)])) _
    exact X0.lreturnOut hx Bd.returns (hb hby d1_11) hr
  · show Q1 Z q1 q2 h0 n0 _ s₁.heap _
    rw [e0]
    exact ⟨by rw [hv2]; rfl, N0, rfl⟩
theorem d2_0 : decode jdk_29_method_70_code 0 = .ok (.lload_n 0, 1) := by decide +kernel
theorem d2_1 : decode jdk_29_method_70_code 1 = .ok (.lload_n 2, 1) := by decide +kernel
theorem d2_2 : decode jdk_29_method_70_code 2 = .ok (.lcmp, 1) := by decide +kernel
theorem d2_3 : decode jdk_29_method_70_code 3 = .ok (.ifCond .gt 7, 3) := by decide +kernel
theorem d2_6 : decode jdk_29_method_70_code 6 = .ok (.lload_n 0, 1) := by decide +kernel
theorem d2_7 : decode jdk_29_method_70_code 7 = .ok (.goto 4, 3) := by decide +kernel
theorem d2_10 : decode jdk_29_method_70_code 10 = .ok (.lload_n 2, 1) := by decide +kernel
theorem d2_11 : decode jdk_29_method_70_code 11 = .ok (.lreturn, 1) := by decide +kernel
theorem pnf_2 : plainFor (⟨"java/lang/Math", "min", "(JJ)J"⟩ : MethodName) = true := by decide +kernel
theorem ef_2 (m : MethodId) (x0 : Int64) (x1 : Int64) : entryFrame m #[(.long x0), (.long x1)] 4 = mkF m 0 #[.val (.long x0), .second, .val (.long x1), .second] [] := by first | (simp [entryFrame, mkF, argsToLocals, Value.category]; done) | rfl
def Q2 (Z : State) (q1 : Int64) (q2 : Int64) (h0 : Heap) (n0 : Nat) (v : Option Value) (h : Heap) (L : List Loc) : Prop := v = some (.long (own_min q1 q2)) ∧ Fr n0 L ∧ h = h0
set_option maxRecDepth 65536 in
set_option maxHeartbeats 40000000 in
theorem rm2 (l : Launch) (Z : State) (a0 : Array Value) (hw : ∀ d ∈ tables_1, d.before a0 Z = true) (ws : List Jvm.Cond) (q1 : Int64) (q2 : Int64) (h0 : Heap) (n0 : Nat) (Z0 : n0 ≤ h0.size)  :
    MetFree l (⟨"java/lang/Math", "min", "(JJ)J"⟩ : MethodName) (head1 (Jvm.Cond.code (⟨"java/lang/Math", "min", "(JJ)J"⟩ : MethodName) jdk_29_method_70_code 4 (some .long) :: ws) ({ frames := 0, cells := 0, slots := 0, locals := 0 } : Room)) (fun a U => a = #[(.long q1), (.long q2)] ∧ Z.Warmed39 U.vm ∧ U.heap = h0) (fun _ _ _ _ _ => True) (fun _ U o U' => ∃ v L, o = .returned v ∧ Q2 Z q1 q2 h0 n0 v U'.heap L ∧ FrameEnd U o U' L ({ frames := 0, cells := 0, slots := 0, locals := 0 } : Room).cells ({ frames := 0, cells := 0, slots := 0, locals := 0 } : Room).slots) := by
  refine MetFree.of_bodySF pnf_2 hisR ?_
  intro p e s m args below meth c s₁ Bd hml0 hP hK
  obtain ⟨rfl, hZ, hh⟩ := hP
  have hx := Bd.exec
  have hby := Bd.bytes
  have hml : c.maxLocals = 4 := hml0
  have hown : s.vm.findClass "java/lang/Math" = some m.cls := findClass_of_methodNamed Bd.named
  have hnm := (name_of_methodNamed Bd.named Bd.method).1
  have X0 : Stand p l e ({ frames := 0, cells := 0, slots := 0, locals := 0 } : Room) s m #[(.long q1), (.long q2)] below meth c s₁ [] 0 0 := Stand.of_body Bd
  have e0 : s₁.heap = h0 := by rw [← hh, Bd.state]; rfl
  have N0 := Fr.nil n0
  have pre0 : ∀ t, Steps p.tables e below (s₁.setTop (mkF m 0 #[.val (.long q1), .second, .val (.long q2), .second] [])) t → Steps p.tables e below (s₁.setTop (entryFrame m #[(.long q1), (.long q2)] 4)) t := fun t k => castTop (ef_2 m q1 q2) k
  obtain ⟨v2, hv2⟩ : ∃ z : Int64, z = if (q2 < q1) then q2 else q1 := ⟨_, rfl⟩
  obtain ⟨fs, hr, hrun, hended, hW, hsame⟩ := X0.leave (v := some (.long v2)) (fun h => by rw [Bd.returns] at h; cases h)
  refine ⟨_, _, pre0 _ ?_, hrun, hended, _, _, rfl, ?_, ⟨_, rfl⟩, hW, hsame.mono (by decide) (by decide)⟩
  · show Steps p.tables e below (s₁.setTop (mkF m 0 #[.val (.long q1), .second, .val (.long q2), .second] [])) _
    refine XS.lloadN X0.here hx rfl (hb hby d2_0) rfl ?_
    show Steps p.tables e below (s₁.setTop (mkF m 1 #[.val (.long q1), .second, .val (.long q2), .second] [(.long q1)])) _
    refine XS.lloadN X0.here hx rfl (hb hby d2_1) rfl ?_
    show Steps p.tables e below (s₁.setTop (mkF m 2 #[.val (.long q1), .second, .val (.long q2), .second] [(.long q2), (.long q1)])) _
    refine XS.lcmp X0.here hx rfl (hb hby d2_2) rfl ?_
    have sg1 : ∀ t, Steps p.tables e below (s₁.setTop (mkF m 11 #[.val (.long q1), .second, .val (.long q2), .second] [(.long v2)])) t → Steps p.tables e below (s₁.setTop (mkF m 3 #[.val (.long q1), .second, .val (.long q2), .second] [(.int (lcmpW q1 q2))])) t := by
      intro t k
      by_cases hc1 : (q2 < q1)
      · rw [show v2 = q2 from by rw [hv2, if_pos hc1]] at k
        show Steps p.tables e below (s₁.setTop (mkF m 3 #[.val (.long q1), .second, .val (.long q2), .second] [(.int (lcmpW q1 q2))])) _
        refine XS.ifYes X0.here hx rfl (pc0 := 3) (pc' := 10) rfl (hb hby d2_3) rfl ((if0 _ _).trans (tlt ((lw_gt q1 q2).mpr hc1)).2.2.1) (by decide) (by decide) ?_
        show Steps p.tables e below (s₁.setTop (mkF m 10 #[.val (.long q1), .second, .val (.long q2), .second] [])) _
        refine XS.lloadN X0.here hx rfl (hb hby d2_10) rfl ?_
        exact k
      · rw [show v2 = q1 from by rw [hv2, if_neg hc1]] at k
        show Steps p.tables e below (s₁.setTop (mkF m 3 #[.val (.long q1), .second, .val (.long q2), .second] [(.int (lcmpW q1 q2))])) _
        refine XS.ifNo X0.here hx rfl (hb hby d2_3) rfl ((if0 _ _).trans (flt (fun q => hc1 ((lw_gt q1 q2).mp q))).2.2.1) ?_
        show Steps p.tables e below (s₁.setTop (mkF m 6 #[.val (.long q1), .second, .val (.long q2), .second] [])) _
        refine XS.lloadN X0.here hx rfl (hb hby d2_6) rfl ?_
        show Steps p.tables e below (s₁.setTop (mkF m 7 #[.val (.long q1), .second, .val (.long q2), .second] [(.long q1)])) _
        refine XS.goto X0.here hx rfl (pc0 := 7) (pc' := 11) rfl (hb hby d2_7) (by decide) (by decide) ?_
        exact k
    refine sg1 _ ?_
    show Steps p.tables e below (s₁.setTop (mkF m 11 #[.val (.long q1), .second, .val (.long q2), .second] [(.long v2)])) _
    exact X0.lreturnOut hx Bd.returns (hb hby d2_11) hr
  · show Q2 Z q1 q2 h0 n0 _ s₁.heap _
    rw [e0]
    exact ⟨by rw [hv2]; rfl, N0, rfl⟩
theorem d4_0 : decode prog_382_method_1_code 0 = .ok (.aload_n 0, 1) := by decide +kernel
theorem d4_1 : decode prog_382_method_1_code 1 = .ok (.invokespecial 1, 3) := by decide +kernel
theorem d4_4 : decode prog_382_method_1_code 4 = .ok (.aload_n 0, 1) := by decide +kernel
theorem d4_5 : decode prog_382_method_1_code 5 = .ok (.lload_n 1, 1) := by decide +kernel
theorem d4_6 : decode prog_382_method_1_code 6 = .ok (.putfield 7, 3) := by decide +kernel
theorem d4_9 : decode prog_382_method_1_code 9 = .ok (.aload_n 0, 1) := by decide +kernel
theorem d4_10 : decode prog_382_method_1_code 10 = .ok (.lload_n 1, 1) := by decide +kernel
theorem d4_11 : decode prog_382_method_1_code 11 = .ok (.putfield 13, 3) := by decide +kernel
theorem d4_14 : decode prog_382_method_1_code 14 = .ok (.return_, 1) := by decide +kernel
theorem pn_4 : plainName "com/example/tideline/tideline/storage/UncompressBound$Whole" = true := by first | (simp [plainName, overriddenIn]; done) | decide +kernel
theorem ef_4 (m : MethodId) (x0 : Addr) (x1 : Int64) : entryFrame m #[(.ref x0), (.long x1)] 3 = mkF m 0 #[.val (.ref x0), .val (.long x1), .second] [] := by first | (simp [entryFrame, mkF, argsToLocals, Value.category]; done) | rfl
def Q4 (Z : State) (a1 : Addr) (q2 : Int64) (h0 : Heap) (n0 : Nat) (v : Option Value) (h : Heap) (L : List Loc) : Prop := v = none ∧ Fr n0 L ∧ Keep h0 h [a1] ∧ own_W Z h a1 q2 q2
set_option maxRecDepth 65536 in
set_option maxHeartbeats 40000000 in
theorem rm4 (l : Launch) (Z : State) (a0 : Array Value) (hw : ∀ d ∈ tables_1, d.before a0 Z = true) (ws : List Jvm.Cond) (a1 : Addr) (q2 : Int64) (h0 : Heap) (n0 : Nat) (Z0 : n0 ≤ h0.size) (HC : own_W Z h0 a1 0 0) (g_a1 : n0 ≤ a1) :
    MetFree l (⟨"com/example/tideline/tideline/storage/UncompressBound$Whole", "<init>", "(J)V"⟩ : MethodName) (head1 (Jvm.Cond.code (⟨"com/example/tideline/tideline/storage/UncompressBound$Whole", "<init>", "(J)V"⟩ : MethodName) prog_382_method_1_code 3 none :: ws) ({ frames := 1, cells := 0, slots := 0, locals := 12 } : Room)) (fun a U => a = #[(.ref a1), (.long q2)] ∧ Z.Warmed39 U.vm ∧ U.heap = h0) (fun _ _ _ _ _ => True) (fun _ U o U' => ∃ v L, o = .returned v ∧ Q4 Z a1 q2 h0 n0 v U'.heap L ∧ FrameEnd U o U' L ({ frames := 1, cells := 0, slots := 0, locals := 12 } : Room).cells ({ frames := 1, cells := 0, slots := 0, locals := 12 } : Room).slots) := by
  refine MetFree.of_bodySF (plainFor_of_name pn_4) hisR ?_
  intro p e s m args below meth c s₁ Bd hml0 hP hK
  obtain ⟨rfl, hZ, hh⟩ := hP
  have hx := Bd.exec
  have hby := Bd.bytes
  have hml : c.maxLocals = 3 := hml0
  have hown : s.vm.findClass "com/example/tideline/tideline/storage/UncompressBound$Whole" = some m.cls := findClass_of_methodNamed Bd.named
  have hnm := (name_of_methodNamed Bd.named Bd.method).1
  have X0 : Stand p l e ({ frames := 1, cells := 0, slots := 0, locals := 12 } : Room) s m #[(.ref a1), (.long q2)] below meth c s₁ [] 0 0 := Stand.of_body Bd
  have e0 : s₁.heap = h0 := by rw [← hh, Bd.state]; rfl
  have N0 := Fr.nil n0
  have pre0 : ∀ t, Steps p.tables e below (s₁.setTop (mkF m 0 #[.val (.ref a1), .val (.long q2), .second] [])) t → Steps p.tables e below (s₁.setTop (entryFrame m #[(.ref a1), (.long q2)] 3)) t := fun t k => castTop (ef_4 m a1 q2) k
  obtain ⟨Ex0, F0_max, F0_left⟩ := id HC
  obtain ⟨T1, X1, e1, st1⟩ := initO X0 hx hZ hown (hw _ (List.mem_of_getElem? (i := 21) rfl)) (hw _ (List.mem_of_getElem? (i := 22) rfl)) (hw _ (List.mem_of_getElem? (i := 23) rfl)) e0 (g := (mkF m 1 #[.val (.ref a1), .val (.long q2), .second] [(.ref a1)])) rfl (by rw [hml]; rfl) rfl (hb hby d4_1) (by decide) (W := 0) (by show 2 * 0 + _ ≤ _; exact Nat.le_of_eq rfl) (by decide)
  obtain ⟨T2, h2, X2, e2, W2, st2⟩ := putF X1 hx hZ hown (host := "") (Or.inl (hw _ (List.mem_of_getElem? (i := 24) rfl))) Via.refl e1 F0_max Ex0 (Or.inr ⟨(hw _ (List.mem_of_getElem? (i := 25) rfl)), rfl, hnm⟩) (hw _ (List.mem_of_getElem? (i := 16) rfl)) (ty := .long) (by decide) rfl rfl (g := (mkF m 6 #[.val (.ref a1), .val (.long q2), .second] [(.long q2), (.ref a1)])) rfl rfl (hb hby d4_6)
  have F2_max : Fld Z h2 a1 "com/example/tideline/tideline/storage/UncompressBound$Whole" "max" "J" (.long q2) := (F0_max).same W2
  have F2_left : Fld Z h2 a1 "com/example/tideline/tideline/storage/UncompressBound$Whole" "left" "J" (.long (0 : Int64)) := (F0_left).other W2 (Or.inr (slot_ne (Or.inl (hw _ (List.mem_of_getElem? (i := 27) rfl))) (Or.inr (hw _ (List.mem_of_getElem? (i := 25) rfl))) (by decide) (t := .long) (t' := .long) (by decide) (by decide)))
  have Ex2 : Exa Z h2 a1 "com/example/tideline/tideline/storage/UncompressBound$Whole" := (Ex0).wr W2
  have K2 : Keep h0 h2 [a1] := (Keep.refl h0 [a1]).wr W2 (Or.inl (List.mem_of_getElem? (i := 0) rfl))
  have N2 := Fr.snoc X2 N0 g_a1
  obtain ⟨T3, h3, X3, e3, W3, st3⟩ := putF X2 hx hZ hown (host := "") (Or.inl (hw _ (List.mem_of_getElem? (i := 26) rfl))) Via.refl e2 F2_left Ex2 (Or.inl (hw _ (List.mem_of_getElem? (i := 27) rfl))) (hw _ (List.mem_of_getElem? (i := 16) rfl)) (ty := .long) (by decide) rfl rfl (g := (mkF m 11 #[.val (.ref a1), .val (.long q2), .second] [(.long q2), (.ref a1)])) rfl rfl (hb hby d4_11)
  have F3_max : Fld Z h3 a1 "com/example/tideline/tideline/storage/UncompressBound$Whole" "max" "J" (.long q2) := (F2_max).other W3 (Or.inr (slot_ne (Or.inr (hw _ (List.mem_of_getElem? (i := 25) rfl))) (Or.inl (hw _ (List.mem_of_getElem? (i := 27) rfl))) (by decide) (t := .long) (t' := .long) (by decide) (by decide)))
  have F3_left : Fld Z h3 a1 "com/example/tideline/tideline/storage/UncompressBound$Whole" "left" "J" (.long q2) := (F2_left).same W3
  have Ex3 : Exa Z h3 a1 "com/example/tideline/tideline/storage/UncompressBound$Whole" := (Ex2).wr W3
  have K3 : Keep h0 h3 [a1] := K2.wr W3 (Or.inl (List.mem_of_getElem? (i := 0) rfl))
  have N3 := Fr.snoc X3 N2 g_a1
  obtain ⟨fs, hr, hrun, hended, hW, hsame⟩ := X3.leave (v := none) (fun _ => rfl)
  refine ⟨_, _, pre0 _ ?_, hrun, hended, _, _, rfl, ?_, ⟨_, rfl⟩, hW, hsame.mono (by decide) (by decide)⟩
  · show Steps p.tables e below (s₁.setTop (mkF m 0 #[.val (.ref a1), .val (.long q2), .second] [])) _
    refine XS.aloadN X0.here hx rfl (hb hby d4_0) rfl rfl ?_
    show Steps p.tables e below (s₁.setTop (mkF m 1 #[.val (.ref a1), .val (.long q2), .second] [(.ref a1)])) _
    refine st1 _ ?_
    show Steps p.tables e below (T1.setTop (mkF m 4 #[.val (.ref a1), .val (.long q2), .second] [])) _
    refine XS.aloadN X1.here hx rfl (hb hby d4_4) rfl rfl ?_
    show Steps p.tables e below (T1.setTop (mkF m 5 #[.val (.ref a1), .val (.long q2), .second] [(.ref a1)])) _
    refine XS.lloadN X1.here hx rfl (hb hby d4_5) rfl ?_
    show Steps p.tables e below (T1.setTop (mkF m 6 #[.val (.ref a1), .val (.long q2), .second] [(.long q2), (.ref a1)])) _
    refine st2 _ ?_
    show Steps p.tables e below (T2.setTop (mkF m 9 #[.val (.ref a1), .val (.long q2), .second] [])) _
    refine XS.aloadN X2.here hx rfl (hb hby d4_9) rfl rfl ?_
    show Steps p.tables e below (T2.setTop (mkF m 10 #[.val (.ref a1), .val (.long q2), .second] [(.ref a1)])) _
    refine XS.lloadN X2.here hx rfl (hb hby d4_10) rfl ?_
    show Steps p.tables e below (T2.setTop (mkF m 11 #[.val (.ref a1), .val (.long q2), .second] [(.long q2), (.ref a1)])) _
    refine st3 _ ?_
    show Steps p.tables e below (T3.setTop (mkF m 14 #[.val (.ref a1), .val (.long q2), .second] [])) _
    exact X3.returnOut hx Bd.returns (hb hby d4_14) hr
  · show Q4 Z a1 q2 h0 n0 _ T3.heap _
    rw [e3]
    exact ⟨rfl, N3, K3, Ex3, F3_max, F3_left⟩
theorem d7_0 : decode prog_381_method_4_code 0 = .ok (.lload_n 0, 1) := by decide +kernel
theorem d7_1 : decode prog_381_method_4_code 1 = .ok (.lconst 0, 1) := by decide +kernel
theorem d7_2 : decode prog_381_method_4_code 2 = .ok (.lcmp, 1) := by decide +kernel
theorem d7_3 : decode prog_381_method_4_code 3 = .ok (.ifCond .ge 18, 3) := by decide +kernel
theorem d7_21 : decode prog_381_method_4_code 21 = .ok (.return_, 1) := by decide +kernel
theorem pn_7 : plainName "com/example/tideline/tideline/storage/UncompressBound" = true := by first | (simp [plainName, overriddenIn]; done) | decide +kernel
theorem ef_7 (m : MethodId) (x0 : Int64) (x1 : Addr) : entryFrame m #[(.long x0), (.ref x1)] 3 = mkF m 0 #[.val (.long x0), .second, .val (.ref x1)] [] := by first | (simp [entryFrame, mkF, argsToLocals, Value.category]; done) | rfl
def Q7 (Z : State) (q1 : Int64) (a2 : Addr) (h0 : Heap) (n0 : Nat) (v : Option Value) (h : Heap) (L : List Loc) : Prop := v = none ∧ Fr n0 L ∧ h = h0
set_option maxRecDepth 65536 in
set_option maxHeartbeats 40000000 in
theorem rm7 (l : Launch) (Z : State) (a0 : Array Value) (hw : ∀ d ∈ tables_1, d.before a0 Z = true) (ws : List Jvm.Cond) (q1 : Int64) (a2 : Addr) (h0 : Heap) (n0 : Nat) (Z0 : n0 ≤ h0.size) (hq : ¬ (q1 < (0 : Int64))) :
    MetFree l (⟨"com/example/tideline/tideline/storage/UncompressBound", "refuseNegative", "(JLjava/lang/String;)V"⟩ : MethodName) (head1 (Jvm.Cond.code (⟨"com/example/tideline/tideline/storage/UncompressBound", "refuseNegative", "(JLjava/lang/String;)V"⟩ : MethodName) prog_381_method_4_code 3 none :: ws) ({ frames := 0, cells := 0, slots := 0, locals := 0 } : Room)) (fun a U => a = #[(.long q1), (.ref a2)] ∧ Z.Warmed39 U.vm ∧ U.heap = h0) (fun _ _ _ _ _ => True) (fun _ U o U' => ∃ v L, o = .returned v ∧ Q7 Z q1 a2 h0 n0 v U'.heap L ∧ FrameEnd U o U' L ({ frames := 0, cells := 0, slots := 0, locals := 0 } : Room).cells ({ frames := 0, cells := 0, slots := 0, locals := 0 } : Room).slots) := by
  refine MetFree.of_bodySF (plainFor_of_name pn_7) hisR ?_
  intro p e s m args below meth c s₁ Bd hml0 hP hK
  obtain ⟨rfl, hZ, hh⟩ := hP
  have hx := Bd.exec
  have hby := Bd.bytes
  have hml : c.maxLocals = 3 := hml0
  have hown : s.vm.findClass "com/example/tideline/tideline/storage/UncompressBound" = some m.cls := findClass_of_methodNamed Bd.named
  have hnm := (name_of_methodNamed Bd.named Bd.method).1
  have X0 : Stand p l e ({ frames := 0, cells := 0, slots := 0, locals := 0 } : Room) s m #[(.long q1), (.ref a2)] below meth c s₁ [] 0 0 := Stand.of_body Bd
  have e0 : s₁.heap = h0 := by rw [← hh, Bd.state]; rfl
  have N0 := Fr.nil n0
  have pre0 : ∀ t, Steps p.tables e below (s₁.setTop (mkF m 0 #[.val (.long q1), .second, .val (.ref a2)] [])) t → Steps p.tables e below (s₁.setTop (entryFrame m #[(.long q1), (.ref a2)] 3)) t := fun t k => castTop (ef_7 m q1 a2) k
  obtain ⟨fs, hr, hrun, hended, hW, hsame⟩ := X0.leave (v := none) (fun _ => rfl)
  refine ⟨_, _, pre0 _ ?_, hrun, hended, _, _, rfl, ?_, ⟨_, rfl⟩, hW, hsame.mono (by decide) (by decide)⟩
  · show Steps p.tables e below (s₁.setTop (mkF m 0 #[.val (.long q1), .second, .val (.ref a2)] [])) _
    refine XS.lloadN X0.here hx rfl (hb hby d7_0) rfl ?_
    show Steps p.tables e below (s₁.setTop (mkF m 1 #[.val (.long q1), .second, .val (.ref a2)] [(.long q1)])) _
    refine XS.lconst X0.here hx rfl (hb hby d7_1) ?_
    show Steps p.tables e below (s₁.setTop (mkF m 2 #[.val (.long q1), .second, .val (.ref a2)] [(.long (0 : Int64)), (.long q1)])) _
    refine XS.lcmp X0.here hx rfl (hb hby d7_2) rfl ?_
    show Steps p.tables e below (s₁.setTop (mkF m 3 #[.val (.long q1), .second, .val (.ref a2)] [(.int (lcmpW q1 (0 : Int64)))])) _
    refine XS.ifYes X0.here hx rfl (pc0 := 3) (pc' := 21) rfl (hb hby d7_3) rfl ((if0 _ _).trans (flt (fun q => hq ((lw_lt q1 (0 : Int64)).mp q))).2.1) (by decide) (by decide) ?_
    show Steps p.tables e below (s₁.setTop (mkF m 21 #[.val (.long q1), .second, .val (.ref a2)] [])) _
    exact X0.returnOut hx Bd.returns (hb hby d7_21) hr
  · show Q7 Z q1 a2 h0 n0 _ s₁.heap _
    rw [e0]
    exact ⟨rfl, N0, rfl⟩
theorem d6_0 : decode prog_381_method_3_code 0 = .ok (.aload_n 0, 1) := by decide +kernel
theorem d6_1 : decode prog_381_method_3_code 1 = .ok (.invokespecial 25, 3) := by decide +kernel
theorem d6_4 : decode prog_381_method_3_code 4 = .ok (.iload_n 1, 1) := by decide +kernel
theorem d6_5 : decode prog_381_method_3_code 5 = .ok (.i2l, 1) := by decide +kernel
theorem d6_6 : decode prog_381_method_3_code 6 = .ok (.ldc 30, 2) := by decide +kernel
theorem d6_8 : decode prog_381_method_3_code 8 = .ok (.invokestatic 21, 3) := by decide +kernel
theorem d6_11 : decode prog_381_method_3_code 11 = .ok (.aload_n 0, 1) := by decide +kernel
theorem d6_12 : decode prog_381_method_3_code 12 = .ok (.iload_n 1, 1) := by decide +kernel
theorem d6_13 : decode prog_381_method_3_code 13 = .ok (.putfield 32, 3) := by decide +kernel
theorem d6_16 : decode prog_381_method_3_code 16 = .ok (.aload_n 0, 1) := by decide +kernel
theorem d6_17 : decode prog_381_method_3_code 17 = .ok (.aload_n 2, 1) := by decide +kernel
theorem d6_18 : decode prog_381_method_3_code 18 = .ok (.putfield 36, 3) := by decide +kernel
theorem d6_21 : decode prog_381_method_3_code 21 = .ok (.return_, 1) := by decide +kernel
theorem pd_6_0 : parseMethodDescriptor "(JLjava/lang/String;)V" = some ⟨[.long, (.object "java/lang/String")], none⟩ := by decide +kernel
theorem pn_6 : plainName "com/example/tideline/tideline/storage/UncompressBound" = true := by first | (simp [plainName, overriddenIn]; done) | decide +kernel
theorem ef_6 (m : MethodId) (x0 : Addr) (x1 : Int32) (x2 : Addr) : entryFrame m #[(.ref x0), (.int x1), (.ref x2)] 3 = mkF m 0 #[.val (.ref x0), .val (.int x1), .val (.ref x2)] [] := by first | (simp [entryFrame, mkF, argsToLocals, Value.category]; done) | rfl
def Q6 (Z : State) (a1 : Addr) (p2 : Int32) (a3 : Addr) (h0 : Heap) (n0 : Nat) (v : Option Value) (h : Heap) (L : List Loc) : Prop := v = none ∧ Fr n0 L ∧ Keep h0 h [a1] ∧ own_U Z h a1 p2 (.ref a3)
set_option maxRecDepth 65536 in
set_option maxHeartbeats 40000000 in
theorem rm6 (l : Launch) (Z : State) (a0 : Array Value) (hw : ∀ d ∈ tables_1, d.before a0 Z = true) (ws : List Jvm.Cond) (a1 : Addr) (p2 : Int32) (a3 : Addr) (h0 : Heap) (n0 : Nat) (Z0 : n0 ≤ h0.size) (HC : own_U Z h0 a1 0 .null) (g_a1 : n0 ≤ a1) (hp : ¬ (p2 < (0 : Int32))) :
    MetFree l (⟨"com/example/tideline/tideline/storage/UncompressBound", "<init>", "(ILcom/example/tideline/tideline/storage/UncompressBound$Whole;)V"⟩ : MethodName) (head1 (Jvm.Cond.code (⟨"com/example/tideline/tideline/storage/UncompressBound", "<init>", "(ILcom/example/tideline/tideline/storage/UncompressBound$Whole;)V"⟩ : MethodName) prog_381_method_3_code 3 none :: ws) ({ frames := 1, cells := 2, slots := 28, locals := 14 } : Room)) (fun a U => a = #[(.ref a1), (.int p2), (.ref a3)] ∧ Z.Warmed39 U.vm ∧ U.heap = h0) (fun _ _ _ _ _ => True) (fun _ U o U' => ∃ v L, o = .returned v ∧ Q6 Z a1 p2 a3 h0 n0 v U'.heap L ∧ ReturnedEndW U o U' L ({ frames := 1, cells := 2, slots := 28, locals := 14 } : Room).cells ({ frames := 1, cells := 2, slots := 28, locals := 14 } : Room).slots) := by
  refine MetFree.of_bodySF (plainFor_of_name pn_6) hisR ?_
  intro p e s m args below meth c s₁ Bd hml0 hP hK
  obtain ⟨rfl, hZ, hh⟩ := hP
  have hx := Bd.exec
  have hby := Bd.bytes
  have hml : c.maxLocals = 3 := hml0
  have hown : s.vm.findClass "com/example/tideline/tideline/storage/UncompressBound" = some m.cls := findClass_of_methodNamed Bd.named
  have hnm := (name_of_methodNamed Bd.named Bd.method).1
  have X0 : Stand p l e ({ frames := 1, cells := 2, slots := 28, locals := 14 } : Room) s m #[(.ref a1), (.int p2), (.ref a3)] below meth c s₁ [] 0 0 := Stand.of_body Bd
  have e0 : s₁.heap = h0 := by rw [← hh, Bd.state]; rfl
  have N0 := Fr.nil n0
  have pre0 : ∀ t, Steps p.tables e below (s₁.setTop (mkF m 0 #[.val (.ref a1), .val (.int p2), .val (.ref a3)] [])) t → Steps p.tables e below (s₁.setTop (entryFrame m #[(.ref a1), (.int p2), (.ref a3)] 3)) t := fun t k => castTop (ef_6 m a1 p2 a3) k
  have own_wS : ∀ a ∈ Bundle.stringAtoms, a.before a0 Z = true := fun d hd => hw d (own_wSa d hd)
  obtain ⟨Ex0, F0_maxEach, F0_whole⟩ := id HC
  obtain ⟨T1, X1, e1, st1⟩ := initO X0 hx hZ hown (hw _ (List.mem_of_getElem? (i := 31) rfl)) (hw _ (List.mem_of_getElem? (i := 22) rfl)) (hw _ (List.mem_of_getElem? (i := 23) rfl)) e0 (g := (mkF m 1 #[.val (.ref a1), .val (.int p2), .val (.ref a3)] [(.ref a1)])) rfl (by rw [hml]; rfl) rfl (hb hby d6_1) (by decide) (W := 0) (by show 2 * 0 + _ ≤ _; exact Nat.le_of_eq rfl) (by decide)
  have hS0 : s.Since s.vm h0.size := own_since s _
  obtain ⟨c1, T2, h2, kk2, X2, e2, E2, hS2, hk2, hZ2, hown2, st2⟩ := ldcS (s := s) (vm0 := s.vm) X1 hx hZ hown (hw _ (List.mem_of_getElem? (i := 32) rfl)) own_wS e1 hS0 (Nat.le_refl _) (g := (mkF m 6 #[.val (.ref a1), .val (.int p2), .val (.ref a3)] [(.long (p2.toInt64))])) rfl (hb hby d6_6) (n := 24) (by decide) (by decide) (by decide) (by decide)
  have Ex1 := Ex0.ext E2
  have F1_maxEach := F0_maxEach.ext E2
  have F1_whole := F0_whole.ext E2
  have Z1 : n0 ≤ h2.size := Nat.le_trans Z0 E2.1
  have K0 : Keep h0 h2 [a1] := (Keep.refl h0 [a1]).ext E2
  obtain ⟨_, _, ⟨T3, L3, k3, n3⟩, -, X3, ⟨Lc3, hQ3, l3, y3, z3⟩, st3⟩ := Jvm.LawKit.callS X2 hx (y := (⟨"com/example/tideline/tideline/storage/UncompressBound", "refuseNegative", "(JLjava/lang/String;)V"⟩ : MethodName)) hown2 (mvT hZ2 (hw _ (List.mem_of_getElem? (i := 40) rfl))) (mvT hZ2 (hw _ (List.mem_of_getElem? (i := 41) rfl))) (mvT hZ2 (hw _ (List.mem_of_getElem? (i := 11) rfl))) (mvT hZ2 (hw _ (List.mem_of_getElem? (i := 42) rfl))) (by decide) (backOf (W := 0) (rm7 l Z a0 hw [] (p2.toInt64) c1 h2 n0 Z1 (own_nn64 p2 hp)) hZ2 (hw _ (List.mem_of_getElem? (i := 42) rfl)) (hw _ (List.mem_of_getElem? (i := 11) rfl)) (by decide) (by decide)) (g := (mkF m 8 #[.val (.ref a1), .val (.int p2), .val (.ref a3)] [(.ref c1), (.long (p2.toInt64))])) rfl (by rw [hml]; rfl) (argsL := [(.long (p2.toInt64)), (.ref c1)]) (rest := []) (lenOf pd_6_0 rfl) rfl (by show 2 * 0 + _ ≤ _; exact Nat.le_of_eq rfl) (hb hby d6_8) (fun _ _ => ⟨rfl, e2, (by decide : 2 + 0 ≤ _), (by decide : 28 + 0 ≤ _)⟩)
  dsimp only [Pt.U, Pt.locs, Pt.cells, Pt.slots] at X3 l3 y3 z3 st3 hQ3
  subst l3 y3 z3
  obtain ⟨rfl, N3q, e3⟩ := hQ3
  have N3 := Fr.app N0 N3q
  obtain ⟨T4, h4, X4, e4, W4, st4⟩ := putF X3 hx hZ2 hown2 (host := "") (Or.inl (hw _ (List.mem_of_getElem? (i := 43) rfl))) Via.refl e3 F1_maxEach Ex1 (Or.inr ⟨(hw _ (List.mem_of_getElem? (i := 44) rfl)), rfl, hnm⟩) (hw _ (List.mem_of_getElem? (i := 10) rfl)) (ty := .int) (by decide) rfl rfl (g := (mkF m 13 #[.val (.ref a1), .val (.int p2), .val (.ref a3)] [(.int p2), (.ref a1)])) rfl rfl (hb hby d6_13)
  have F4_maxEach : Fld Z h4 a1 "com/example/tideline/tideline/storage/UncompressBound" "maxEach" "I" (.int p2) := (F1_maxEach).same W4
  have F4_whole : Fld Z h4 a1 "com/example/tideline/tideline/storage/UncompressBound" "whole" "Lcom/example/tideline/tideline/storage/UncompressBound$Whole;" .null := (F1_whole).other W4 (Or.inr (slot_ne (Or.inr (hw _ (List.mem_of_getElem? (i := 46) rfl))) (Or.inr (hw _ (List.mem_of_getElem? (i := 44) rfl))) (by decide) (t := (.object "com/example/tideline/tideline/storage/UncompressBound$Whole")) (t' := .int) (by decide) (by decide)))
  have Ex4 : Exa Z h4 a1 "com/example/tideline/tideline/storage/UncompressBound" := (Ex1).wr W4
  have K4 : Keep h0 h4 [a1] := K0.wr W4 (Or.inl (List.mem_of_getElem? (i := 0) rfl))
  have N4 := Fr.snoc X4 N3 g_a1
  have hk4 := Nat.le_trans hk2 (Keep.of_wr W4).1
  obtain ⟨T5, h5, X5, e5, W5, st5⟩ := putF X4 hx hZ2 hown2 (host := "") (Or.inl (hw _ (List.mem_of_getElem? (i := 45) rfl))) Via.refl e4 F4_whole Ex4 (Or.inr ⟨(hw _ (List.mem_of_getElem? (i := 46) rfl)), rfl, hnm⟩) (hw _ (List.mem_of_getElem? (i := 10) rfl)) (ty := (.object "com/example/tideline/tideline/storage/UncompressBound$Whole")) (by decide) rfl rfl (g := (mkF m 18 #[.val (.ref a1), .val (.int p2), .val (.ref a3)] [(.ref a3), (.ref a1)])) rfl rfl (hb hby d6_18)
  have F5_maxEach : Fld Z h5 a1 "com/example/tideline/tideline/storage/UncompressBound" "maxEach" "I" (.int p2) := (F4_maxEach).other W5 (Or.inr (slot_ne (Or.inr (hw _ (List.mem_of_getElem? (i := 44) rfl))) (Or.inr (hw _ (List.mem_of_getElem? (i := 46) rfl))) (by decide) (t := .int) (t' := (.object "com/example/tideline/tideline/storage/UncompressBound$Whole")) (by decide) (by decide)))
  have F5_whole : Fld Z h5 a1 "com/example/tideline/tideline/storage/UncompressBound" "whole" "Lcom/example/tideline/tideline/storage/UncompressBound$Whole;" (.ref a3) := (F4_whole).same W5
  have Ex5 : Exa Z h5 a1 "com/example/tideline/tideline/storage/UncompressBound" := (Ex4).wr W5
  have K5 : Keep h0 h5 [a1] := K4.wr W5 (Or.inl (List.mem_of_getElem? (i := 0) rfl))
  have N5 := Fr.snoc X5 N4 g_a1
  have hk5 := Nat.le_trans hk4 (Keep.of_wr W5).1
  obtain ⟨fs, hr, hrun, hended, hRE⟩ := Jvm.Stand.leaveW (s := s) (vm₁ := T2.vm) X5 hS2 (by rw [e5]; exact hk5) (v := none) (fun _ => rfl)
  refine ⟨_, _, pre0 _ ?_, hrun, hended, _, _, rfl, ?_, hRE.1, hRE.2.1, hRE.2.2.1, hRE.2.2.2.mono (by decide) (by decide)⟩
  · show Steps p.tables e below (s₁.setTop (mkF m 0 #[.val (.ref a1), .val (.int p2), .val (.ref a3)] [])) _
    refine XS.aloadN X0.here hx rfl (hb hby d6_0) rfl rfl ?_
    show Steps p.tables e below (s₁.setTop (mkF m 1 #[.val (.ref a1), .val (.int p2), .val (.ref a3)] [(.ref a1)])) _
    refine st1 _ ?_
    show Steps p.tables e below (T1.setTop (mkF m 4 #[.val (.ref a1), .val (.int p2), .val (.ref a3)] [])) _
    refine XS.iloadN X1.here hx rfl (hb hby d6_4) rfl ?_
    show Steps p.tables e below (T1.setTop (mkF m 5 #[.val (.ref a1), .val (.int p2), .val (.ref a3)] [(.int p2)])) _
    refine XS.i2l X1.here hx rfl (hb hby d6_5) rfl ?_
    show Steps p.tables e below (T1.setTop (mkF m 6 #[.val (.ref a1), .val (.int p2), .val (.ref a3)] [(.long (p2.toInt64))])) _
    refine st2 _ ?_
    show Steps p.tables e below (T2.setTop (mkF m 8 #[.val (.ref a1), .val (.int p2), .val (.ref a3)] [(.ref c1), (.long (p2.toInt64))])) _
    refine st3 _ ?_
    show Steps p.tables e below (T3.setTop (mkF m 11 #[.val (.ref a1), .val (.int p2), .val (.ref a3)] [])) _
    refine XS.aloadN X3.here hx rfl (hb hby d6_11) rfl rfl ?_
    show Steps p.tables e below (T3.setTop (mkF m 12 #[.val (.ref a1), .val (.int p2), .val (.ref a3)] [(.ref a1)])) _
    refine XS.iloadN X3.here hx rfl (hb hby d6_12) rfl ?_
    show Steps p.tables e below (T3.setTop (mkF m 13 #[.val (.ref a1), .val (.int p2), .val (.ref a3)] [(.int p2), (.ref a1)])) _
    refine st4 _ ?_
    show Steps p.tables e below (T4.setTop (mkF m 16 #[.val (.ref a1), .val (.int p2), .val (.ref a3)] [])) _
    refine XS.aloadN X4.here hx rfl (hb hby d6_16) rfl rfl ?_
    show Steps p.tables e below (T4.setTop (mkF m 17 #[.val (.ref a1), .val (.int p2), .val (.ref a3)] [(.ref a1)])) _
    refine XS.aloadN X4.here hx rfl (hb hby d6_17) rfl rfl ?_
    show Steps p.tables e below (T4.setTop (mkF m 18 #[.val (.ref a1), .val (.int p2), .val (.ref a3)] [(.ref a3), (.ref a1)])) _
    refine st5 _ ?_
    show Steps p.tables e below (T5.setTop (mkF m 21 #[.val (.ref a1), .val (.int p2), .val (.ref a3)] [])) _
    exact X5.returnOut hx Bd.returns (hb hby d6_21) hr
  · show Q6 Z a1 p2 a3 h0 n0 _ T5.heap _
    rw [e5]
    exact ⟨rfl, N5, K5, Ex5, F5_maxEach, F5_whole⟩
theorem d3_0 : decode prog_381_method_2_code 0 = .ok (.aload_n 0, 1) := by decide +kernel
theorem d3_1 : decode prog_381_method_2_code 1 = .ok (.iload_n 1, 1) := by decide +kernel
theorem d3_2 : decode prog_381_method_2_code 2 = .ok (.new 11, 3) := by decide +kernel
theorem d3_5 : decode prog_381_method_2_code 5 = .ok (.dup, 1) := by decide +kernel
theorem d3_6 : decode prog_381_method_2_code 6 = .ok (.lload_n 2, 1) := by decide +kernel
theorem d3_7 : decode prog_381_method_2_code 7 = .ok (.invokespecial 13, 3) := by decide +kernel
theorem d3_10 : decode prog_381_method_2_code 10 = .ok (.invokespecial 16, 3) := by decide +kernel
theorem d3_13 : decode prog_381_method_2_code 13 = .ok (.lload_n 2, 1) := by decide +kernel
theorem d3_14 : decode prog_381_method_2_code 14 = .ok (.ldc 19, 2) := by decide +kernel
theorem d3_16 : decode prog_381_method_2_code 16 = .ok (.invokestatic 21, 3) := by decide +kernel
theorem d3_19 : decode prog_381_method_2_code 19 = .ok (.return_, 1) := by decide +kernel
theorem pd_3_0 : parseMethodDescriptor "(J)V" = some ⟨[.long], none⟩ := by decide +kernel
theorem pd_3_1 : parseMethodDescriptor "(ILcom/example/tideline/tideline/storage/UncompressBound$Whole;)V" = some ⟨[.int, (.object "com/example/tideline/tideline/storage/UncompressBound$Whole")], none⟩ := by decide +kernel
theorem pd_3_2 : parseMethodDescriptor "(JLjava/lang/String;)V" = some ⟨[.long, (.object "java/lang/String")], none⟩ := by decide +kernel
theorem pn_3 : plainName "com/example/tideline/tideline/storage/UncompressBound" = true := by first | (simp [plainName, overriddenIn]; done) | decide +kernel
theorem ef_3 (m : MethodId) (x0 : Addr) (x1 : Int32) (x2 : Int64) : entryFrame m #[(.ref x0), (.int x1), (.long x2)] 4 = mkF m 0 #[.val (.ref x0), .val (.int x1), .val (.long x2), .second] [] := by first | (simp [entryFrame, mkF, argsToLocals, Value.category]; done) | rfl
def Q3 (Z : State) (a1 : Addr) (p2 : Int32) (q3 : Int64) (h0 : Heap) (n0 : Nat) (v : Option Value) (h : Heap) (L : List Loc) : Prop := v = none ∧ Fr n0 L ∧ Keep h0 h [a1] ∧ ∃ b : Addr, own_U Z h a1 p2 (.ref b) ∧ own_W Z h b q3 q3
set_option maxRecDepth 65536 in
set_option maxHeartbeats 40000000 in
theorem rm3 (l : Launch) (Z : State) (a0 : Array Value) (hw : ∀ d ∈ tables_1, d.before a0 Z = true) (ws : List Jvm.Cond) (a1 : Addr) (p2 : Int32) (q3 : Int64) (h0 : Heap) (n0 : Nat) (Z0 : n0 ≤ h0.size) (HC : own_U Z h0 a1 0 .null) (g_a1 : n0 ≤ a1) (hp : ¬ (p2 < (0 : Int32))) (hq : ¬ (q3 < (0 : Int64))) :
    MetFree l (⟨"com/example/tideline/tideline/storage/UncompressBound", "<init>", "(IJ)V"⟩ : MethodName) (head1 (Jvm.Cond.code (⟨"com/example/tideline/tideline/storage/UncompressBound", "<init>", "(IJ)V"⟩ : MethodName) prog_381_method_2_code 4 none :: ws) ({ frames := 2, cells := 5, slots := 86, locals := 29 } : Room)) (fun a U => a = #[(.ref a1), (.int p2), (.long q3)] ∧ Z.Warmed39 U.vm ∧ U.heap = h0) (fun _ _ _ _ _ => True) (fun _ U o U' => ∃ v L, o = .returned v ∧ Q3 Z a1 p2 q3 h0 n0 v U'.heap L ∧ ReturnedEndW U o U' L ({ frames := 2, cells := 5, slots := 86, locals := 29 } : Room).cells ({ frames := 2, cells := 5, slots := 86, locals := 29 } : Room).slots) := by
  refine MetFree.of_bodySF (plainFor_of_name pn_3) hisR ?_
  intro p e s m args below meth c s₁ Bd hml0 hP hK
  obtain ⟨rfl, hZ, hh⟩ := hP
  have hx := Bd.exec
  have hby := Bd.bytes
  have hml : c.maxLocals = 4 := hml0
  have hown : s.vm.findClass "com/example/tideline/tideline/storage/UncompressBound" = some m.cls := findClass_of_methodNamed Bd.named
  have hnm := (name_of_methodNamed Bd.named Bd.method).1
  have X0 : Stand p l e ({ frames := 2, cells := 5, slots := 86, locals := 29 } : Room) s m #[(.ref a1), (.int p2), (.long q3)] below meth c s₁ [] 0 0 := Stand.of_body Bd
  have e0 : s₁.heap = h0 := by rw [← hh, Bd.state]; rfl
  have N0 := Fr.nil n0
  have pre0 : ∀ t, Steps p.tables e below (s₁.setTop (mkF m 0 #[.val (.ref a1), .val (.int p2), .val (.long q3), .second] [])) t → Steps p.tables e below (s₁.setTop (entryFrame m #[(.ref a1), (.int p2), (.long q3)] 4)) t := fun t k => castTop (ef_3 m a1 p2 q3) k
  have own_wS : ∀ a ∈ Bundle.stringAtoms, a.before a0 Z = true := fun d hd => hw d (own_wSa d hd)
  obtain ⟨T1, h1, X1, e1, E1, A1, D1, -, st1⟩ := newO X0 hx hZ hown (hw _ (List.mem_of_getElem? (i := 15) rfl)) (hw _ (List.mem_of_getElem? (i := 16) rfl)) (hw _ (List.mem_of_getElem? (i := 17) rfl)) e0 (g := (mkF m 2 #[.val (.ref a1), .val (.int p2), .val (.long q3), .second] [(.int p2), (.ref a1)])) rfl (hb hby d3_2) (by decide) (by decide)
  obtain ⟨b1, g1⟩ : ∃ z, z = h0.size := ⟨_, rfl⟩
  rw [← g1] at A1 D1 st1
  have gb : n0 ≤ b1 := Nat.le_trans Z0 (Nat.le_of_eq g1.symm)
  have Z1 : n0 ≤ h1.size := Nat.le_trans Z0 E1.1
  have U1 := own_U.ext HC E1
  have ab : a1 ≠ b1 := Nat.ne_of_lt (Nat.lt_of_lt_of_le HC.1.lt (Nat.le_of_eq g1.symm))
  have sb : h0.size ≤ b1 := Nat.le_of_eq g1.symm
  have W1 : own_W Z h1 b1 0 0 := ⟨A1, (D1 (Or.inr (hw _ (List.mem_of_getElem? (i := 25) rfl))) (ty := .long) (by decide)), (D1 (Or.inl (hw _ (List.mem_of_getElem? (i := 27) rfl))) (ty := .long) (by decide))⟩
  have K1 : Keep h0 h1 [a1] := (Keep.refl h0 [a1]).ext E1
  obtain ⟨_, _, ⟨T2, L2, k2, n2⟩, -, X2, ⟨Lc2, hQ2, l2, y2, z2⟩, st2⟩ := X1.specialBack hx (y := (⟨"com/example/tideline/tideline/storage/UncompressBound$Whole", "<init>", "(J)V"⟩ : MethodName)) rfl hown (mvT hZ (hw _ (List.mem_of_getElem? (i := 18) rfl))) (mvT hZ (hw _ (List.mem_of_getElem? (i := 19) rfl))) (mvT hZ (hw _ (List.mem_of_getElem? (i := 20) rfl))) (by decide) (backOf (W := 3) (rm4 l Z a0 hw [] b1 q3 h1 n0 Z1 W1 gb) hZ (hw _ (List.mem_of_getElem? (i := 20) rfl)) (hw _ (List.mem_of_getElem? (i := 17) rfl)) (by decide) (by decide)) (g := (mkF m 7 #[.val (.ref a1), .val (.int p2), .val (.long q3), .second] [(.long q3), (.ref b1), (.ref b1), (.int p2), (.ref a1)])) rfl (by rw [hml]; rfl) (Steps.refl _) (a := b1) (argsL := [(.long q3)]) (rest := [(.ref b1), (.int p2), (.ref a1)]) (lenOf pd_3_0 rfl) rfl (by show 2 * 0 + _ ≤ _; exact Nat.le_of_eq rfl) (hb hby d3_7) (fun _ _ => ⟨rfl, e1, (by decide : 1 + 0 ≤ _), (by decide : 2 + 0 ≤ _)⟩)
  dsimp only [Pt.U, Pt.locs, Pt.cells, Pt.slots] at X2 l2 y2 z2 st2 hQ2
  subst l2 y2 z2
  obtain ⟨rfl, N2q, K2, W2⟩ := hQ2
  have N2 := Fr.app N0 N2q
  have Z2 : n0 ≤ T2.heap.size := Nat.le_trans Z1 K2.1
  have U2 := own_U.keep U1 K2 (ninS ab nin0)
  have K2 : Keep h0 T2.heap [a1] := K1.trans K2 (allS (Or.inr sb) all0)
  obtain ⟨_, _, ⟨T3, L3, k3, n3⟩, -, X3, hs3, gr3, ⟨Lc3, hQ3, l3, y3, z3⟩, st3⟩ := X2.specialBackS hx (y := (⟨"com/example/tideline/tideline/storage/UncompressBound", "<init>", "(ILcom/example/tideline/tideline/storage/UncompressBound$Whole;)V"⟩ : MethodName)) rfl hown (mvT hZ (hw _ (List.mem_of_getElem? (i := 28) rfl))) (mvT hZ (hw _ (List.mem_of_getElem? (i := 29) rfl))) (mvT hZ (hw _ (List.mem_of_getElem? (i := 30) rfl))) (by decide) (backOfS (W := 0) (rm6 l Z a0 hw [] a1 p2 b1 T2.heap n0 Z2 U2 g_a1 hp) hZ (hw _ (List.mem_of_getElem? (i := 30) rfl)) (hw _ (List.mem_of_getElem? (i := 11) rfl)) (by decide) (by decide)) (g := (mkF m 10 #[.val (.ref a1), .val (.int p2), .val (.long q3), .second] [(.ref b1), (.int p2), (.ref a1)])) rfl (by rw [hml]; rfl) (Steps.refl _) (a := a1) (argsL := [(.int p2), (.ref b1)]) (rest := []) (lenOf pd_3_1 rfl) rfl (by show 2 * 0 + _ ≤ _; exact Nat.le_of_eq rfl) (hb hby d3_10) (fun _ _ => ⟨rfl, rfl, (by decide : 1 + 2 ≤ _), (by decide : 2 + 28 ≤ _)⟩)
  dsimp only [Pt.U, Pt.locs, Pt.cells, Pt.slots] at X3 hs3 gr3 l3 y3 z3 st3 hQ3
  subst l3 y3 z3
  obtain ⟨rfl, N3q, K3, U3⟩ := hQ3
  have N3 := Fr.app N2 N3q
  have hZ3 : Z.Warmed39 (s.setVm T3.vm).vm := State.Warmed39.trans (t := s) hZ hs3.1
  have hown3 : (s.setVm T3.vm).vm.findClass "com/example/tideline/tideline/storage/UncompressBound" = some m.cls := by rw [show (s.setVm T3.vm).vm = T3.vm from rfl, hs3.1.alike.findClass]; exact hown
  have hS3 : s.Since T3.vm T3.heap.size := hs3
  have Z3 : n0 ≤ T3.heap.size := Nat.le_trans Z2 K3.1
  have W3 := own_W.keep W2 K3 (ninS (Ne.symm ab) nin0)
  have K3 : Keep h0 T3.heap [a1] := K2.trans K3 (allS (Or.inl (List.mem_of_getElem? (i := 0) rfl)) all0)
  obtain ⟨c1, T4, h4, kk4, X4, e4, E4, hS4, hk4, hZ4, hown4, st4⟩ := ldcS (s := s) (vm0 := T3.vm) X3 hx hZ3 hown3 (hw _ (List.mem_of_getElem? (i := 47) rfl)) own_wS rfl hS3 (Nat.le_refl _) (g := (mkF m 14 #[.val (.ref a1), .val (.int p2), .val (.long q3), .second] [(.long q3)])) rfl (hb hby d3_14) (n := 52) (by decide) (by decide) (by decide) (by decide)
  have Z4 : n0 ≤ h4.size := Nat.le_trans Z3 E4.1
  have U4 := own_U.ext U3 E4
  have W4 := own_W.ext W3 E4
  have K4 : Keep h0 h4 [a1] := K3.ext E4
  obtain ⟨_, _, ⟨T5, L5, k5, n5⟩, -, X5, ⟨Lc5, hQ5, l5, y5, z5⟩, st5⟩ := Jvm.LawKit.callS X4 hx (y := (⟨"com/example/tideline/tideline/storage/UncompressBound", "refuseNegative", "(JLjava/lang/String;)V"⟩ : MethodName)) hown4 (mvT hZ4 (hw _ (List.mem_of_getElem? (i := 40) rfl))) (mvT hZ4 (hw _ (List.mem_of_getElem? (i := 41) rfl))) (mvT hZ4 (hw _ (List.mem_of_getElem? (i := 11) rfl))) (mvT hZ4 (hw _ (List.mem_of_getElem? (i := 42) rfl))) (by decide) (backOf (W := 0) (rm7 l Z a0 hw [] q3 c1 h4 n0 Z4 hq) hZ4 (hw _ (List.mem_of_getElem? (i := 42) rfl)) (hw _ (List.mem_of_getElem? (i := 11) rfl)) (by decide) (by decide)) (g := (mkF m 16 #[.val (.ref a1), .val (.int p2), .val (.long q3), .second] [(.ref c1), (.long q3)])) rfl (by rw [hml]; rfl) (argsL := [(.long q3), (.ref c1)]) (rest := []) (lenOf pd_3_2 rfl) rfl (by show 2 * 0 + _ ≤ _; exact Nat.le_of_eq rfl) (hb hby d3_16) (fun _ _ => ⟨rfl, e4, (by decide : 5 + 0 ≤ _), (by decide : 86 + 0 ≤ _)⟩)
  dsimp only [Pt.U, Pt.locs, Pt.cells, Pt.slots] at X5 l5 y5 z5 st5 hQ5
  subst l5 y5 z5
  obtain ⟨rfl, N5q, e5⟩ := hQ5
  have N5 := Fr.app N3 N5q
  obtain ⟨fs, hr, hrun, hended, hRE⟩ := Jvm.Stand.leaveW (s := s) (vm₁ := T4.vm) X5 hS4 (by rw [e5]; exact hk4) (v := none) (fun _ => rfl)
  refine ⟨_, _, pre0 _ ?_, hrun, hended, _, _, rfl, ?_, hRE.1, hRE.2.1, hRE.2.2.1, hRE.2.2.2.mono (by decide) (by decide)⟩
  · show Steps p.tables e below (s₁.setTop (mkF m 0 #[.val (.ref a1), .val (.int p2), .val (.long q3), .second] [])) _
    refine XS.aloadN X0.here hx rfl (hb hby d3_0) rfl rfl ?_
    show Steps p.tables e below (s₁.setTop (mkF m 1 #[.val (.ref a1), .val (.int p2), .val (.long q3), .second] [(.ref a1)])) _
    refine XS.iloadN X0.here hx rfl (hb hby d3_1) rfl ?_
    show Steps p.tables e below (s₁.setTop (mkF m 2 #[.val (.ref a1), .val (.int p2), .val (.long q3), .second] [(.int p2), (.ref a1)])) _
    refine st1 _ ?_
    show Steps p.tables e below (T1.setTop (mkF m 5 #[.val (.ref a1), .val (.int p2), .val (.long q3), .second] [(.ref b1), (.int p2), (.ref a1)])) _
    refine XS.dup X1.here hx rfl (hb hby d3_5) rfl rfl ?_
    show Steps p.tables e below (T1.setTop (mkF m 6 #[.val (.ref a1), .val (.int p2), .val (.long q3), .second] [(.ref b1), (.ref b1), (.int p2), (.ref a1)])) _
    refine XS.lloadN X1.here hx rfl (hb hby d3_6) rfl ?_
    show Steps p.tables e below (T1.setTop (mkF m 7 #[.val (.ref a1), .val (.int p2), .val (.long q3), .second] [(.long q3), (.ref b1), (.ref b1), (.int p2), (.ref a1)])) _
    refine st2.trans ?_
    show Steps p.tables e below (T2.setTop (mkF m 10 #[.val (.ref a1), .val (.int p2), .val (.long q3), .second] [(.ref b1), (.int p2), (.ref a1)])) _
    refine st3.trans ?_
    show Steps p.tables e below (T3.setTop (mkF m 13 #[.val (.ref a1), .val (.int p2), .val (.long q3), .second] [])) _
    refine XS.lloadN X3.here hx rfl (hb hby d3_13) rfl ?_
    show Steps p.tables e below (T3.setTop (mkF m 14 #[.val (.ref a1), .val (.int p2), .val (.long q3), .second] [(.long q3)])) _
    refine st4 _ ?_
    show Steps p.tables e below (T4.setTop (mkF m 16 #[.val (.ref a1), .val (.int p2), .val (.long q3), .second] [(.ref c1), (.long q3)])) _
    refine st5 _ ?_
    show Steps p.tables e below (T5.setTop (mkF m 19 #[.val (.ref a1), .val (.int p2), .val (.long q3), .second] [])) _
    exact X5.returnOut hx Bd.returns (hb hby d3_19) hr
  · show Q3 Z a1 p2 q3 h0 n0 _ T5.heap _
    rw [e5]
    exact ⟨rfl, N5, K4, b1, U4, W4⟩
theorem d10_0 : decode prog_381_method_1_code 0 = .ok (.aload_n 0, 1) := by decide +kernel
theorem d10_1 : decode prog_381_method_1_code 1 = .ok (.iload_n 1, 1) := by decide +kernel
theorem d10_2 : decode prog_381_method_1_code 2 = .ok (.ldc2_w 3, 3) := by decide +kernel
theorem d10_5 : decode prog_381_method_1_code 5 = .ok (.invokespecial 5, 3) := by decide +kernel
theorem d10_8 : decode prog_381_method_1_code 8 = .ok (.return_, 1) := by decide +kernel
theorem pd_10_0 : parseMethodDescriptor "(IJ)V" = some ⟨[.int, .long], none⟩ := by decide +kernel
theorem pn_10 : plainName "com/example/tideline/tideline/storage/UncompressBound" = true := by first | (simp [plainName, overriddenIn]; done) | decide +kernel
theorem ef_10 (m : MethodId) (x0 : Addr) (x1 : Int32) : entryFrame m #[(.ref x0), (.int x1)] 2 = mkF m 0 #[.val (.ref x0), .val (.int x1)] [] := by first | (simp [entryFrame, mkF, argsToLocals, Value.category]; done) | rfl
def Q10 (Z : State) (a1 : Addr) (p2 : Int32) (h0 : Heap) (n0 : Nat) (v : Option Value) (h : Heap) (L : List Loc) : Prop := v = none ∧ Fr n0 L ∧ Keep h0 h [a1] ∧ ∃ b : Addr, own_U Z h a1 p2 (.ref b) ∧ own_W Z h b (9223372036854775807 : Int64) (9223372036854775807 : Int64)
set_option maxRecDepth 65536 in
set_option maxHeartbeats 40000000 in
theorem rm10 (l : Launch) (Z : State) (a0 : Array Value) (hw : ∀ d ∈ tables_1, d.before a0 Z = true) (ws : List Jvm.Cond) (a1 : Addr) (p2 : Int32) (h0 : Heap) (n0 : Nat) (Z0 : n0 ≤ h0.size) (HC : own_U Z h0 a1 0 .null) (g_a1 : n0 ≤ a1) (hp : ¬ (p2 < (0 : Int32))) :
    MetFree l (⟨"com/example/tideline/tideline/storage/UncompressBound", "<init>", "(I)V"⟩ : MethodName) (head1 (Jvm.Cond.code (⟨"com/example/tideline/tideline/storage/UncompressBound", "<init>", "(I)V"⟩ : MethodName) prog_381_method_1_code 2 none :: ws) ({ frames := 3, cells := 5, slots := 86, locals := 44 } : Room)) (fun a U => a = #[(.ref a1), (.int p2)] ∧ Z.Warmed39 U.vm ∧ U.heap = h0) (fun _ _ _ _ _ => True) (fun _ U o U' => ∃ v L, o = .returned v ∧ Q10 Z a1 p2 h0 n0 v U'.heap L ∧ ReturnedEndW U o U' L ({ frames := 3, cells := 5, slots := 86, locals := 44 } : Room).cells ({ frames := 3, cells := 5, slots := 86, locals := 44 } : Room).slots) := by
  refine MetFree.of_bodySF (plainFor_of_name pn_10) hisR ?_
  intro p e s m args below meth c s₁ Bd hml0 hP hK
  obtain ⟨rfl, hZ, hh⟩ := hP
  have hx := Bd.exec
  have hby := Bd.bytes
  have hml : c.maxLocals = 2 := hml0
  have hown : s.vm.findClass "com/example/tideline/tideline/storage/UncompressBound" = some m.cls := findClass_of_methodNamed Bd.named
  have hnm := (name_of_methodNamed Bd.named Bd.method).1
  have X0 : Stand p l e ({ frames := 3, cells := 5, slots := 86, locals := 44 } : Room) s m #[(.ref a1), (.int p2)] below meth c s₁ [] 0 0 := Stand.of_body Bd
  have e0 : s₁.heap = h0 := by rw [← hh, Bd.state]; rfl
  have N0 := Fr.nil n0
  have pre0 : ∀ t, Steps p.tables e below (s₁.setTop (mkF m 0 #[.val (.ref a1), .val (.int p2)] [])) t → Steps p.tables e below (s₁.setTop (entryFrame m #[(.ref a1), (.int p2)] 2)) t := fun t k => castTop (ef_10 m a1 p2) k
  obtain ⟨_, _, ⟨T1, L1, k1, n1⟩, -, X1, hs1, gr1, ⟨Lc1, hQ1, l1, y1, z1⟩, st1⟩ := X0.specialBackS hx (y := (⟨"com/example/tideline/tideline/storage/UncompressBound", "<init>", "(IJ)V"⟩ : MethodName)) rfl hown (mvT hZ (hw _ (List.mem_of_getElem? (i := 64) rfl))) (mvT hZ (hw _ (List.mem_of_getElem? (i := 13) rfl))) (mvT hZ (hw _ (List.mem_of_getElem? (i := 14) rfl))) (by decide) (backOfS (W := 0) (rm3 l Z a0 hw [] a1 p2 (9223372036854775807 : Int64) h0 n0 Z0 HC g_a1 hp (by decide)) hZ (hw _ (List.mem_of_getElem? (i := 14) rfl)) (hw _ (List.mem_of_getElem? (i := 11) rfl)) (by decide) (by decide)) (g := (mkF m 5 #[.val (.ref a1), .val (.int p2)] [(.long (9223372036854775807 : Int64)), (.int p2), (.ref a1)])) rfl (by rw [hml]; rfl) (Steps.refl _) (a := a1) (argsL := [(.int p2), (.long (9223372036854775807 : Int64))]) (rest := []) (lenOf pd_10_0 rfl) rfl (by show 2 * 0 + _ ≤ _; exact Nat.le_of_eq rfl) (hb hby d10_5) (fun _ _ => ⟨rfl, e0, (by decide : 0 + 5 ≤ _), (by decide : 0 + 86 ≤ _)⟩)
  dsimp only [Pt.U, Pt.locs, Pt.cells, Pt.slots] at X1 hs1 gr1 l1 y1 z1 st1 hQ1
  subst l1 y1 z1
  obtain ⟨rfl, N1q, K1, b1, U1, W1⟩ := hQ1
  have N1 := Fr.app N0 N1q
  have hZ1 : Z.Warmed39 (s.setVm T1.vm).vm := State.Warmed39.trans (t := s) hZ hs1.1
  have hown1 : (s.setVm T1.vm).vm.findClass "com/example/tideline/tideline/storage/UncompressBound" = some m.cls := by rw [show (s.setVm T1.vm).vm = T1.vm from rfl, hs1.1.alike.findClass]; exact hown
  have hS1 : s.Since T1.vm T1.heap.size := hs1
  obtain ⟨fs, hr, hrun, hended, hRE⟩ := Jvm.Stand.leaveW (s := s) (vm₁ := T1.vm) X1 hS1 (Nat.le_refl _) (v := none) (fun _ => rfl)
  refine ⟨_, _, pre0 _ ?_, hrun, hended, _, _, rfl, ?_, hRE.1, hRE.2.1, hRE.2.2.1, hRE.2.2.2.mono (by decide) (by decide)⟩
  · show Steps p.tables e below (s₁.setTop (mkF m 0 #[.val (.ref a1), .val (.int p2)] [])) _
    refine XS.aloadN X0.here hx rfl (hb hby d10_0) rfl rfl ?_
    show Steps p.tables e below (s₁.setTop (mkF m 1 #[.val (.ref a1), .val (.int p2)] [(.ref a1)])) _
    refine XS.iloadN X0.here hx rfl (hb hby d10_1) rfl ?_
    show Steps p.tables e below (s₁.setTop (mkF m 2 #[.val (.ref a1), .val (.int p2)] [(.int p2), (.ref a1)])) _
    refine X0.ldc2Long hx hown (mvT hZ (hw _ (List.mem_of_getElem? (i := 63) rfl))) (g := (mkF m 2 #[.val (.ref a1), .val (.int p2)] [(.int p2), (.ref a1)])) rfl (hb hby d10_2) _ ?_
    show Steps p.tables e below (s₁.setTop (mkF m 5 #[.val (.ref a1), .val (.int p2)] [(.long (9223372036854775807 : Int64)), (.int p2), (.ref a1)])) _
    refine st1.trans ?_
    show Steps p.tables e below (T1.setTop (mkF m 8 #[.val (.ref a1), .val (.int p2)] [])) _
    exact X1.returnOut hx Bd.returns (hb hby d10_8) hr
  · show Q10 Z a1 p2 h0 n0 _ T1.heap _
    exact ⟨rfl, N1, K1, b1, U1, W1⟩
theorem d9_0 : decode prog_381_method_5_code 0 = .ok (.new 6, 3) := by decide +kernel
theorem d9_3 : decode prog_381_method_5_code 3 = .ok (.dup, 1) := by decide +kernel
theorem d9_4 : decode prog_381_method_5_code 4 = .ok (.iload_n 1, 1) := by decide +kernel
theorem d9_5 : decode prog_381_method_5_code 5 = .ok (.aload_n 0, 1) := by decide +kernel
theorem d9_6 : decode prog_381_method_5_code 6 = .ok (.getfield 36, 3) := by decide +kernel
theorem d9_9 : decode prog_381_method_5_code 9 = .ok (.invokespecial 16, 3) := by decide +kernel
theorem d9_12 : decode prog_381_method_5_code 12 = .ok (.areturn, 1) := by decide +kernel
theorem pd_9_0 : parseMethodDescriptor "(ILcom/example/tideline/tideline/storage/UncompressBound$Whole;)V" = some ⟨[.int, (.object "com/example/tideline/tideline/storage/UncompressBound$Whole")], none⟩ := by decide +kernel
theorem pn_9 : plainName "com/example/tideline/tideline/storage/UncompressBound" = true := by first | (simp [plainName, overriddenIn]; done) | decide +kernel
theorem ef_9 (m : MethodId) (x0 : Addr) (x1 : Int32) : entryFrame m #[(.ref x0), (.int x1)] 2 = mkF m 0 #[.val (.ref x0), .val (.int x1)] [] := by first | (simp [entryFrame, mkF, argsToLocals, Value.category]; done) | rfl
def Q9 (Z : State) (a1 : Addr) (p2 : Int32) (me : Int32) (wa : Addr) (h0 : Heap) (n0 : Nat) (v : Option Value) (h : Heap) (L : List Loc) : Prop := ∃ b : Addr, v = some (.ref b) ∧ Fr n0 L ∧ Keep h0 h [] ∧ own_U Z h b p2 (.ref wa)
set_option maxRecDepth 65536 in
set_option maxHeartbeats 40000000 in
theorem rm9 (l : Launch) (Z : State) (a0 : Array Value) (hw : ∀ d ∈ tables_1, d.before a0 Z = true) (ws : List Jvm.Cond) (a1 : Addr) (p2 : Int32) (me : Int32) (wa : Addr) (h0 : Heap) (n0 : Nat) (Z0 : n0 ≤ h0.size) (HU : own_U Z h0 a1 me (.ref wa)) (hp : ¬ (p2 < (0 : Int32))) :
    MetFree l (⟨"com/example/tideline/tideline/storage/UncompressBound", "withEach", "(I)Lcom/example/tideline/tideline/storage/UncompressBound;"⟩ : MethodName) (head1 (Jvm.Cond.code (⟨"com/example/tideline/tideline/storage/UncompressBound", "withEach", "(I)Lcom/example/tideline/tideline/storage/UncompressBound;"⟩ : MethodName) prog_381_method_5_code 2 (some (.object "com/example/tideline/tideline/storage/UncompressBound")) :: ws) ({ frames := 2, cells := 3, slots := 30, locals := 29 } : Room)) (fun a U => a = #[(.ref a1), (.int p2)] ∧ Z.Warmed39 U.vm ∧ U.heap = h0) (fun _ _ _ _ _ => True) (fun _ U o U' => ∃ v L, o = .returned v ∧ Q9 Z a1 p2 me wa h0 n0 v U'.heap L ∧ ReturnedEndW U o U' L ({ frames := 2, cells := 3, slots := 30, locals := 29 } : Room).cells ({ frames := 2, cells := 3, slots := 30, locals := 29 } : Room).slots) := by
  refine MetFree.of_bodySF (plainFor_of_name pn_9) hisR ?_
  intro p e s m args below meth c s₁ Bd hml0 hP hK
  obtain ⟨rfl, hZ, hh⟩ := hP
  have hx := Bd.exec
  have hby := Bd.bytes
  have hml : c.maxLocals = 2 := hml0
  have hown : s.vm.findClass "com/example/tideline/tideline/storage/UncompressBound" = some m.cls := findClass_of_methodNamed Bd.named
  have hnm := (name_of_methodNamed Bd.named Bd.method).1
  have X0 : Stand p l e ({ frames := 2, cells := 3, slots := 30, locals := 29 } : Room) s m #[(.ref a1), (.int p2)] below meth c s₁ [] 0 0 := Stand.of_body Bd
  have e0 : s₁.heap = h0 := by rw [← hh, Bd.state]; rfl
  have N0 := Fr.nil n0
  have pre0 : ∀ t, Steps p.tables e below (s₁.setTop (mkF m 0 #[.val (.ref a1), .val (.int p2)] [])) t → Steps p.tables e below (s₁.setTop (entryFrame m #[(.ref a1), (.int p2)] 2)) t := fun t k => castTop (ef_9 m a1 p2) k
  obtain ⟨T1, h1, X1, e1, E1, A1, D1, -, st1⟩ := newO X0 hx hZ hown (hw _ (List.mem_of_getElem? (i := 59) rfl)) (hw _ (List.mem_of_getElem? (i := 10) rfl)) (hw _ (List.mem_of_getElem? (i := 11) rfl)) e0 (g := (mkF m 0 #[.val (.ref a1), .val (.int p2)] [])) rfl (hb hby d9_0) (by decide) (by decide)
  obtain ⟨b1, g1⟩ : ∃ z, z = h0.size := ⟨_, rfl⟩
  rw [← g1] at A1 D1 st1
  have gb : n0 ≤ b1 := Nat.le_trans Z0 (Nat.le_of_eq g1.symm)
  have sb : h0.size ≤ b1 := Nat.le_of_eq g1.symm
  have Z1 : n0 ≤ h1.size := Nat.le_trans Z0 E1.1
  have U1 := own_U.ext HU E1
  have V1 : own_U Z h1 b1 0 .null := ⟨A1, (D1 (Or.inr (hw _ (List.mem_of_getElem? (i := 44) rfl))) (ty := .int) (by decide)), (D1 (Or.inr (hw _ (List.mem_of_getElem? (i := 46) rfl))) (ty := (.object "com/example/tideline/tideline/storage/UncompressBound$Whole")) (by decide))⟩
  have K1 : Keep h0 h1 [] := (Keep.refl h0 []).ext E1
  obtain ⟨T2, X2, e2, st2⟩ := getF X1 hx hZ hown (host := "") (Or.inl (hw _ (List.mem_of_getElem? (i := 45) rfl))) Via.refl e1 U1.2.2 (g := (mkF m 6 #[.val (.ref a1), .val (.int p2)] [(.ref a1), (.int p2), (.ref b1), (.ref b1)])) rfl rfl (hb hby d9_6)
  obtain ⟨_, _, ⟨T3, L3, k3, n3⟩, -, X3, hs3, gr3, ⟨Lc3, hQ3, l3, y3, z3⟩, st3⟩ := X2.specialBackS hx (y := (⟨"com/example/tideline/tideline/storage/UncompressBound", "<init>", "(ILcom/example/tideline/tideline/storage/UncompressBound$Whole;)V"⟩ : MethodName)) rfl hown (mvT hZ (hw _ (List.mem_of_getElem? (i := 28) rfl))) (mvT hZ (hw _ (List.mem_of_getElem? (i := 29) rfl))) (mvT hZ (hw _ (List.mem_of_getElem? (i := 30) rfl))) (by decide) (backOfS (W := 1) (rm6 l Z a0 hw [] b1 p2 wa h1 n0 Z1 V1 gb hp) hZ (hw _ (List.mem_of_getElem? (i := 30) rfl)) (hw _ (List.mem_of_getElem? (i := 11) rfl)) (by decide) (by decide)) (g := (mkF m 9 #[.val (.ref a1), .val (.int p2)] [(.ref wa), (.int p2), (.ref b1), (.ref b1)])) rfl (by rw [hml]; rfl) (Steps.refl _) (a := b1) (argsL := [(.int p2), (.ref wa)]) (rest := [(.ref b1)]) (lenOf pd_9_0 rfl) rfl (by show 2 * 0 + _ ≤ _; exact Nat.le_of_eq rfl) (hb hby d9_9) (fun _ _ => ⟨rfl, e2, (by decide : 1 + 2 ≤ _), (by decide : 2 + 28 ≤ _)⟩)
  dsimp only [Pt.U, Pt.locs, Pt.cells, Pt.slots] at X3 hs3 gr3 l3 y3 z3 st3 hQ3
  subst l3 y3 z3
  obtain ⟨rfl, N3q, K3, V2⟩ := hQ3
  have N3 := Fr.app N0 N3q
  have hZ3 : Z.Warmed39 (s.setVm T3.vm).vm := State.Warmed39.trans (t := s) hZ hs3.1
  have hown3 : (s.setVm T3.vm).vm.findClass "com/example/tideline/tideline/storage/UncompressBound" = some m.cls := by rw [show (s.setVm T3.vm).vm = T3.vm from rfl, hs3.1.alike.findClass]; exact hown
  have hS3 : s.Since T3.vm T3.heap.size := hs3
  have K2 : Keep h0 T3.heap [] := K1.trans K3 (allS (Or.inr sb) all0)
  obtain ⟨fs, hr, hrun, hended, hRE⟩ := Jvm.Stand.leaveW (s := s) (vm₁ := T3.vm) X3 hS3 (Nat.le_refl _) (v := some (.ref b1)) (fun h => by rw [Bd.returns] at h; cases h)
  refine ⟨_, _, pre0 _ ?_, hrun, hended, _, _, rfl, ?_, hRE.1, hRE.2.1, hRE.2.2.1, hRE.2.2.2.mono (by decide) (by decide)⟩
  · show Steps p.tables e below (s₁.setTop (mkF m 0 #[.val (.ref a1), .val (.int p2)] [])) _
    refine st1 _ ?_
    show Steps p.tables e below (T1.setTop (mkF m 3 #[.val (.ref a1), .val (.int p2)] [(.ref b1)])) _
    refine XS.dup X1.here hx rfl (hb hby d9_3) rfl rfl ?_
    show Steps p.tables e below (T1.setTop (mkF m 4 #[.val (.ref a1), .val (.int p2)] [(.ref b1), (.ref b1)])) _
    refine XS.iloadN X1.here hx rfl (hb hby d9_4) rfl ?_
    show Steps p.tables e below (T1.setTop (mkF m 5 #[.val (.ref a1), .val (.int p2)] [(.int p2), (.ref b1), (.ref b1)])) _
    refine XS.aloadN X1.here hx rfl (hb hby d9_5) rfl rfl ?_
    show Steps p.tables e below (T1.setTop (mkF m 6 #[.val (.ref a1), .val (.int p2)] [(.ref a1), (.int p2), (.ref b1), (.ref b1)])) _
    refine st2 _ ?_
    show Steps p.tables e below (T2.setTop (mkF m 9 #[.val (.ref a1), .val (.int p2)] [(.ref wa), (.int p2), (.ref b1), (.ref b1)])) _
    refine st3.trans ?_
    show Steps p.tables e below (T3.setTop (mkF m 12 #[.val (.ref a1), .val (.int p2)] [(.ref b1)])) _
    exact X3.areturnOut hx rfl Bd.returns rfl (hb hby d9_12) hr
  · show Q9 Z a1 p2 me wa h0 n0 _ T3.heap _
    exact ⟨b1, rfl, N3, K2, V2⟩
theorem d8_0 : decode prog_381_method_6_code 0 = .ok (.aload_n 0, 1) := by decide +kernel
theorem d8_1 : decode prog_381_method_6_code 1 = .ok (.getfield 36, 3) := by decide +kernel
theorem d8_4 : decode prog_381_method_6_code 4 = .ok (.getfield 49, 3) := by decide +kernel
theorem d8_7 : decode prog_381_method_6_code 7 = .ok (.aload_n 0, 1) := by decide +kernel
theorem d8_8 : decode prog_381_method_6_code 8 = .ok (.getfield 32, 3) := by decide +kernel
theorem d8_11 : decode prog_381_method_6_code 11 = .ok (.i2l, 1) := by decide +kernel
theorem d8_12 : decode prog_381_method_6_code 12 = .ok (.lcmp, 1) := by decide +kernel
theorem d8_13 : decode prog_381_method_6_code 13 = .ok (.ifCond .lt 7, 3) := by decide +kernel
theorem d8_16 : decode prog_381_method_6_code 16 = .ok (.iconst 1, 1) := by decide +kernel
theorem d8_17 : decode prog_381_method_6_code 17 = .ok (.goto 4, 3) := by decide +kernel
theorem d8_20 : decode prog_381_method_6_code 20 = .ok (.iconst 0, 1) := by decide +kernel
theorem d8_21 : decode prog_381_method_6_code 21 = .ok (.ireturn, 1) := by decide +kernel
theorem pn_8 : plainName "com/example/tideline/tideline/storage/UncompressBound" = true := by first | (simp [plainName, overriddenIn]; done) | decide +kernel
theorem ef_8 (m : MethodId) (x0 : Addr) : entryFrame m #[(.ref x0)] 1 = mkF m 0 #[.val (.ref x0)] [] := by first | (simp [entryFrame, mkF, argsToLocals, Value.category]; done) | rfl
def Q8 (Z : State) (a1 : Addr) (me : Int32) (wa : Addr) (ml : Int64) (lf : Int64) (h0 : Heap) (n0 : Nat) (v : Option Value) (h : Heap) (L : List Loc) : Prop := v = some (.int (own_h lf me)) ∧ Fr n0 L ∧ h = h0
set_option maxRecDepth 65536 in
set_option maxHeartbeats 40000000 in
theorem rm8 (l : Launch) (Z : State) (a0 : Array Value) (hw : ∀ d ∈ tables_1, d.before a0 Z = true) (ws : List Jvm.Cond) (a1 : Addr) (me : Int32) (wa : Addr) (ml : Int64) (lf : Int64) (h0 : Heap) (n0 : Nat) (Z0 : n0 ≤ h0.size) (HU : own_U Z h0 a1 me (.ref wa)) (HW : own_W Z h0 wa ml lf) :
    MetFree l (⟨"com/example/tideline/tideline/storage/UncompressBound", "holdsEach", "()Z"⟩ : MethodName) (head1 (Jvm.Cond.code (⟨"com/example/tideline/tideline/storage/UncompressBound", "holdsEach", "()Z"⟩ : MethodName) prog_381_method_6_code 1 (some .boolean) :: ws) ({ frames := 0, cells := 0, slots := 0, locals := 0 } : Room)) (fun a U => a = #[(.ref a1)] ∧ Z.Warmed39 U.vm ∧ U.heap = h0) (fun _ _ _ _ _ => True) (fun _ U o U' => ∃ v L, o = .returned v ∧ Q8 Z a1 me wa ml lf h0 n0 v U'.heap L ∧ FrameEnd U o U' L ({ frames := 0, cells := 0, slots := 0, locals := 0 } : Room).cells ({ frames := 0, cells := 0, slots := 0, locals := 0 } : Room).slots) := by
  refine MetFree.of_bodySF (plainFor_of_name pn_8) hisR ?_
  intro p e s m args below meth c s₁ Bd hml0 hP hK
  obtain ⟨rfl, hZ, hh⟩ := hP
  have hx := Bd.exec
  have hby := Bd.bytes
  have hml : c.maxLocals = 1 := hml0
  have hown : s.vm.findClass "com/example/tideline/tideline/storage/UncompressBound" = some m.cls := findClass_of_methodNamed Bd.named
  have hnm := (name_of_methodNamed Bd.named Bd.method).1
  have X0 : Stand p l e ({ frames := 0, cells := 0, slots := 0, locals := 0 } : Room) s m #[(.ref a1)] below meth c s₁ [] 0 0 := Stand.of_body Bd
  have e0 : s₁.heap = h0 := by rw [← hh, Bd.state]; rfl
  have N0 := Fr.nil n0
  have pre0 : ∀ t, Steps p.tables e below (s₁.setTop (mkF m 0 #[.val (.ref a1)] [])) t → Steps p.tables e below (s₁.setTop (entryFrame m #[(.ref a1)] 1)) t := fun t k => castTop (ef_8 m a1) k
  obtain ⟨T1, X1, e1, st1⟩ := getF X0 hx hZ hown (host := "") (Or.inl (hw _ (List.mem_of_getElem? (i := 45) rfl))) Via.refl e0 HU.2.2 (g := (mkF m 1 #[.val (.ref a1)] [(.ref a1)])) rfl rfl (hb hby d8_1)
  obtain ⟨T2, X2, e2, st2⟩ := getF X1 hx hZ hown (host := "") (Or.inl (hw _ (List.mem_of_getElem? (i := 43) rfl))) Via.refl e1 HU.2.1 (g := (mkF m 8 #[.val (.ref a1)] [(.ref a1), (.long lf)])) rfl rfl (hb hby d8_8)
  obtain ⟨v4, hv4⟩ : ∃ z : Int32, z = if (lf < (me.toInt64)) then (0 : Int32) else (1 : Int32) := ⟨_, rfl⟩
  obtain ⟨fs, hr, hrun, hended, hW, hsame⟩ := X2.leave (v := some (.int (nar .boolean v4))) (fun h => by rw [Bd.returns] at h; cases h)
  refine ⟨_, _, pre0 _ ?_, hrun, hended, _, _, rfl, ?_, ⟨_, rfl⟩, hW, hsame.mono (by decide) (by decide)⟩
  · show Steps p.tables e below (s₁.setTop (mkF m 0 #[.val (.ref a1)] [])) _
    refine XS.aloadN X0.here hx rfl (hb hby d8_0) rfl rfl ?_
    show Steps p.tables e below (s₁.setTop (mkF m 1 #[.val (.ref a1)] [(.ref a1)])) _
    refine st1 _ ?_
    show Steps p.tables e below (T1.setTop (mkF m 4 #[.val (.ref a1)] [(.ref wa)])) _
    refine own_getR X1 hx hZ hown (hw _ (List.mem_of_getElem? (i := 53) rfl)) e1 HW.2.2 (g := (mkF m 4 #[.val (.ref a1)] [(.ref wa)])) rfl rfl (hb hby d8_4) _ ?_
    show Steps p.tables e below (T1.setTop (mkF m 7 #[.val (.ref a1)] [(.long lf)])) _
    refine XS.aloadN X1.here hx rfl (hb hby d8_7) rfl rfl ?_
    show Steps p.tables e below (T1.setTop (mkF m 8 #[.val (.ref a1)] [(.ref a1), (.long lf)])) _
    refine st2 _ ?_
    show Steps p.tables e below (T2.setTop (mkF m 11 #[.val (.ref a1)] [(.int me), (.long lf)])) _
    refine XS.i2l X2.here hx rfl (hb hby d8_11) rfl ?_
    show Steps p.tables e below (T2.setTop (mkF m 12 #[.val (.ref a1)] [(.long (me.toInt64)), (.long lf)])) _
    refine XS.lcmp X2.here hx rfl (hb hby d8_12) rfl ?_
    have sg3 : ∀ t, Steps p.tables e below (T2.setTop (mkF m 21 #[.val (.ref a1)] [(.int v4)])) t → Steps p.tables e below (T2.setTop (mkF m 13 #[.val (.ref a1)] [(.int (lcmpW lf (me.toInt64)))])) t := by
      intro t k
      by_cases hc3 : (lf < (me.toInt64))
      · rw [show v4 = (0 : Int32) from by rw [hv4, if_pos hc3]] at k
        show Steps p.tables e below (T2.setTop (mkF m 13 #[.val (.ref a1)] [(.int (lcmpW lf (me.toInt64)))])) _
        refine XS.ifYes X2.here hx rfl (pc0 := 13) (pc' := 20) rfl (hb hby d8_13) rfl ((if0 _ _).trans (tlt ((lw_lt lf (me.toInt64)).mpr hc3)).1) (by decide) (by decide) ?_
        show Steps p.tables e below (T2.setTop (mkF m 20 #[.val (.ref a1)] [])) _
        refine XS.iconst X2.here hx rfl (hb hby d8_20) ?_
        exact k
      · rw [show v4 = (1 : Int32) from by rw [hv4, if_neg hc3]] at k
        show Steps p.tables e below (T2.setTop (mkF m 13 #[.val (.ref a1)] [(.int (lcmpW lf (me.toInt64)))])) _
        refine XS.ifNo X2.here hx rfl (hb hby d8_13) rfl ((if0 _ _).trans (flt (fun q => hc3 ((lw_lt lf (me.toInt64)).mp q))).1) ?_
        show Steps p.tables e below (T2.setTop (mkF m 16 #[.val (.ref a1)] [])) _
        refine XS.iconst X2.here hx rfl (hb hby d8_16) ?_
        show Steps p.tables e below (T2.setTop (mkF m 17 #[.val (.ref a1)] [(.int (1 : Int32))])) _
        refine XS.goto X2.here hx rfl (pc0 := 17) (pc' := 21) rfl (hb hby d8_17) (by decide) (by decide) ?_
        exact k
    refine sg3 _ ?_
    show Steps p.tables e below (T2.setTop (mkF m 21 #[.val (.ref a1)] [(.int v4)])) _
    exact retN X2 hx (t := .boolean) Bd.returns (by simp) (hb hby d8_21) hr
  · show Q8 Z a1 me wa ml lf h0 n0 _ T2.heap _
    rw [e2]
    have hm : v4 = own_h lf me := by rw [hv4]; rfl
    exact ⟨by rw [hm, own_nb], N0, rfl⟩
theorem pd_sga_0 : parseMethodDescriptor "(JJ)J" = some ⟨[.long, .long], some .long⟩ := by decide +kernel
set_option maxRecDepth 65536 in
set_option maxHeartbeats 40000000 in
theorem sga {p : Program} {l : Launch} {e : Env} {s : State} {m : MethodId} {args : Array Value} {below : List Frame} {meth : Method} {c : Code} {T0 : State} {locs : List Loc} {Z : State} {a0 : Array Value} {h0 : Heap} (x0 : Int32) (x1 : Int64) (x3 : Int32) (x4 : Int32) (x5 : Int32) (x6 : Int32) (n0 : Nat) (X0 : Stand p l e room_1 s m args below meth c T0 locs 0 0) (hx : p.tables.exec = Jvm.exec) (hZ : Z.Warmed39 s.vm) (hw : ∀ d ∈ tables_1, d.before a0 Z = true) (hby : c.code = code) (hml : c.maxLocals = 17) (hown : s.vm.findClass "com/example/tideline/tideline/storage/UncompressBoundHoldsEachPinLaw" = some m.cls) (e0 : T0.heap = h0) (N0 : Fr n0 locs) (Z0 : n0 ≤ h0.size) :
    ∃ (T' : State) (locs' : List Loc), Stand p l e room_1 s m args below meth c T' locs' 0 0 ∧ T'.heap = h0 ∧ Fr n0 locs' ∧
      ∀ t, Steps p.tables e below (T'.setTop (mkF m 38 #[.val (.int x0), .val (.long x1), .second, .val (.int x3), .val (.int x4), .val (.int x5), .val (.int x6), .val (.long (own_ia x6 x4 x5 x1)), .second, .unset, .unset, .unset, .unset, .unset, .unset, .unset, .unset] [])) t → Steps p.tables e below (T0.setTop (mkF m 6 #[.val (.int x0), .val (.long x1), .second, .val (.int x3), .val (.int x4), .val (.int x5), .val (.int x6), .unset, .unset, .unset, .unset, .unset, .unset, .unset, .unset, .unset, .unset] [])) t := by
  by_cases hfl : (x5 &&& (1 : Int32)) = (0 : Int32)
  · have hv : (own_ia x6 x4 x5 x1) = (x1 &&& (9223372036854775807 : Int64)) := if_pos hfl
    refine ⟨T0, _, X0, e0, N0, fun t k => ?_⟩
    rw [hv] at k
    show Steps p.tables e below (T0.setTop (mkF m 6 #[.val (.int x0), .val (.long x1), .second, .val (.int x3), .val (.int x4), .val (.int x5), .val (.int x6), .unset, .unset, .unset, .unset, .unset, .unset, .unset, .unset, .unset, .unset] [])) _
    refine XS.iload X0.here hx rfl (hb hby at_6) rfl ?_
    show Steps p.tables e below (T0.setTop (mkF m 8 #[.val (.int x0), .val (.long x1), .second, .val (.int x3), .val (.int x4), .val (.int x5), .val (.int x6), .unset, .unset, .unset, .unset, .unset, .unset, .unset, .unset, .unset, .unset] [(.int x5)])) _
    refine XS.iconst X0.here hx rfl (hb hby at_8) ?_
    show Steps p.tables e below (T0.setTop (mkF m 9 #[.val (.int x0), .val (.long x1), .second, .val (.int x3), .val (.int x4), .val (.int x5), .val (.int x6), .unset, .unset, .unset, .unset, .unset, .unset, .unset, .unset, .unset, .unset] [(.int (1 : Int32)), (.int x5)])) _
    refine XS.iand X0.here hx rfl (hb hby at_9) rfl ?_
    show Steps p.tables e below (T0.setTop (mkF m 10 #[.val (.int x0), .val (.long x1), .second, .val (.int x3), .val (.int x4), .val (.int x5), .val (.int x6), .unset, .unset, .unset, .unset, .unset, .unset, .unset, .unset, .unset, .unset] [(.int (x5 &&& (1 : Int32)))])) _
    refine XS.ifYes X0.here hx rfl (pc0 := 10) (pc' := 31) rfl (hb hby at_10) rfl ((if0 _ _).trans (teq hfl).1) (by decide) (by decide) ?_
    show Steps p.tables e below (T0.setTop (mkF m 31 #[.val (.int x0), .val (.long x1), .second, .val (.int x3), .val (.int x4), .val (.int x5), .val (.int x6), .unset, .unset, .unset, .unset, .unset, .unset, .unset, .unset, .unset, .unset] [])) _
    refine XS.lloadN X0.here hx rfl (hb hby at_31) rfl ?_
    show Steps p.tables e below (T0.setTop (mkF m 32 #[.val (.int x0), .val (.long x1), .second, .val (.int x3), .val (.int x4), .val (.int x5), .val (.int x6), .unset, .unset, .unset, .unset, .unset, .unset, .unset, .unset, .unset, .unset] [(.long x1)])) _
    refine X0.ldc2Long hx hown (mvT hZ (hw _ (List.mem_of_getElem? (i := 65) rfl))) (g := (mkF m 32 #[.val (.int x0), .val (.long x1), .second, .val (.int x3), .val (.int x4), .val (.int x5), .val (.int x6), .unset, .unset, .unset, .unset, .unset, .unset, .unset, .unset, .unset, .unset] [(.long x1)])) rfl (hb hby at_32) _ ?_
    show Steps p.tables e below (T0.setTop (mkF m 35 #[.val (.int x0), .val (.long x1), .second, .val (.int x3), .val (.int x4), .val (.int x5), .val (.int x6), .unset, .unset, .unset, .unset, .unset, .unset, .unset, .unset, .unset, .unset] [(.long (9223372036854775807 : Int64)), (.long x1)])) _
    refine XS.land X0.here hx rfl (hb hby at_35) rfl ?_
    show Steps p.tables e below (T0.setTop (mkF m 36 #[.val (.int x0), .val (.long x1), .second, .val (.int x3), .val (.int x4), .val (.int x5), .val (.int x6), .unset, .unset, .unset, .unset, .unset, .unset, .unset, .unset, .unset, .unset] [(.long (x1 &&& (9223372036854775807 : Int64)))])) _
    refine XS.lstore X0.here hx rfl (hb hby at_36) rfl (l' := #[.val (.int x0), .val (.long x1), .second, .val (.int x3), .val (.int x4), .val (.int x5), .val (.int x6), .val (.long (x1 &&& (9223372036854775807 : Int64))), .second, .unset, .unset, .unset, .unset, .unset, .unset, .unset, .unset]) rfl ?_
    exact k
  · obtain ⟨_, _, ⟨T1, L1, k1, n1⟩, -, X1, ⟨Lc1, hQ1, l1, y1, z1⟩, st1⟩ := Jvm.LawKit.callS X0 hx (y := (⟨"java/lang/Math", "max", "(JJ)J"⟩ : MethodName)) hown (mvT hZ (hw _ (List.mem_of_getElem? (i := 1) rfl))) (mvT hZ (hw _ (List.mem_of_getElem? (i := 2) rfl))) (mvT hZ (hw _ (List.mem_of_getElem? (i := 3) rfl))) (mvT hZ (hw _ (List.mem_of_getElem? (i := 4) rfl))) (by decide) (backOf (W := 0) (rm1 l Z a0 hw [] (0 : Int64) ((x6.toInt64) + ((x4 % (3 : Int32)).toInt64)) h0 n0 Z0) hZ (hw _ (List.mem_of_getElem? (i := 4) rfl)) (hw _ (List.mem_of_getElem? (i := 3) rfl)) (by decide) (by decide)) (g := (mkF m 23 #[.val (.int x0), .val (.long x1), .second, .val (.int x3), .val (.int x4), .val (.int x5), .val (.int x6), .unset, .unset, .unset, .unset, .unset, .unset, .unset, .unset, .unset, .unset] [(.long ((x6.toInt64) + ((x4 % (3 : Int32)).toInt64))), (.long (0 : Int64))])) rfl (by rw [hml]; rfl) (argsL := [(.long (0 : Int64)), (.long ((x6.toInt64) + ((x4 % (3 : Int32)).toInt64)))]) (rest := []) (lenOf pd_sga_0 rfl) rfl (by show 2 * 0 + _ ≤ _; exact Nat.le_of_eq rfl) (hb hby at_23) (fun _ _ => ⟨rfl, e0, (by decide : 0 + 0 ≤ _), (by decide : 0 + 0 ≤ _)⟩)
    dsimp only [Pt.U, Pt.locs, Pt.cells, Pt.slots] at X1 l1 y1 z1 st1 hQ1
    subst l1 y1 z1
    obtain ⟨rfl, N1q, e1⟩ := hQ1
    have N1 := Fr.app N0 N1q
    have hv : (own_ia x6 x4 x5 x1) = (own_max (0 : Int64) ((x6.toInt64) + ((x4 % (3 : Int32)).toInt64))) := if_neg hfl
    refine ⟨T1, _, X1, e1, N1, fun t k => ?_⟩
    rw [hv] at k
    show Steps p.tables e below (T0.setTop (mkF m 6 #[.val (.int x0), .val (.long x1), .second, .val (.int x3), .val (.int x4), .val (.int x5), .val (.int x6), .unset, .unset, .unset, .unset, .unset, .unset, .unset, .unset, .unset, .unset] [])) _
    refine XS.iload X0.here hx rfl (hb hby at_6) rfl ?_
    show Steps p.tables e below (T0.setTop (mkF m 8 #[.val (.int x0), .val (.long x1), .second, .val (.int x3), .val (.int x4), .val (.int x5), .val (.int x6), .unset, .unset, .unset, .unset, .unset, .unset, .unset, .unset, .unset, .unset] [(.int x5)])) _
    refine XS.iconst X0.here hx rfl (hb hby at_8) ?_
    show Steps p.tables e below (T0.setTop (mkF m 9 #[.val (.int x0), .val (.long x1), .second, .val (.int x3), .val (.int x4), .val (.int x5), .val (.int x6), .unset, .unset, .unset, .unset, .unset, .unset, .unset, .unset, .unset, .unset] [(.int (1 : Int32)), (.int x5)])) _
    refine XS.iand X0.here hx rfl (hb hby at_9) rfl ?_
    show Steps p.tables e below (T0.setTop (mkF m 10 #[.val (.int x0), .val (.long x1), .second, .val (.int x3), .val (.int x4), .val (.int x5), .val (.int x6), .unset, .unset, .unset, .unset, .unset, .unset, .unset, .unset, .unset, .unset] [(.int (x5 &&& (1 : Int32)))])) _
    refine XS.ifNo X0.here hx rfl (hb hby at_10) rfl ((if0 _ _).trans (feq hfl).1) ?_
    show Steps p.tables e below (T0.setTop (mkF m 13 #[.val (.int x0), .val (.long x1), .second, .val (.int x3), .val (.int x4), .val (.int x5), .val (.int x6), .unset, .unset, .unset, .unset, .unset, .unset, .unset, .unset, .unset, .unset] [])) _
    refine XS.lconst X0.here hx rfl (hb hby at_13) ?_
    show Steps p.tables e below (T0.setTop (mkF m 14 #[.val (.int x0), .val (.long x1), .second, .val (.int x3), .val (.int x4), .val (.int x5), .val (.int x6), .unset, .unset, .unset, .unset, .unset, .unset, .unset, .unset, .unset, .unset] [(.long (0 : Int64))])) _
    refine XS.iload X0.here hx rfl (hb hby at_14) rfl ?_
    show Steps p.tables e below (T0.setTop (mkF m 16 #[.val (.int x0), .val (.long x1), .second, .val (.int x3), .val (.int x4), .val (.int x5), .val (.int x6), .unset, .unset, .unset, .unset, .unset, .unset, .unset, .unset, .unset, .unset] [(.int x6), (.long (0 : Int64))])) _
    refine XS.i2l X0.here hx rfl (hb hby at_16) rfl ?_
    show Steps p.tables e below (T0.setTop (mkF m 17 #[.val (.int x0), .val (.long x1), .second, .val (.int x3), .val (.int x4), .val (.int x5), .val (.int x6), .unset, .unset, .unset, .unset, .unset, .unset, .unset, .unset, .unset, .unset] [(.long (x6.toInt64)), (.long (0 : Int64))])) _
    refine XS.iload X0.here hx rfl (hb hby at_17) rfl ?_
    show Steps p.tables e below (T0.setTop (mkF m 19 #[.val (.int x0), .val (.long x1), .second, .val (.int x3), .val (.int x4), .val (.int x5), .val (.int x6), .unset, .unset, .unset, .unset, .unset, .unset, .unset, .unset, .unset, .unset] [(.int x4), (.long (x6.toInt64)), (.long (0 : Int64))])) _
    refine XS.iconst X0.here hx rfl (hb hby at_19) ?_
    show Steps p.tables e below (T0.setTop (mkF m 20 #[.val (.int x0), .val (.long x1), .second, .val (.int x3), .val (.int x4), .val (.int x5), .val (.int x6), .unset, .unset, .unset, .unset, .unset, .unset, .unset, .unset, .unset, .unset] [(.int (3 : Int32)), (.int x4), (.long (x6.toInt64)), (.long (0 : Int64))])) _
    refine Jvm.RoadKit.iremM X0 hx rfl (hb hby at_20) rfl (by decide) ?_
    show Steps p.tables e below (T0.setTop (mkF m 21 #[.val (.int x0), .val (.long x1), .second, .val (.int x3), .val (.int x4), .val (.int x5), .val (.int x6), .unset, .unset, .unset, .unset, .unset, .unset, .unset, .unset, .unset, .unset] [(.int (x4 % (3 : Int32))), (.long (x6.toInt64)), (.long (0 : Int64))])) _
    refine XS.i2l X0.here hx rfl (hb hby at_21) rfl ?_
    show Steps p.tables e below (T0.setTop (mkF m 22 #[.val (.int x0), .val (.long x1), .second, .val (.int x3), .val (.int x4), .val (.int x5), .val (.int x6), .unset, .unset, .unset, .unset, .unset, .unset, .unset, .unset, .unset, .unset] [(.long ((x4 % (3 : Int32)).toInt64)), (.long (x6.toInt64)), (.long (0 : Int64))])) _
    refine XS.ladd X0.here hx rfl (hb hby at_22) rfl ?_
    show Steps p.tables e below (T0.setTop (mkF m 23 #[.val (.int x0), .val (.long x1), .second, .val (.int x3), .val (.int x4), .val (.int x5), .val (.int x6), .unset, .unset, .unset, .unset, .unset, .unset, .unset, .unset, .unset, .unset] [(.long ((x6.toInt64) + ((x4 % (3 : Int32)).toInt64))), (.long (0 : Int64))])) _
    refine st1 _ ?_
    show Steps p.tables e below (T1.setTop (mkF m 26 #[.val (.int x0), .val (.long x1), .second, .val (.int x3), .val (.int x4), .val (.int x5), .val (.int x6), .unset, .unset, .unset, .unset, .unset, .unset, .unset, .unset, .unset, .unset] [(.long (own_max (0 : Int64) ((x6.toInt64) + ((x4 % (3 : Int32)).toInt64))))])) _
    refine XS.lstore X1.here hx rfl (hb hby at_26) rfl (l' := #[.val (.int x0), .val (.long x1), .second, .val (.int x3), .val (.int x4), .val (.int x5), .val (.int x6), .val (.long (own_max (0 : Int64) ((x6.toInt64) + ((x4 % (3 : Int32)).toInt64)))), .second, .unset, .unset, .unset, .unset, .unset, .unset, .unset, .unset]) rfl ?_
    show Steps p.tables e below (T1.setTop (mkF m 28 #[.val (.int x0), .val (.long x1), .second, .val (.int x3), .val (.int x4), .val (.int x5), .val (.int x6), .val (.long (own_max (0 : Int64) ((x6.toInt64) + ((x4 % (3 : Int32)).toInt64)))), .second, .unset, .unset, .unset, .unset, .unset, .unset, .unset, .unset] [])) _
    refine XS.goto X1.here hx rfl (pc0 := 28) (pc' := 38) rfl (hb hby at_28) (by decide) (by decide) ?_
    exact k
theorem pd_sgb_0 : parseMethodDescriptor "(JJ)J" = some ⟨[.long, .long], some .long⟩ := by decide +kernel
set_option maxRecDepth 65536 in
set_option maxHeartbeats 40000000 in
theorem sgb {p : Program} {l : Launch} {e : Env} {s : State} {m : MethodId} {args : Array Value} {below : List Frame} {meth : Method} {c : Code} {T0 : State} {locs : List Loc} {Z : State} {a0 : Array Value} {h0 : Heap} (x0 : Int32) (x1 : Int64) (x3 : Int32) (x4 : Int32) (x5 : Int32) (x6 : Int32) (x7 : Int64) (n0 : Nat) (X0 : Stand p l e room_1 s m args below meth c T0 locs 0 0) (hx : p.tables.exec = Jvm.exec) (hZ : Z.Warmed39 s.vm) (hw : ∀ d ∈ tables_1, d.before a0 Z = true) (hby : c.code = code) (hml : c.maxLocals = 17) (hown : s.vm.findClass "com/example/tideline/tideline/storage/UncompressBoundHoldsEachPinLaw" = some m.cls) (e0 : T0.heap = h0) (N0 : Fr n0 locs) (Z0 : n0 ≤ h0.size) :
    ∃ (T' : State) (locs' : List Loc), Stand p l e room_1 s m args below meth c T' locs' 0 0 ∧ T'.heap = h0 ∧ Fr n0 locs' ∧
      ∀ t, Steps p.tables e below (T'.setTop (mkF m 77 #[.val (.int x0), .val (.long x1), .second, .val (.int x3), .val (.int x4), .val (.int x5), .val (.int x6), .val (.long x7), .second, .val (.int (own_ot x3 x4 x5 x7)), .unset, .unset, .unset, .unset, .unset, .unset, .unset] [])) t → Steps p.tables e below (T0.setTop (mkF m 38 #[.val (.int x0), .val (.long x1), .second, .val (.int x3), .val (.int x4), .val (.int x5), .val (.int x6), .val (.long x7), .second, .unset, .unset, .unset, .unset, .unset, .unset, .unset, .unset] [])) t := by
  by_cases hfl : (x5 &&& (2 : Int32)) = (0 : Int32)
  · have hv : (own_ot x3 x4 x5 x7) = (x3 &&& (2147483647 : Int32)) := if_pos hfl
    refine ⟨T0, _, X0, e0, N0, fun t k => ?_⟩
    rw [hv] at k
    show Steps p.tables e below (T0.setTop (mkF m 38 #[.val (.int x0), .val (.long x1), .second, .val (.int x3), .val (.int x4), .val (.int x5), .val (.int x6), .val (.long x7), .second, .unset, .unset, .unset, .unset, .unset, .unset, .unset, .unset] [])) _
    refine XS.iload X0.here hx rfl (hb hby at_38) rfl ?_
    show Steps p.tables e below (T0.setTop (mkF m 40 #[.val (.int x0), .val (.long x1), .second, .val (.int x3), .val (.int x4), .val (.int x5), .val (.int x6), .val (.long x7), .second, .unset, .unset, .unset, .unset, .unset, .unset, .unset, .unset] [(.int x5)])) _
    refine XS.iconst X0.here hx rfl (hb hby at_40) ?_
    show Steps p.tables e below (T0.setTop (mkF m 41 #[.val (.int x0), .val (.long x1), .second, .val (.int x3), .val (.int x4), .val (.int x5), .val (.int x6), .val (.long x7), .second, .unset, .unset, .unset, .unset, .unset, .unset, .unset, .unset] [(.int (2 : Int32)), (.int x5)])) _
    refine XS.iand X0.here hx rfl (hb hby at_41) rfl ?_
    show Steps p.tables e below (T0.setTop (mkF m 42 #[.val (.int x0), .val (.long x1), .second, .val (.int x3), .val (.int x4), .val (.int x5), .val (.int x6), .val (.long x7), .second, .unset, .unset, .unset, .unset, .unset, .unset, .unset, .unset] [(.int (x5 &&& (2 : Int32)))])) _
    refine XS.ifYes X0.here hx rfl (pc0 := 42) (pc' := 71) rfl (hb hby at_42) rfl ((if0 _ _).trans (teq hfl).1) (by decide) (by decide) ?_
    show Steps p.tables e below (T0.setTop (mkF m 71 #[.val (.int x0), .val (.long x1), .second, .val (.int x3), .val (.int x4), .val (.int x5), .val (.int x6), .val (.long x7), .second, .unset, .unset, .unset, .unset, .unset, .unset, .unset, .unset] [])) _
    refine XS.iloadN X0.here hx rfl (hb hby at_71) rfl ?_
    show Steps p.tables e below (T0.setTop (mkF m 72 #[.val (.int x0), .val (.long x1), .second, .val (.int x3), .val (.int x4), .val (.int x5), .val (.int x6), .val (.long x7), .second, .unset, .unset, .unset, .unset, .unset, .unset, .unset, .unset] [(.int x3)])) _
    refine X0.ldcInt hx hown (mvT hZ (hw _ (List.mem_of_getElem? (i := 0) rfl))) (g := (mkF m 72 #[.val (.int x0), .val (.long x1), .second, .val (.int x3), .val (.int x4), .val (.int x5), .val (.int x6), .val (.long x7), .second, .unset, .unset, .unset, .unset, .unset, .unset, .unset, .unset] [(.int x3)])) rfl (hb hby at_72) _ ?_
    show Steps p.tables e below (T0.setTop (mkF m 74 #[.val (.int x0), .val (.long x1), .second, .val (.int x3), .val (.int x4), .val (.int x5), .val (.int x6), .val (.long x7), .second, .unset, .unset, .unset, .unset, .unset, .unset, .unset, .unset] [(.int (2147483647 : Int32)), (.int x3)])) _
    refine XS.iand X0.here hx rfl (hb hby at_74) rfl ?_
    show Steps p.tables e below (T0.setTop (mkF m 75 #[.val (.int x0), .val (.long x1), .second, .val (.int x3), .val (.int x4), .val (.int x5), .val (.int x6), .val (.long x7), .second, .unset, .unset, .unset, .unset, .unset, .unset, .unset, .unset] [(.int (x3 &&& (2147483647 : Int32)))])) _
    refine XS.istore X0.here hx rfl (hb hby at_75) rfl (l' := #[.val (.int x0), .val (.long x1), .second, .val (.int x3), .val (.int x4), .val (.int x5), .val (.int x6), .val (.long x7), .second, .val (.int (x3 &&& (2147483647 : Int32))), .unset, .unset, .unset, .unset, .unset, .unset, .unset]) rfl ?_
    exact k
  · obtain ⟨_, _, ⟨T1, L1, k1, n1⟩, -, X1, ⟨Lc1, hQ1, l1, y1, z1⟩, st1⟩ := Jvm.LawKit.callS X0 hx (y := (⟨"java/lang/Math", "max", "(JJ)J"⟩ : MethodName)) hown (mvT hZ (hw _ (List.mem_of_getElem? (i := 1) rfl))) (mvT hZ (hw _ (List.mem_of_getElem? (i := 2) rfl))) (mvT hZ (hw _ (List.mem_of_getElem? (i := 3) rfl))) (mvT hZ (hw _ (List.mem_of_getElem? (i := 4) rfl))) (by decide) (backOf (W := 2) (rm1 l Z a0 hw [] (0 : Int64) (x7 + (((x4 / (3 : Int32)) % (3 : Int32)).toInt64)) h0 n0 Z0) hZ (hw _ (List.mem_of_getElem? (i := 4) rfl)) (hw _ (List.mem_of_getElem? (i := 3) rfl)) (by decide) (by decide)) (g := (mkF m 59 #[.val (.int x0), .val (.long x1), .second, .val (.int x3), .val (.int x4), .val (.int x5), .val (.int x6), .val (.long x7), .second, .unset, .unset, .unset, .unset, .unset, .unset, .unset, .unset] [(.long (x7 + (((x4 / (3 : Int32)) % (3 : Int32)).toInt64))), (.long (0 : Int64)), (.long (2147483647 : Int64))])) rfl (by rw [hml]; rfl) (argsL := [(.long (0 : Int64)), (.long (x7 + (((x4 / (3 : Int32)) % (3 : Int32)).toInt64)))]) (rest := [(.long (2147483647 : Int64))]) (lenOf pd_sgb_0 rfl) rfl (by show 2 * 0 + _ ≤ _; exact Nat.le_of_eq rfl) (hb hby at_59) (fun _ _ => ⟨rfl, e0, (by decide : 0 + 0 ≤ _), (by decide : 0 + 0 ≤ _)⟩)
    dsimp only [Pt.U, Pt.locs, Pt.cells, Pt.slots] at X1 l1 y1 z1 st1 hQ1
    subst l1 y1 z1
    obtain ⟨rfl, N1q, e1⟩ := hQ1
    have N1 := Fr.app N0 N1q
    obtain ⟨_, _, ⟨T2, L2, k2, n2⟩, -, X2, ⟨Lc2, hQ2, l2, y2, z2⟩, st2⟩ := Jvm.LawKit.callS X1 hx (y := (⟨"java/lang/Math", "min", "(JJ)J"⟩ : MethodName)) hown (mvT hZ (hw _ (List.mem_of_getElem? (i := 6) rfl))) (mvT hZ (hw _ (List.mem_of_getElem? (i := 7) rfl))) (mvT hZ (hw _ (List.mem_of_getElem? (i := 3) rfl))) (mvT hZ (hw _ (List.mem_of_getElem? (i := 8) rfl))) (by decide) (backOf (W := 0) (rm2 l Z a0 hw [] (2147483647 : Int64) (own_max (0 : Int64) (x7 + (((x4 / (3 : Int32)) % (3 : Int32)).toInt64))) h0 n0 Z0) hZ (hw _ (List.mem_of_getElem? (i := 8) rfl)) (hw _ (List.mem_of_getElem? (i := 3) rfl)) (by decide) (by decide)) (g := (mkF m 62 #[.val (.int x0), .val (.long x1), .second, .val (.int x3), .val (.int x4), .val (.int x5), .val (.int x6), .val (.long x7), .second, .unset, .unset, .unset, .unset, .unset, .unset, .unset, .unset] [(.long (own_max (0 : Int64) (x7 + (((x4 / (3 : Int32)) % (3 : Int32)).toInt64)))), (.long (2147483647 : Int64))])) rfl (by rw [hml]; rfl) (argsL := [(.long (2147483647 : Int64)), (.long (own_max (0 : Int64) (x7 + (((x4 / (3 : Int32)) % (3 : Int32)).toInt64))))]) (rest := []) (lenOf pd_sgb_0 rfl) rfl (by show 2 * 0 + _ ≤ _; exact Nat.le_of_eq rfl) (hb hby at_62) (fun _ _ => ⟨rfl, e1, (by decide : 0 + 0 ≤ _), (by decide : 0 + 0 ≤ _)⟩)
    dsimp only [Pt.U, Pt.locs, Pt.cells, Pt.slots] at X2 l2 y2 z2 st2 hQ2
    subst l2 y2 z2
    obtain ⟨rfl, N2q, e2⟩ := hQ2
    have N2 := Fr.app N1 N2q
    have hv : (own_ot x3 x4 x5 x7) = ((own_min (2147483647 : Int64) (own_max (0 : Int64) (x7 + (((x4 / (3 : Int32)) % (3 : Int32)).toInt64)))).toInt32) := if_neg hfl
    refine ⟨T2, _, X2, e2, N2, fun t k => ?_⟩
    rw [hv] at k
    show Steps p.tables e below (T0.setTop (mkF m 38 #[.val (.int x0), .val (.long x1), .second, .val (.int x3), .val (.int x4), .val (.int x5), .val (.int x6), .val (.long x7), .second, .unset, .unset, .unset, .unset, .unset, .unset, .unset, .unset] [])) _
    refine XS.iload X0.here hx rfl (hb hby at_38) rfl ?_
    show Steps p.tables e below (T0.setTop (mkF m 40 #[.val (.int x0), .val (.long x1), .second, .val (.int x3), .val (.int x4), .val (.int x5), .val (.int x6), .val (.long x7), .second, .unset, .unset, .unset, .unset, .unset, .unset, .unset, .unset] [(.int x5)])) _
    refine XS.iconst X0.here hx rfl (hb hby at_40) ?_
    show Steps p.tables e below (T0.setTop (mkF m 41 #[.val (.int x0), .val (.long x1), .second, .val (.int x3), .val (.int x4), .val (.int x5), .val (.int x6), .val (.long x7), .second, .unset, .unset, .unset, .unset, .unset, .unset, .unset, .unset] [(.int (2 : Int32)), (.int x5)])) _
    refine XS.iand X0.here hx rfl (hb hby at_41) rfl ?_
    show Steps p.tables e below (T0.setTop (mkF m 42 #[.val (.int x0), .val (.long x1), .second, .val (.int x3), .val (.int x4), .val (.int x5), .val (.int x6), .val (.long x7), .second, .unset, .unset, .unset, .unset, .unset, .unset, .unset, .unset] [(.int (x5 &&& (2 : Int32)))])) _
    refine XS.ifNo X0.here hx rfl (hb hby at_42) rfl ((if0 _ _).trans (feq hfl).1) ?_
    show Steps p.tables e below (T0.setTop (mkF m 45 #[.val (.int x0), .val (.long x1), .second, .val (.int x3), .val (.int x4), .val (.int x5), .val (.int x6), .val (.long x7), .second, .unset, .unset, .unset, .unset, .unset, .unset, .unset, .unset] [])) _
    refine X0.ldc2Long hx hown (mvT hZ (hw _ (List.mem_of_getElem? (i := 5) rfl))) (g := (mkF m 45 #[.val (.int x0), .val (.long x1), .second, .val (.int x3), .val (.int x4), .val (.int x5), .val (.int x6), .val (.long x7), .second, .unset, .unset, .unset, .unset, .unset, .unset, .unset, .unset] [])) rfl (hb hby at_45) _ ?_
    show Steps p.tables e below (T0.setTop (mkF m 48 #[.val (.int x0), .val (.long x1), .second, .val (.int x3), .val (.int x4), .val (.int x5), .val (.int x6), .val (.long x7), .second, .unset, .unset, .unset, .unset, .unset, .unset, .unset, .unset] [(.long (2147483647 : Int64))])) _
    refine XS.lconst X0.here hx rfl (hb hby at_48) ?_
    show Steps p.tables e below (T0.setTop (mkF m 49 #[.val (.int x0), .val (.long x1), .second, .val (.int x3), .val (.int x4), .val (.int x5), .val (.int x6), .val (.long x7), .second, .unset, .unset, .unset, .unset, .unset, .unset, .unset, .unset] [(.long (0 : Int64)), (.long (2147483647 : Int64))])) _
    refine XS.lload X0.here hx rfl (hb hby at_49) rfl ?_
    show Steps p.tables e below (T0.setTop (mkF m 51 #[.val (.int x0), .val (.long x1), .second, .val (.int x3), .val (.int x4), .val (.int x5), .val (.int x6), .val (.long x7), .second, .unset, .unset, .unset, .unset, .unset, .unset, .unset, .unset] [(.long x7), (.long (0 : Int64)), (.long (2147483647 : Int64))])) _
    refine XS.iload X0.here hx rfl (hb hby at_51) rfl ?_
    show Steps p.tables e below (T0.setTop (mkF m 53 #[.val (.int x0), .val (.long x1), .second, .val (.int x3), .val (.int x4), .val (.int x5), .val (.int x6), .val (.long x7), .second, .unset, .unset, .unset, .unset, .unset, .unset, .unset, .unset] [(.int x4), (.long x7), (.long (0 : Int64)), (.long (2147483647 : Int64))])) _
    refine XS.iconst X0.here hx rfl (hb hby at_53) ?_
    show Steps p.tables e below (T0.setTop (mkF m 54 #[.val (.int x0), .val (.long x1), .second, .val (.int x3), .val (.int x4), .val (.int x5), .val (.int x6), .val (.long x7), .second, .unset, .unset, .unset, .unset, .unset, .unset, .unset, .unset] [(.int (3 : Int32)), (.int x4), (.long x7), (.long (0 : Int64)), (.long (2147483647 : Int64))])) _
    refine XS.idiv X0.here hx rfl (hb hby at_54) rfl (by decide) ?_
    show Steps p.tables e below (T0.setTop (mkF m 55 #[.val (.int x0), .val (.long x1), .second, .val (.int x3), .val (.int x4), .val (.int x5), .val (.int x6), .val (.long x7), .second, .unset, .unset, .unset, .unset, .unset, .unset, .unset, .unset] [(.int (x4 / (3 : Int32))), (.long x7), (.long (0 : Int64)), (.long (2147483647 : Int64))])) _
    refine XS.iconst X0.here hx rfl (hb hby at_55) ?_
    show Steps p.tables e below (T0.setTop (mkF m 56 #[.val (.int x0), .val (.long x1), .second, .val (.int x3), .val (.int x4), .val (.int x5), .val (.int x6), .val (.long x7), .second, .unset, .unset, .unset, .unset, .unset, .unset, .unset, .unset] [(.int (3 : Int32)), (.int (x4 / (3 : Int32))), (.long x7), (.long (0 : Int64)), (.long (2147483647 : Int64))])) _
    refine Jvm.RoadKit.iremM X0 hx rfl (hb hby at_56) rfl (by decide) ?_
    show Steps p.tables e below (T0.setTop (mkF m 57 #[.val (.int x0), .val (.long x1), .second, .val (.int x3), .val (.int x4), .val (.int x5), .val (.int x6), .val (.long x7), .second, .unset, .unset, .unset, .unset, .unset, .unset, .unset, .unset] [(.int ((x4 / (3 : Int32)) % (3 : Int32))), (.long x7), (.long (0 : Int64)), (.long (2147483647 : Int64))])) _
    refine XS.i2l X0.here hx rfl (hb hby at_57) rfl ?_
    show Steps p.tables e below (T0.setTop (mkF m 58 #[.val (.int x0), .val (.long x1), .second, .val (.int x3), .val (.int x4), .val (.int x5), .val (.int x6), .val (.long x7), .second, .unset, .unset, .unset, .unset, .unset, .unset, .unset, .unset] [(.long (((x4 / (3 : Int32)) % (3 : Int32)).toInt64)), (.long x7), (.long (0 : Int64)), (.long (2147483647 : Int64))])) _
    refine XS.ladd X0.here hx rfl (hb hby at_58) rfl ?_
    show Steps p.tables e below (T0.setTop (mkF m 59 #[.val (.int x0), .val (.long x1), .second, .val (.int x3), .val (.int x4), .val (.int x5), .val (.int x6), .val (.long x7), .second, .unset, .unset, .unset, .unset, .unset, .unset, .unset, .unset] [(.long (x7 + (((x4 / (3 : Int32)) % (3 : Int32)).toInt64))), (.long (0 : Int64)), (.long (2147483647 : Int64))])) _
    refine st1 _ ?_
    show Steps p.tables e below (T1.setTop (mkF m 62 #[.val (.int x0), .val (.long x1), .second, .val (.int x3), .val (.int x4), .val (.int x5), .val (.int x6), .val (.long x7), .second, .unset, .unset, .unset, .unset, .unset, .unset, .unset, .unset] [(.long (own_max (0 : Int64) (x7 + (((x4 / (3 : Int32)) % (3 : Int32)).toInt64)))), (.long (2147483647 : Int64))])) _
    refine st2 _ ?_
    show Steps p.tables e below (T2.setTop (mkF m 65 #[.val (.int x0), .val (.long x1), .second, .val (.int x3), .val (.int x4), .val (.int x5), .val (.int x6), .val (.long x7), .second, .unset, .unset, .unset, .unset, .unset, .unset, .unset, .unset] [(.long (own_min (2147483647 : Int64) (own_max (0 : Int64) (x7 + (((x4 / (3 : Int32)) % (3 : Int32)).toInt64)))))])) _
    refine XS.l2i X2.here hx rfl (hb hby at_65) rfl ?_
    show Steps p.tables e below (T2.setTop (mkF m 66 #[.val (.int x0), .val (.long x1), .second, .val (.int x3), .val (.int x4), .val (.int x5), .val (.int x6), .val (.long x7), .second, .unset, .unset, .unset, .unset, .unset, .unset, .unset, .unset] [(.int ((own_min (2147483647 : Int64) (own_max (0 : Int64) (x7 + (((x4 / (3 : Int32)) % (3 : Int32)).toInt64)))).toInt32))])) _
    refine XS.istore X2.here hx rfl (hb hby at_66) rfl (l' := #[.val (.int x0), .val (.long x1), .second, .val (.int x3), .val (.int x4), .val (.int x5), .val (.int x6), .val (.long x7), .second, .val (.int ((own_min (2147483647 : Int64) (own_max (0 : Int64) (x7 + (((x4 / (3 : Int32)) % (3 : Int32)).toInt64)))).toInt32)), .unset, .unset, .unset, .unset, .unset, .unset, .unset]) rfl ?_
    show Steps p.tables e below (T2.setTop (mkF m 68 #[.val (.int x0), .val (.long x1), .second, .val (.int x3), .val (.int x4), .val (.int x5), .val (.int x6), .val (.long x7), .second, .val (.int ((own_min (2147483647 : Int64) (own_max (0 : Int64) (x7 + (((x4 / (3 : Int32)) % (3 : Int32)).toInt64)))).toInt32)), .unset, .unset, .unset, .unset, .unset, .unset, .unset] [])) _
    refine XS.goto X2.here hx rfl (pc0 := 68) (pc' := 77) rfl (hb hby at_68) (by decide) (by decide) ?_
    exact k
theorem pd_0_0 : parseMethodDescriptor "(IJ)V" = some ⟨[.int, .long], none⟩ := by decide +kernel
theorem pd_0_1 : parseMethodDescriptor "()Z" = some ⟨[], some .boolean⟩ := by decide +kernel
theorem pd_0_2 : parseMethodDescriptor "(I)Lcom/example/tideline/tideline/storage/UncompressBound;" = some ⟨[.int], some (.object "com/example/tideline/tideline/storage/UncompressBound")⟩ := by decide +kernel
theorem pd_0_3 : parseMethodDescriptor "(I)V" = some ⟨[.int], none⟩ := by decide +kernel
theorem pn_0 : plainName "com/example/tideline/tideline/storage/UncompressBoundHoldsEachPinLaw" = true := by first | (simp [plainName, overriddenIn]; done) | decide +kernel
theorem ef_0 (m : MethodId) (x0 : Int32) (x1 : Int64) (x2 : Int32) (x3 : Int32) (x4 : Int32) : entryFrame m #[(.int x0), (.long x1), (.int x2), (.int x3), (.int x4)] maxLocals = mkF m 0 #[.val (.int x0), .val (.long x1), .second, .val (.int x2), .val (.int x3), .val (.int x4), .unset, .unset, .unset, .unset, .unset, .unset, .unset, .unset, .unset, .unset, .unset] [] := by first | (simp [entryFrame, mkF, argsToLocals, Value.category, maxLocals]; done) | rfl
def Q0 (Z : State) (p1 : Int32) (q2 : Int64) (p3 : Int32) (p4 : Int32) (p5 : Int32) (h0 : Heap) (n0 : Nat) (v : Option Value) (h : Heap) (L : List Loc) : Prop := v = some (.int 1) ∧ Fr n0 L
set_option maxRecDepth 65536 in
set_option maxHeartbeats 40000000 in
theorem rm0 (l : Launch) (Z : State) (a0 : Array Value) (hw : ∀ d ∈ tables_1, d.before a0 Z = true) (ws : List Jvm.Cond) (p1 : Int32) (q2 : Int64) (p3 : Int32) (p4 : Int32) (p5 : Int32) (h0 : Heap) (n0 : Nat) (Z0 : n0 ≤ h0.size)  :
    MetFree l x (head1 (Jvm.Cond.code x code maxLocals ret :: ws) room_1) (fun a U => a = #[(.int p1), (.long q2), (.int p3), (.int p4), (.int p5)] ∧ Z.Warmed39 U.vm ∧ U.heap = h0) (fun _ _ _ _ _ => True) (fun _ U o U' => ∃ v L, o = .returned v ∧ Q0 Z p1 q2 p3 p4 p5 h0 n0 v U'.heap L ∧ ReturnedEndW U o U' L room_1.cells room_1.slots) := by
  refine MetFree.of_bodySF (plainFor_of_name pn_0) hisR ?_
  intro p e s m args below meth c s₁ Bd hml0 hP hK
  obtain ⟨rfl, hZ, hh⟩ := hP
  have hx := Bd.exec
  have hby := Bd.bytes
  have hml : c.maxLocals = 17 := hml0
  have hown : s.vm.findClass "com/example/tideline/tideline/storage/UncompressBoundHoldsEachPinLaw" = some m.cls := findClass_of_methodNamed Bd.named
  have hnm := (name_of_methodNamed Bd.named Bd.method).1
  have X0 : Stand p l e room_1 s m #[(.int p1), (.long q2), (.int p3), (.int p4), (.int p5)] below meth c s₁ [] 0 0 := Stand.of_body Bd
  have e0 : s₁.heap = h0 := by rw [← hh, Bd.state]; rfl
  have N0 := Fr.nil n0
  have pre0 : ∀ t, Steps p.tables e below (s₁.setTop (mkF m 0 #[.val (.int p1), .val (.long q2), .second, .val (.int p3), .val (.int p4), .val (.int p5), .unset, .unset, .unset, .unset, .unset, .unset, .unset, .unset, .unset, .unset, .unset] [])) t → Steps p.tables e below (s₁.setTop (entryFrame m #[(.int p1), (.long q2), (.int p3), (.int p4), (.int p5)] maxLocals)) t := fun t k => castTop (ef_0 m p1 q2 p3 p4 p5) k
  obtain ⟨v1, hv1⟩ : ∃ z : Int32, z = (p1 &&& (2147483647 : Int32)) := ⟨_, rfl⟩
  obtain ⟨TA, LA, XA, eA, NA, stA⟩ := sga p1 q2 p3 p4 p5 v1 n0 X0 hx hZ hw hby hml hown e0 N0 Z0
  obtain ⟨ia, hia⟩ : ∃ z : Int64, z = (own_ia v1 p4 p5 q2) := ⟨_, rfl⟩
  rw [← hia] at stA
  have ia0 : ¬ (ia < (0 : Int64)) := by rw [hia]; exact own_ia0 _ _ _ _
  have me0 : ¬ (v1 < (0 : Int32)) := by rw [hv1]; exact own_mask _
  obtain ⟨TB, LB, XB, eB, NB, stB⟩ := sgb p1 q2 p3 p4 p5 v1 ia n0 XA hx hZ hw hby hml hown eA NA Z0
  obtain ⟨ot, hot⟩ : ∃ z : Int32, z = (own_ot p3 p4 p5 ia) := ⟨_, rfl⟩
  rw [← hot] at stB
  have ot0 : ¬ (ot < (0 : Int32)) := by rw [hot]; exact own_ot0 _ _ _ _
  obtain ⟨T2, h2, X2, e2, E2, A2, D2, -, st2⟩ := newO XB hx hZ hown (hw _ (List.mem_of_getElem? (i := 9) rfl)) (hw _ (List.mem_of_getElem? (i := 10) rfl)) (hw _ (List.mem_of_getElem? (i := 11) rfl)) eB (g := (mkF m 77 #[.val (.int p1), .val (.long q2), .second, .val (.int p3), .val (.int p4), .val (.int p5), .val (.int v1), .val (.long ia), .second, .val (.int ot), .unset, .unset, .unset, .unset, .unset, .unset, .unset] [])) rfl (hb hby at_77) (by decide) (by decide)
  obtain ⟨b1, g2⟩ : ∃ z, z = h0.size := ⟨_, rfl⟩
  rw [← g2] at A2 D2 st2
  have gb1 : n0 ≤ b1 := Nat.le_trans Z0 (Nat.le_of_eq g2.symm)
  have Zb1 : n0 ≤ h2.size := Nat.le_trans Z0 E2.1
  have Vb1 : own_U Z h2 b1 0 .null := ⟨A2, (D2 (Or.inr (hw _ (List.mem_of_getElem? (i := 44) rfl))) (ty := .int) (by decide)), (D2 (Or.inr (hw _ (List.mem_of_getElem? (i := 46) rfl))) (ty := (.object "com/example/tideline/tideline/storage/UncompressBound$Whole")) (by decide))⟩
  obtain ⟨_, _, ⟨T3, L3, k3, n3⟩, -, X3, hs3, gr3, ⟨Lc3, hQ3, l3, y3, z3⟩, st3⟩ := X2.specialBackS hx (y := (⟨"com/example/tideline/tideline/storage/UncompressBound", "<init>", "(IJ)V"⟩ : MethodName)) rfl hown (mvT hZ (hw _ (List.mem_of_getElem? (i := 12) rfl))) (mvT hZ (hw _ (List.mem_of_getElem? (i := 13) rfl))) (mvT hZ (hw _ (List.mem_of_getElem? (i := 14) rfl))) (by decide) (backOfS (W := 1) (rm3 l Z a0 hw [] b1 v1 ia h2 n0 Zb1 Vb1 gb1 me0 ia0) hZ (hw _ (List.mem_of_getElem? (i := 14) rfl)) (hw _ (List.mem_of_getElem? (i := 11) rfl)) (by decide) (by decide)) (g := (mkF m 85 #[.val (.int p1), .val (.long q2), .second, .val (.int p3), .val (.int p4), .val (.int p5), .val (.int v1), .val (.long ia), .second, .val (.int ot), .unset, .unset, .unset, .unset, .unset, .unset, .unset] [(.long ia), (.int v1), (.ref b1), (.ref b1)])) rfl (by rw [hml]; rfl) (Steps.refl _) (a := b1) (argsL := [(.int v1), (.long ia)]) (rest := [(.ref b1)]) (lenOf pd_0_0 rfl) rfl (by show 2 * 0 + _ ≤ _; exact Nat.le_of_eq rfl) (hb hby at_85) (fun _ _ => ⟨rfl, e2, (by decide : 1 + 5 ≤ _), (by decide : 2 + 86 ≤ _)⟩)
  dsimp only [Pt.U, Pt.locs, Pt.cells, Pt.slots] at X3 hs3 gr3 l3 y3 z3 st3 hQ3
  subst l3 y3 z3
  obtain ⟨rfl, N3q, K3, wa, U1, W1⟩ := hQ3
  have N3 := Fr.app NB N3q
  have hZ3 : Z.Warmed39 (s.setVm T3.vm).vm := State.Warmed39.trans (t := s) hZ hs3.1
  have hown3 : (s.setVm T3.vm).vm.findClass "com/example/tideline/tideline/storage/UncompressBoundHoldsEachPinLaw" = some m.cls := by rw [show (s.setVm T3.vm).vm = T3.vm from rfl, hs3.1.alike.findClass]; exact hown
  have hS3 : s.Since T3.vm T3.heap.size := hs3
  have Z2 : n0 ≤ T3.heap.size := Nat.le_trans Zb1 K3.1
  obtain ⟨cq4, kq4, q4a, q4b, q4c⟩ := isOf hZ3 rfl U1.1
  obtain ⟨_, _, ⟨T4, L4, k4, n4⟩, -, X4, ⟨Lc4, hQ4, l4, y4, z4⟩, st4⟩ := X3.virtualBack hx (y := (⟨"com/example/tideline/tideline/storage/UncompressBound", "holdsEach", "()Z"⟩ : MethodName)) (z := (⟨"com/example/tideline/tideline/storage/UncompressBound", "holdsEach", "()Z"⟩ : MethodName)) hown3 (mvT hZ3 (hw _ (List.mem_of_getElem? (i := 48) rfl))) (mvT hZ3 (hw _ (List.mem_of_getElem? (i := 49) rfl))) (notFace_of_selects (args := #[]) (mvT hZ3 (hw _ (List.mem_of_getElem? (i := 51) rfl)))) (mvT hZ3 (hw _ (List.mem_of_getElem? (i := 51) rfl))) (mvT hZ3 (hw _ (List.mem_of_getElem? (i := 50) rfl))) (by decide) (backOf (W := 0) (rm8 l Z a0 hw [] b1 v1 wa ia ia T3.heap n0 Z2 U1 W1) hZ3 (hw _ (List.mem_of_getElem? (i := 52) rfl)) (hw _ (List.mem_of_getElem? (i := 11) rfl)) (by decide) (by decide)) q4a q4c (g := (mkF m 92 #[.val (.int p1), .val (.long q2), .second, .val (.int p3), .val (.int p4), .val (.int p5), .val (.int v1), .val (.long ia), .second, .val (.int ot), .val (.ref b1), .unset, .unset, .unset, .unset, .unset, .unset] [(.ref b1)])) rfl (by rw [hml]; rfl) (Steps.refl _) (argsL := []) (rest := []) (lenOf pd_0_1 rfl) rfl (by show 2 * 0 + _ ≤ _; exact Nat.le_of_eq rfl) (hb hby at_92) (fun _ _ => ⟨rfl, rfl, (by decide : 6 + 0 ≤ _), (by decide : 88 + 0 ≤ _)⟩)
  dsimp only [Pt.U, Pt.locs, Pt.cells, Pt.slots] at X4 l4 y4 z4 st4 hQ4
  subst l4 y4 z4
  obtain ⟨rfl, N4q, e4⟩ := hQ4
  have N4 := Fr.app N3 N4q
  obtain ⟨cq5, kq5, q5a, q5b, q5c⟩ := isOf hZ3 e4 U1.1
  obtain ⟨_, _, ⟨T5, L5, k5, n5⟩, -, X5, hs5, gr5, ⟨Lc5, hQ5, l5, y5, z5⟩, st5⟩ := X4.virtualBackS hx (y := (⟨"com/example/tideline/tideline/storage/UncompressBound", "withEach", "(I)Lcom/example/tideline/tideline/storage/UncompressBound;"⟩ : MethodName)) (z := (⟨"com/example/tideline/tideline/storage/UncompressBound", "withEach", "(I)Lcom/example/tideline/tideline/storage/UncompressBound;"⟩ : MethodName)) hown3 (mvT hZ3 (hw _ (List.mem_of_getElem? (i := 54) rfl))) (mvT hZ3 (hw _ (List.mem_of_getElem? (i := 55) rfl))) (notFace_of_selects (args := #[]) (mvT hZ3 (hw _ (List.mem_of_getElem? (i := 57) rfl)))) (mvT hZ3 (hw _ (List.mem_of_getElem? (i := 57) rfl))) (mvT hZ3 (hw _ (List.mem_of_getElem? (i := 56) rfl))) (by decide) (backOfS (W := 0) (rm9 l Z a0 hw [] b1 ot v1 wa T3.heap n0 Z2 U1 ot0) hZ3 (hw _ (List.mem_of_getElem? (i := 58) rfl)) (hw _ (List.mem_of_getElem? (i := 11) rfl)) (by decide) (by decide)) q5a q5c (g := (mkF m 101 #[.val (.int p1), .val (.long q2), .second, .val (.int p3), .val (.int p4), .val (.int p5), .val (.int v1), .val (.long ia), .second, .val (.int ot), .val (.ref b1), .val (.int (own_h ia v1)), .unset, .unset, .unset, .unset, .unset] [(.int ot), (.ref b1)])) rfl (by rw [hml]; rfl) (Steps.refl _) (argsL := [(.int ot)]) (rest := []) (lenOf pd_0_2 rfl) rfl (by show 2 * 0 + _ ≤ _; exact Nat.le_of_eq rfl) (hb hby at_101) (fun _ _ => ⟨rfl, e4, (by decide : 6 + 3 ≤ _), (by decide : 88 + 30 ≤ _)⟩)
  dsimp only [Pt.U, Pt.locs, Pt.cells, Pt.slots] at X5 hs5 gr5 l5 y5 z5 st5 hQ5
  subst l5 y5 z5
  obtain ⟨b2, rfl, N5q, K5, V2⟩ := hQ5
  have N5 := Fr.app N4 N5q
  have hZ5 : Z.Warmed39 (s.setVm T5.vm).vm := State.Warmed39.trans (t := (s.setVm T3.vm)) hZ3 hs5.1
  have hown5 : (s.setVm T5.vm).vm.findClass "com/example/tideline/tideline/storage/UncompressBoundHoldsEachPinLaw" = some m.cls := by rw [show (s.setVm T5.vm).vm = T5.vm from rfl, hs5.1.alike.findClass]; exact hown3
  have hS5 : s.Since T5.vm T5.heap.size := foldS (T := T4) hS3 (by rw [e4]; exact Nat.le_refl _) hs5 gr5
  have Z3 : n0 ≤ T5.heap.size := Nat.le_trans Z2 K5.1
  have U2 := own_U.keep U1 K5 nin0
  have W2 := own_W.keep W1 K5 nin0
  obtain ⟨cq6, kq6, q6a, q6b, q6c⟩ := isOf hZ5 rfl V2.1
  obtain ⟨_, _, ⟨T6, L6, k6, n6⟩, -, X6, ⟨Lc6, hQ6, l6, y6, z6⟩, st6⟩ := X5.virtualBack hx (y := (⟨"com/example/tideline/tideline/storage/UncompressBound", "holdsEach", "()Z"⟩ : MethodName)) (z := (⟨"com/example/tideline/tideline/storage/UncompressBound", "holdsEach", "()Z"⟩ : MethodName)) hown5 (mvT hZ5 (hw _ (List.mem_of_getElem? (i := 48) rfl))) (mvT hZ5 (hw _ (List.mem_of_getElem? (i := 49) rfl))) (notFace_of_selects (args := #[]) (mvT hZ5 (hw _ (List.mem_of_getElem? (i := 51) rfl)))) (mvT hZ5 (hw _ (List.mem_of_getElem? (i := 51) rfl))) (mvT hZ5 (hw _ (List.mem_of_getElem? (i := 50) rfl))) (by decide) (backOf (W := 0) (rm8 l Z a0 hw [] b2 ot wa ia ia T5.heap n0 Z3 V2 W2) hZ5 (hw _ (List.mem_of_getElem? (i := 52) rfl)) (hw _ (List.mem_of_getElem? (i := 11) rfl)) (by decide) (by decide)) q6a q6c (g := (mkF m 108 #[.val (.int p1), .val (.long q2), .second, .val (.int p3), .val (.int p4), .val (.int p5), .val (.int v1), .val (.long ia), .second, .val (.int ot), .val (.ref b1), .val (.int (own_h ia v1)), .val (.ref b2), .unset, .unset, .unset, .unset] [(.ref b2)])) rfl (by rw [hml]; rfl) (Steps.refl _) (argsL := []) (rest := []) (lenOf pd_0_1 rfl) rfl (by show 2 * 0 + _ ≤ _; exact Nat.le_of_eq rfl) (hb hby at_108) (fun _ _ => ⟨rfl, rfl, (by decide : 9 + 0 ≤ _), (by decide : 118 + 0 ≤ _)⟩)
  dsimp only [Pt.U, Pt.locs, Pt.cells, Pt.slots] at X6 l6 y6 z6 st6 hQ6
  subst l6 y6 z6
  obtain ⟨rfl, N6q, e6⟩ := hQ6
  have N6 := Fr.app N5 N6q
  obtain ⟨cq7, kq7, q7a, q7b, q7c⟩ := isOf hZ5 e6 U2.1
  obtain ⟨_, _, ⟨T7, L7, k7, n7⟩, -, X7, ⟨Lc7, hQ7, l7, y7, z7⟩, st7⟩ := X6.virtualBack hx (y := (⟨"com/example/tideline/tideline/storage/UncompressBound", "holdsEach", "()Z"⟩ : MethodName)) (z := (⟨"com/example/tideline/tideline/storage/UncompressBound", "holdsEach", "()Z"⟩ : MethodName)) hown5 (mvT hZ5 (hw _ (List.mem_of_getElem? (i := 48) rfl))) (mvT hZ5 (hw _ (List.mem_of_getElem? (i := 49) rfl))) (notFace_of_selects (args := #[]) (mvT hZ5 (hw _ (List.mem_of_getElem? (i := 51) rfl)))) (mvT hZ5 (hw _ (List.mem_of_getElem? (i := 51) rfl))) (mvT hZ5 (hw _ (List.mem_of_getElem? (i := 50) rfl))) (by decide) (backOf (W := 0) (rm8 l Z a0 hw [] b1 v1 wa ia ia T5.heap n0 Z3 U2 W2) hZ5 (hw _ (List.mem_of_getElem? (i := 52) rfl)) (hw _ (List.mem_of_getElem? (i := 11) rfl)) (by decide) (by decide)) q7a q7c (g := (mkF m 115 #[.val (.int p1), .val (.long q2), .second, .val (.int p3), .val (.int p4), .val (.int p5), .val (.int v1), .val (.long ia), .second, .val (.int ot), .val (.ref b1), .val (.int (own_h ia v1)), .val (.ref b2), .val (.int (own_h ia ot)), .unset, .unset, .unset] [(.ref b1)])) rfl (by rw [hml]; rfl) (Steps.refl _) (argsL := []) (rest := []) (lenOf pd_0_1 rfl) rfl (by show 2 * 0 + _ ≤ _; exact Nat.le_of_eq rfl) (hb hby at_115) (fun _ _ => ⟨rfl, e6, (by decide : 9 + 0 ≤ _), (by decide : 118 + 0 ≤ _)⟩)
  dsimp only [Pt.U, Pt.locs, Pt.cells, Pt.slots] at X7 l7 y7 z7 st7 hQ7
  subst l7 y7 z7
  obtain ⟨rfl, N7q, e7⟩ := hQ7
  have N7 := Fr.app N6 N7q
  obtain ⟨T8, h8, X8, e8, E8, A8, D8, -, st8⟩ := newO X7 hx hZ5 hown5 (hw _ (List.mem_of_getElem? (i := 9) rfl)) (hw _ (List.mem_of_getElem? (i := 10) rfl)) (hw _ (List.mem_of_getElem? (i := 11) rfl)) e7 (g := (mkF m 120 #[.val (.int p1), .val (.long q2), .second, .val (.int p3), .val (.int p4), .val (.int p5), .val (.int v1), .val (.long ia), .second, .val (.int ot), .val (.ref b1), .val (.int (own_h ia v1)), .val (.ref b2), .val (.int (own_h ia ot)), .val (.int (own_h ia v1)), .unset, .unset] [])) rfl (hb hby at_120) (by decide) (by decide)
  obtain ⟨b3, g8⟩ : ∃ z, z = T5.heap.size := ⟨_, rfl⟩
  rw [← g8] at A8 D8 st8
  have gb3 : n0 ≤ b3 := Nat.le_trans Z3 (Nat.le_of_eq g8.symm)
  have Zb3 : n0 ≤ h8.size := Nat.le_trans Z3 E8.1
  have Vb3 : own_U Z h8 b3 0 .null := ⟨A8, (D8 (Or.inr (hw _ (List.mem_of_getElem? (i := 44) rfl))) (ty := .int) (by decide)), (D8 (Or.inr (hw _ (List.mem_of_getElem? (i := 46) rfl))) (ty := (.object "com/example/tideline/tideline/storage/UncompressBound$Whole")) (by decide))⟩
  obtain ⟨_, _, ⟨T9, L9, k9, n9⟩, -, X9, hs9, gr9, ⟨Lc9, hQ9, l9, y9, z9⟩, st9⟩ := X8.specialBackS hx (y := (⟨"com/example/tideline/tideline/storage/UncompressBound", "<init>", "(I)V"⟩ : MethodName)) rfl hown5 (mvT hZ5 (hw _ (List.mem_of_getElem? (i := 60) rfl))) (mvT hZ5 (hw _ (List.mem_of_getElem? (i := 61) rfl))) (mvT hZ5 (hw _ (List.mem_of_getElem? (i := 62) rfl))) (by decide) (backOfS (W := 1) (rm10 l Z a0 hw [] b3 v1 h8 n0 Zb3 Vb3 gb3 me0) hZ5 (hw _ (List.mem_of_getElem? (i := 62) rfl)) (hw _ (List.mem_of_getElem? (i := 11) rfl)) (by decide) (by decide)) (g := (mkF m 126 #[.val (.int p1), .val (.long q2), .second, .val (.int p3), .val (.int p4), .val (.int p5), .val (.int v1), .val (.long ia), .second, .val (.int ot), .val (.ref b1), .val (.int (own_h ia v1)), .val (.ref b2), .val (.int (own_h ia ot)), .val (.int (own_h ia v1)), .unset, .unset] [(.int v1), (.ref b3), (.ref b3)])) rfl (by rw [hml]; rfl) (Steps.refl _) (a := b3) (argsL := [(.int v1)]) (rest := [(.ref b3)]) (lenOf pd_0_3 rfl) rfl (by show 2 * 0 + _ ≤ _; exact Nat.le_of_eq rfl) (hb hby at_126) (fun _ _ => ⟨rfl, e8, (by decide : 10 + 5 ≤ _), (by decide : 120 + 86 ≤ _)⟩)
  dsimp only [Pt.U, Pt.locs, Pt.cells, Pt.slots] at X9 hs9 gr9 l9 y9 z9 st9 hQ9
  subst l9 y9 z9
  obtain ⟨rfl, N9q, K9, wc, U4, W4⟩ := hQ9
  have N9 := Fr.app N7 N9q
  have hZ9 : Z.Warmed39 (s.setVm T9.vm).vm := State.Warmed39.trans (t := (s.setVm T5.vm)) hZ5 hs9.1
  have hown9 : (s.setVm T9.vm).vm.findClass "com/example/tideline/tideline/storage/UncompressBoundHoldsEachPinLaw" = some m.cls := by rw [show (s.setVm T9.vm).vm = T9.vm from rfl, hs9.1.alike.findClass]; exact hown5
  have hS9 : s.Since T9.vm T9.heap.size := foldS (T := T8) hS5 (by rw [e8]; exact E8.1) hs9 gr9
  have Z4 : n0 ≤ T9.heap.size := Nat.le_trans Zb3 K9.1
  obtain ⟨cq10, kq10, q10a, q10b, q10c⟩ := isOf hZ9 rfl U4.1
  obtain ⟨_, _, ⟨T10, L10, k10, n10⟩, -, X10, ⟨Lc10, hQ10, l10, y10, z10⟩, st10⟩ := X9.virtualBack hx (y := (⟨"com/example/tideline/tideline/storage/UncompressBound", "holdsEach", "()Z"⟩ : MethodName)) (z := (⟨"com/example/tideline/tideline/storage/UncompressBound", "holdsEach", "()Z"⟩ : MethodName)) hown9 (mvT hZ9 (hw _ (List.mem_of_getElem? (i := 48) rfl))) (mvT hZ9 (hw _ (List.mem_of_getElem? (i := 49) rfl))) (notFace_of_selects (args := #[]) (mvT hZ9 (hw _ (List.mem_of_getElem? (i := 51) rfl)))) (mvT hZ9 (hw _ (List.mem_of_getElem? (i := 51) rfl))) (mvT hZ9 (hw _ (List.mem_of_getElem? (i := 50) rfl))) (by decide) (backOf (W := 0) (rm8 l Z a0 hw [] b3 v1 wc (9223372036854775807 : Int64) (9223372036854775807 : Int64) T9.heap n0 Z4 U4 W4) hZ9 (hw _ (List.mem_of_getElem? (i := 52) rfl)) (hw _ (List.mem_of_getElem? (i := 11) rfl)) (by decide) (by decide)) q10a q10c (g := (mkF m 133 #[.val (.int p1), .val (.long q2), .second, .val (.int p3), .val (.int p4), .val (.int p5), .val (.int v1), .val (.long ia), .second, .val (.int ot), .val (.ref b1), .val (.int (own_h ia v1)), .val (.ref b2), .val (.int (own_h ia ot)), .val (.int (own_h ia v1)), .val (.ref b3), .unset] [(.ref b3)])) rfl (by rw [hml]; rfl) (Steps.refl _) (argsL := []) (rest := []) (lenOf pd_0_1 rfl) rfl (by show 2 * 0 + _ ≤ _; exact Nat.le_of_eq rfl) (hb hby at_133) (fun _ _ => ⟨rfl, rfl, (by decide : 15 + 0 ≤ _), (by decide : 206 + 0 ≤ _)⟩)
  dsimp only [Pt.U, Pt.locs, Pt.cells, Pt.slots] at X10 l10 y10 z10 st10 hQ10
  subst l10 y10 z10
  obtain ⟨rfl, N10q, e10⟩ := hQ10
  have N10 := Fr.app N9 N10q
  obtain ⟨v12, hv12⟩ : ∃ z : Int32, z = if (ia < (v1.toInt64)) then (0 : Int32) else (1 : Int32) := ⟨_, rfl⟩
  have c1 : (own_h ia v1) = v12 := by rw [hv12]; rfl
  obtain ⟨v14, hv14⟩ : ∃ z : Int32, z = if (ia < (ot.toInt64)) then (0 : Int32) else (1 : Int32) := ⟨_, rfl⟩
  have c2 : (own_h ia ot) = v14 := by rw [hv14]; rfl
  obtain ⟨fs, hr, hrun, hended, hRE⟩ := Jvm.Stand.leaveW (s := s) (vm₁ := T9.vm) X10 hS9 (by rw [e10]; exact Nat.le_refl _) (v := some (.int (1 : Int32))) (fun h => by rw [Bd.returns] at h; cases h)
  refine ⟨_, _, pre0 _ ?_, hrun, hended, _, _, rfl, ?_, hRE.1, hRE.2.1, hRE.2.2.1, hRE.2.2.2.mono (by decide) (by decide)⟩
  · show Steps p.tables e below (s₁.setTop (mkF m 0 #[.val (.int p1), .val (.long q2), .second, .val (.int p3), .val (.int p4), .val (.int p5), .unset, .unset, .unset, .unset, .unset, .unset, .unset, .unset, .unset, .unset, .unset] [])) _
    refine XS.iloadN X0.here hx rfl (hb hby at_0) rfl ?_
    show Steps p.tables e below (s₁.setTop (mkF m 1 #[.val (.int p1), .val (.long q2), .second, .val (.int p3), .val (.int p4), .val (.int p5), .unset, .unset, .unset, .unset, .unset, .unset, .unset, .unset, .unset, .unset, .unset] [(.int p1)])) _
    refine X0.ldcInt hx hown (mvT hZ (hw _ (List.mem_of_getElem? (i := 0) rfl))) (g := (mkF m 1 #[.val (.int p1), .val (.long q2), .second, .val (.int p3), .val (.int p4), .val (.int p5), .unset, .unset, .unset, .unset, .unset, .unset, .unset, .unset, .unset, .unset, .unset] [(.int p1)])) rfl (hb hby at_1) _ ?_
    show Steps p.tables e below (s₁.setTop (mkF m 3 #[.val (.int p1), .val (.long q2), .second, .val (.int p3), .val (.int p4), .val (.int p5), .unset, .unset, .unset, .unset, .unset, .unset, .unset, .unset, .unset, .unset, .unset] [(.int (2147483647 : Int32)), (.int p1)])) _
    refine XS.iand X0.here hx rfl (hb hby at_3) rfl ?_
    show Steps p.tables e below (s₁.setTop (mkF m 4 #[.val (.int p1), .val (.long q2), .second, .val (.int p3), .val (.int p4), .val (.int p5), .unset, .unset, .unset, .unset, .unset, .unset, .unset, .unset, .unset, .unset, .unset] [(.int (p1 &&& (2147483647 : Int32)))])) _
    refine XS.istore X0.here hx rfl (hb hby at_4) rfl (l' := #[.val (.int p1), .val (.long q2), .second, .val (.int p3), .val (.int p4), .val (.int p5), .val (.int (p1 &&& (2147483647 : Int32))), .unset, .unset, .unset, .unset, .unset, .unset, .unset, .unset, .unset, .unset]) rfl ?_
    refine castTop (g' := (mkF m 6 #[.val (.int p1), .val (.long q2), .second, .val (.int p3), .val (.int p4), .val (.int p5), .val (.int v1), .unset, .unset, .unset, .unset, .unset, .unset, .unset, .unset, .unset, .unset] [])) (by rw [hv1]) ?_
    show Steps p.tables e below (s₁.setTop (mkF m 6 #[.val (.int p1), .val (.long q2), .second, .val (.int p3), .val (.int p4), .val (.int p5), .val (.int v1), .unset, .unset, .unset, .unset, .unset, .unset, .unset, .unset, .unset, .unset] [])) _
    refine stA _ ?_
    show Steps p.tables e below (TA.setTop (mkF m 38 #[.val (.int p1), .val (.long q2), .second, .val (.int p3), .val (.int p4), .val (.int p5), .val (.int v1), .val (.long ia), .second, .unset, .unset, .unset, .unset, .unset, .unset, .unset, .unset] [])) _
    refine stB _ ?_
    show Steps p.tables e below (TB.setTop (mkF m 77 #[.val (.int p1), .val (.long q2), .second, .val (.int p3), .val (.int p4), .val (.int p5), .val (.int v1), .val (.long ia), .second, .val (.int ot), .unset, .unset, .unset, .unset, .unset, .unset, .unset] [])) _
    refine st2 _ ?_
    show Steps p.tables e below (T2.setTop (mkF m 80 #[.val (.int p1), .val (.long q2), .second, .val (.int p3), .val (.int p4), .val (.int p5), .val (.int v1), .val (.long ia), .second, .val (.int ot), .unset, .unset, .unset, .unset, .unset, .unset, .unset] [(.ref b1)])) _
    refine XS.dup X2.here hx rfl (hb hby at_80) rfl rfl ?_
    show Steps p.tables e below (T2.setTop (mkF m 81 #[.val (.int p1), .val (.long q2), .second, .val (.int p3), .val (.int p4), .val (.int p5), .val (.int v1), .val (.long ia), .second, .val (.int ot), .unset, .unset, .unset, .unset, .unset, .unset, .unset] [(.ref b1), (.ref b1)])) _
    refine XS.iload X2.here hx rfl (hb hby at_81) rfl ?_
    show Steps p.tables e below (T2.setTop (mkF m 83 #[.val (.int p1), .val (.long q2), .second, .val (.int p3), .val (.int p4), .val (.int p5), .val (.int v1), .val (.long ia), .second, .val (.int ot), .unset, .unset, .unset, .unset, .unset, .unset, .unset] [(.int v1), (.ref b1), (.ref b1)])) _
    refine XS.lload X2.here hx rfl (hb hby at_83) rfl ?_
    show Steps p.tables e below (T2.setTop (mkF m 85 #[.val (.int p1), .val (.long q2), .second, .val (.int p3), .val (.int p4), .val (.int p5), .val (.int v1), .val (.long ia), .second, .val (.int ot), .unset, .unset, .unset, .unset, .unset, .unset, .unset] [(.long ia), (.int v1), (.ref b1), (.ref b1)])) _
    refine st3.trans ?_
    show Steps p.tables e below (T3.setTop (mkF m 88 #[.val (.int p1), .val (.long q2), .second, .val (.int p3), .val (.int p4), .val (.int p5), .val (.int v1), .val (.long ia), .second, .val (.int ot), .unset, .unset, .unset, .unset, .unset, .unset, .unset] [(.ref b1)])) _
    refine XS.astore X3.here hx rfl (hb hby at_88) rfl rfl (l' := #[.val (.int p1), .val (.long q2), .second, .val (.int p3), .val (.int p4), .val (.int p5), .val (.int v1), .val (.long ia), .second, .val (.int ot), .val (.ref b1), .unset, .unset, .unset, .unset, .unset, .unset]) rfl ?_
    show Steps p.tables e below (T3.setTop (mkF m 90 #[.val (.int p1), .val (.long q2), .second, .val (.int p3), .val (.int p4), .val (.int p5), .val (.int v1), .val (.long ia), .second, .val (.int ot), .val (.ref b1), .unset, .unset, .unset, .unset, .unset, .unset] [])) _
    refine XS.aload X3.here hx rfl (hb hby at_90) rfl rfl ?_
    show Steps p.tables e below (T3.setTop (mkF m 92 #[.val (.int p1), .val (.long q2), .second, .val (.int p3), .val (.int p4), .val (.int p5), .val (.int v1), .val (.long ia), .second, .val (.int ot), .val (.ref b1), .unset, .unset, .unset, .unset, .unset, .unset] [(.ref b1)])) _
    refine st4.trans ?_
    show Steps p.tables e below (T4.setTop (mkF m 95 #[.val (.int p1), .val (.long q2), .second, .val (.int p3), .val (.int p4), .val (.int p5), .val (.int v1), .val (.long ia), .second, .val (.int ot), .val (.ref b1), .unset, .unset, .unset, .unset, .unset, .unset] [(.int (own_h ia v1))])) _
    refine XS.istore X4.here hx rfl (hb hby at_95) rfl (l' := #[.val (.int p1), .val (.long q2), .second, .val (.int p3), .val (.int p4), .val (.int p5), .val (.int v1), .val (.long ia), .second, .val (.int ot), .val (.ref b1), .val (.int (own_h ia v1)), .unset, .unset, .unset, .unset, .unset]) rfl ?_
    show Steps p.tables e below (T4.setTop (mkF m 97 #[.val (.int p1), .val (.long q2), .second, .val (.int p3), .val (.int p4), .val (.int p5), .val (.int v1), .val (.long ia), .second, .val (.int ot), .val (.ref b1), .val (.int (own_h ia v1)), .unset, .unset, .unset, .unset, .unset] [])) _
    refine XS.aload X4.here hx rfl (hb hby at_97) rfl rfl ?_
    show Steps p.tables e below (T4.setTop (mkF m 99 #[.val (.int p1), .val (.long q2), .second, .val (.int p3), .val (.int p4), .val (.int p5), .val (.int v1), .val (.long ia), .second, .val (.int ot), .val (.ref b1), .val (.int (own_h ia v1)), .unset, .unset, .unset, .unset, .unset] [(.ref b1)])) _
    refine XS.iload X4.here hx rfl (hb hby at_99) rfl ?_
    show Steps p.tables e below (T4.setTop (mkF m 101 #[.val (.int p1), .val (.long q2), .second, .val (.int p3), .val (.int p4), .val (.int p5), .val (.int v1), .val (.long ia), .second, .val (.int ot), .val (.ref b1), .val (.int (own_h ia v1)), .unset, .unset, .unset, .unset, .unset] [(.int ot), (.ref b1)])) _
    refine st5.trans ?_
    show Steps p.tables e below (T5.setTop (mkF m 104 #[.val (.int p1), .val (.long q2), .second, .val (.int p3), .val (.int p4), .val (.int p5), .val (.int v1), .val (.long ia), .second, .val (.int ot), .val (.ref b1), .val (.int (own_h ia v1)), .unset, .unset, .unset, .unset, .unset] [(.ref b2)])) _
    refine XS.astore X5.here hx rfl (hb hby at_104) rfl rfl (l' := #[.val (.int p1), .val (.long q2), .second, .val (.int p3), .val (.int p4), .val (.int p5), .val (.int v1), .val (.long ia), .second, .val (.int ot), .val (.ref b1), .val (.int (own_h ia v1)), .val (.ref b2), .unset, .unset, .unset, .unset]) rfl ?_
    show Steps p.tables e below (T5.setTop (mkF m 106 #[.val (.int p1), .val (.long q2), .second, .val (.int p3), .val (.int p4), .val (.int p5), .val (.int v1), .val (.long ia), .second, .val (.int ot), .val (.ref b1), .val (.int (own_h ia v1)), .val (.ref b2), .unset, .unset, .unset, .unset] [])) _
    refine XS.aload X5.here hx rfl (hb hby at_106) rfl rfl ?_
    show Steps p.tables e below (T5.setTop (mkF m 108 #[.val (.int p1), .val (.long q2), .second, .val (.int p3), .val (.int p4), .val (.int p5), .val (.int v1), .val (.long ia), .second, .val (.int ot), .val (.ref b1), .val (.int (own_h ia v1)), .val (.ref b2), .unset, .unset, .unset, .unset] [(.ref b2)])) _
    refine st6.trans ?_
    show Steps p.tables e below (T6.setTop (mkF m 111 #[.val (.int p1), .val (.long q2), .second, .val (.int p3), .val (.int p4), .val (.int p5), .val (.int v1), .val (.long ia), .second, .val (.int ot), .val (.ref b1), .val (.int (own_h ia v1)), .val (.ref b2), .unset, .unset, .unset, .unset] [(.int (own_h ia ot))])) _
    refine XS.istore X6.here hx rfl (hb hby at_111) rfl (l' := #[.val (.int p1), .val (.long q2), .second, .val (.int p3), .val (.int p4), .val (.int p5), .val (.int v1), .val (.long ia), .second, .val (.int ot), .val (.ref b1), .val (.int (own_h ia v1)), .val (.ref b2), .val (.int (own_h ia ot)), .unset, .unset, .unset]) rfl ?_
    show Steps p.tables e below (T6.setTop (mkF m 113 #[.val (.int p1), .val (.long q2), .second, .val (.int p3), .val (.int p4), .val (.int p5), .val (.int v1), .val (.long ia), .second, .val (.int ot), .val (.ref b1), .val (.int (own_h ia v1)), .val (.ref b2), .val (.int (own_h ia ot)), .unset, .unset, .unset] [])) _
    refine XS.aload X6.here hx rfl (hb hby at_113) rfl rfl ?_
    show Steps p.tables e below (T6.setTop (mkF m 115 #[.val (.int p1), .val (.long q2), .second, .val (.int p3), .val (.int p4), .val (.int p5), .val (.int v1), .val (.long ia), .second, .val (.int ot), .val (.ref b1), .val (.int (own_h ia v1)), .val (.ref b2), .val (.int (own_h ia ot)), .unset, .unset, .unset] [(.ref b1)])) _
    refine st7.trans ?_
    show Steps p.tables e below (T7.setTop (mkF m 118 #[.val (.int p1), .val (.long q2), .second, .val (.int p3), .val (.int p4), .val (.int p5), .val (.int v1), .val (.long ia), .second, .val (.int ot), .val (.ref b1), .val (.int (own_h ia v1)), .val (.ref b2), .val (.int (own_h ia ot)), .unset, .unset, .unset] [(.int (own_h ia v1))])) _
    refine XS.istore X7.here hx rfl (hb hby at_118) rfl (l' := #[.val (.int p1), .val (.long q2), .second, .val (.int p3), .val (.int p4), .val (.int p5), .val (.int v1), .val (.long ia), .second, .val (.int ot), .val (.ref b1), .val (.int (own_h ia v1)), .val (.ref b2), .val (.int (own_h ia ot)), .val (.int (own_h ia v1)), .unset, .unset]) rfl ?_
    show Steps p.tables e below (T7.setTop (mkF m 120 #[.val (.int p1), .val (.long q2), .second, .val (.int p3), .val (.int p4), .val (.int p5), .val (.int v1), .val (.long ia), .second, .val (.int ot), .val (.ref b1), .val (.int (own_h ia v1)), .val (.ref b2), .val (.int (own_h ia ot)), .val (.int (own_h ia v1)), .unset, .unset] [])) _
    refine st8 _ ?_
    show Steps p.tables e below (T8.setTop (mkF m 123 #[.val (.int p1), .val (.long q2), .second, .val (.int p3), .val (.int p4), .val (.int p5), .val (.int v1), .val (.long ia), .second, .val (.int ot), .val (.ref b1), .val (.int (own_h ia v1)), .val (.ref b2), .val (.int (own_h ia ot)), .val (.int (own_h ia v1)), .unset, .unset] [(.ref b3)])) _
    refine XS.dup X8.here hx rfl (hb hby at_123) rfl rfl ?_
    show Steps p.tables e below (T8.setTop (mkF m 124 #[.val (.int p1), .val (.long q2), .second, .val (.int p3), .val (.int p4), .val (.int p5), .val (.int v1), .val (.long ia), .second, .val (.int ot), .val (.ref b1), .val (.int (own_h ia v1)), .val (.ref b2), .val (.int (own_h ia ot)), .val (.int (own_h ia v1)), .unset, .unset] [(.ref b3), (.ref b3)])) _
    refine XS.iload X8.here hx rfl (hb hby at_124) rfl ?_
    show Steps p.tables e below (T8.setTop (mkF m 126 #[.val (.int p1), .val (.long q2), .second, .val (.int p3), .val (.int p4), .val (.int p5), .val (.int v1), .val (.long ia), .second, .val (.int ot), .val (.ref b1), .val (.int (own_h ia v1)), .val (.ref b2), .val (.int (own_h ia ot)), .val (.int (own_h ia v1)), .unset, .unset] [(.int v1), (.ref b3), (.ref b3)])) _
    refine st9.trans ?_
    show Steps p.tables e below (T9.setTop (mkF m 129 #[.val (.int p1), .val (.long q2), .second, .val (.int p3), .val (.int p4), .val (.int p5), .val (.int v1), .val (.long ia), .second, .val (.int ot), .val (.ref b1), .val (.int (own_h ia v1)), .val (.ref b2), .val (.int (own_h ia ot)), .val (.int (own_h ia v1)), .unset, .unset] [(.ref b3)])) _
    refine XS.astore X9.here hx rfl (hb hby at_129) rfl rfl (l' := #[.val (.int p1), .val (.long q2), .second, .val (.int p3), .val (.int p4), .val (.int p5), .val (.int v1), .val (.long ia), .second, .val (.int ot), .val (.ref b1), .val (.int (own_h ia v1)), .val (.ref b2), .val (.int (own_h ia ot)), .val (.int (own_h ia v1)), .val (.ref b3), .unset]) rfl ?_
    show Steps p.tables e below (T9.setTop (mkF m 131 #[.val (.int p1), .val (.long q2), .second, .val (.int p3), .val (.int p4), .val (.int p5), .val (.int v1), .val (.long ia), .second, .val (.int ot), .val (.ref b1), .val (.int (own_h ia v1)), .val (.ref b2), .val (.int (own_h ia ot)), .val (.int (own_h ia v1)), .val (.ref b3), .unset] [])) _
    refine XS.aload X9.here hx rfl (hb hby at_131) rfl rfl ?_
    show Steps p.tables e below (T9.setTop (mkF m 133 #[.val (.int p1), .val (.long q2), .second, .val (.int p3), .val (.int p4), .val (.int p5), .val (.int v1), .val (.long ia), .second, .val (.int ot), .val (.ref b1), .val (.int (own_h ia v1)), .val (.ref b2), .val (.int (own_h ia ot)), .val (.int (own_h ia v1)), .val (.ref b3), .unset] [(.ref b3)])) _
    refine st10.trans ?_
    show Steps p.tables e below (T10.setTop (mkF m 136 #[.val (.int p1), .val (.long q2), .second, .val (.int p3), .val (.int p4), .val (.int p5), .val (.int v1), .val (.long ia), .second, .val (.int ot), .val (.ref b1), .val (.int (own_h ia v1)), .val (.ref b2), .val (.int (own_h ia ot)), .val (.int (own_h ia v1)), .val (.ref b3), .unset] [(.int (own_h (9223372036854775807 : Int64) v1))])) _
    refine XS.istore X10.here hx rfl (hb hby at_136) rfl (l' := #[.val (.int p1), .val (.long q2), .second, .val (.int p3), .val (.int p4), .val (.int p5), .val (.int v1), .val (.long ia), .second, .val (.int ot), .val (.ref b1), .val (.int (own_h ia v1)), .val (.ref b2), .val (.int (own_h ia ot)), .val (.int (own_h ia v1)), .val (.ref b3), .val (.int (own_h (9223372036854775807 : Int64) v1))]) rfl ?_
    show Steps p.tables e below (T10.setTop (mkF m 138 #[.val (.int p1), .val (.long q2), .second, .val (.int p3), .val (.int p4), .val (.int p5), .val (.int v1), .val (.long ia), .second, .val (.int ot), .val (.ref b1), .val (.int (own_h ia v1)), .val (.ref b2), .val (.int (own_h ia ot)), .val (.int (own_h ia v1)), .val (.ref b3), .val (.int (own_h (9223372036854775807 : Int64) v1))] [])) _
    refine XS.iload X10.here hx rfl (hb hby at_138) rfl ?_
    show Steps p.tables e below (T10.setTop (mkF m 140 #[.val (.int p1), .val (.long q2), .second, .val (.int p3), .val (.int p4), .val (.int p5), .val (.int v1), .val (.long ia), .second, .val (.int ot), .val (.ref b1), .val (.int (own_h ia v1)), .val (.ref b2), .val (.int (own_h ia ot)), .val (.int (own_h ia v1)), .val (.ref b3), .val (.int (own_h (9223372036854775807 : Int64) v1))] [(.int (own_h ia v1))])) _
    refine XS.lload X10.here hx rfl (hb hby at_140) rfl ?_
    show Steps p.tables e below (T10.setTop (mkF m 142 #[.val (.int p1), .val (.long q2), .second, .val (.int p3), .val (.int p4), .val (.int p5), .val (.int v1), .val (.long ia), .second, .val (.int ot), .val (.ref b1), .val (.int (own_h ia v1)), .val (.ref b2), .val (.int (own_h ia ot)), .val (.int (own_h ia v1)), .val (.ref b3), .val (.int (own_h (9223372036854775807 : Int64) v1))] [(.long ia), (.int (own_h ia v1))])) _
    refine XS.iload X10.here hx rfl (hb hby at_142) rfl ?_
    show Steps p.tables e below (T10.setTop (mkF m 144 #[.val (.int p1), .val (.long q2), .second, .val (.int p3), .val (.int p4), .val (.int p5), .val (.int v1), .val (.long ia), .second, .val (.int ot), .val (.ref b1), .val (.int (own_h ia v1)), .val (.ref b2), .val (.int (own_h ia ot)), .val (.int (own_h ia v1)), .val (.ref b3), .val (.int (own_h (9223372036854775807 : Int64) v1))] [(.int v1), (.long ia), (.int (own_h ia v1))])) _
    refine XS.i2l X10.here hx rfl (hb hby at_144) rfl ?_
    show Steps p.tables e below (T10.setTop (mkF m 145 #[.val (.int p1), .val (.long q2), .second, .val (.int p3), .val (.int p4), .val (.int p5), .val (.int v1), .val (.long ia), .second, .val (.int ot), .val (.ref b1), .val (.int (own_h ia v1)), .val (.ref b2), .val (.int (own_h ia ot)), .val (.int (own_h ia v1)), .val (.ref b3), .val (.int (own_h (9223372036854775807 : Int64) v1))] [(.long (v1.toInt64)), (.long ia), (.int (own_h ia v1))])) _
    refine XS.lcmp X10.here hx rfl (hb hby at_145) rfl ?_
    have sg11 : ∀ t, Steps p.tables e below (T10.setTop (mkF m 154 #[.val (.int p1), .val (.long q2), .second, .val (.int p3), .val (.int p4), .val (.int p5), .val (.int v1), .val (.long ia), .second, .val (.int ot), .val (.ref b1), .val (.int (own_h ia v1)), .val (.ref b2), .val (.int (own_h ia ot)), .val (.int (own_h ia v1)), .val (.ref b3), .val (.int (own_h (9223372036854775807 : Int64) v1))] [(.int v12), (.int (own_h ia v1))])) t → Steps p.tables e below (T10.setTop (mkF m 146 #[.val (.int p1), .val (.long q2), .second, .val (.int p3), .val (.int p4), .val (.int p5), .val (.int v1), .val (.long ia), .second, .val (.int ot), .val (.ref b1), .val (.int (own_h ia v1)), .val (.ref b2), .val (.int (own_h ia ot)), .val (.int (own_h ia v1)), .val (.ref b3), .val (.int (own_h (9223372036854775807 : Int64) v1))] [(.int (lcmpW ia (v1.toInt64))), (.int (own_h ia v1))])) t := by
      intro t k
      by_cases hc11 : (ia < (v1.toInt64))
      · rw [show v12 = (0 : Int32) from by rw [hv12, if_pos hc11]] at k
        show Steps p.tables e below (T10.setTop (mkF m 146 #[.val (.int p1), .val (.long q2), .second, .val (.int p3), .val (.int p4), .val (.int p5), .val (.int v1), .val (.long ia), .second, .val (.int ot), .val (.ref b1), .val (.int (own_h ia v1)), .val (.ref b2), .val (.int (own_h ia ot)), .val (.int (own_h ia v1)), .val (.ref b3), .val (.int (own_h (9223372036854775807 : Int64) v1))] [(.int (lcmpW ia (v1.toInt64))), (.int (own_h ia v1))])) _
        refine XS.ifYes X10.here hx rfl (pc0 := 146) (pc' := 153) rfl (hb hby at_146) rfl ((if0 _ _).trans (tlt ((lw_lt ia (v1.toInt64)).mpr hc11)).1) (by decide) (by decide) ?_
        show Steps p.tables e below (T10.setTop (mkF m 153 #[.val (.int p1), .val (.long q2), .second, .val (.int p3), .val (.int p4), .val (.int p5), .val (.int v1), .val (.long ia), .second, .val (.int ot), .val (.ref b1), .val (.int (own_h ia v1)), .val (.ref b2), .val (.int (own_h ia ot)), .val (.int (own_h ia v1)), .val (.ref b3), .val (.int (own_h (9223372036854775807 : Int64) v1))] [(.int (own_h ia v1))])) _
        refine XS.iconst X10.here hx rfl (hb hby at_153) ?_
        exact k
      · rw [show v12 = (1 : Int32) from by rw [hv12, if_neg hc11]] at k
        show Steps p.tables e below (T10.setTop (mkF m 146 #[.val (.int p1), .val (.long q2), .second, .val (.int p3), .val (.int p4), .val (.int p5), .val (.int v1), .val (.long ia), .second, .val (.int ot), .val (.ref b1), .val (.int (own_h ia v1)), .val (.ref b2), .val (.int (own_h ia ot)), .val (.int (own_h ia v1)), .val (.ref b3), .val (.int (own_h (9223372036854775807 : Int64) v1))] [(.int (lcmpW ia (v1.toInt64))), (.int (own_h ia v1))])) _
        refine XS.ifNo X10.here hx rfl (hb hby at_146) rfl ((if0 _ _).trans (flt (fun q => hc11 ((lw_lt ia (v1.toInt64)).mp q))).1) ?_
        show Steps p.tables e below (T10.setTop (mkF m 149 #[.val (.int p1), .val (.long q2), .second, .val (.int p3), .val (.int p4), .val (.int p5), .val (.int v1), .val (.long ia), .second, .val (.int ot), .val (.ref b1), .val (.int (own_h ia v1)), .val (.ref b2), .val (.int (own_h ia ot)), .val (.int (own_h ia v1)), .val (.ref b3), .val (.int (own_h (9223372036854775807 : Int64) v1))] [(.int (own_h ia v1))])) _
        refine XS.iconst X10.here hx rfl (hb hby at_149) ?_
        show Steps p.tables e below (T10.setTop (mkF m 150 #[.val (.int p1), .val (.long q2), .second, .val (.int p3), .val (.int p4), .val (.int p5), .val (.int v1), .val (.long ia), .second, .val (.int ot), .val (.ref b1), .val (.int (own_h ia v1)), .val (.ref b2), .val (.int (own_h ia ot)), .val (.int (own_h ia v1)), .val (.ref b3), .val (.int (own_h (9223372036854775807 : Int64) v1))] [(.int (1 : Int32)), (.int (own_h ia v1))])) _
        refine XS.goto X10.here hx rfl (pc0 := 150) (pc' := 154) rfl (hb hby at_150) (by decide) (by decide) ?_
        exact k
    refine sg11 _ ?_
    show Steps p.tables e below (T10.setTop (mkF m 154 #[.val (.int p1), .val (.long q2), .second, .val (.int p3), .val (.int p4), .val (.int p5), .val (.int v1), .val (.long ia), .second, .val (.int ot), .val (.ref b1), .val (.int (own_h ia v1)), .val (.ref b2), .val (.int (own_h ia ot)), .val (.int (own_h ia v1)), .val (.ref b3), .val (.int (own_h (9223372036854775807 : Int64) v1))] [(.int v12), (.int (own_h ia v1))])) _
    refine XS.icmpNo X10.here hx rfl (hb hby at_154) rfl (teq c1).2 ?_
    show Steps p.tables e below (T10.setTop (mkF m 157 #[.val (.int p1), .val (.long q2), .second, .val (.int p3), .val (.int p4), .val (.int p5), .val (.int v1), .val (.long ia), .second, .val (.int ot), .val (.ref b1), .val (.int (own_h ia v1)), .val (.ref b2), .val (.int (own_h ia ot)), .val (.int (own_h ia v1)), .val (.ref b3), .val (.int (own_h (9223372036854775807 : Int64) v1))] [])) _
    refine XS.iload X10.here hx rfl (hb hby at_157) rfl ?_
    show Steps p.tables e below (T10.setTop (mkF m 159 #[.val (.int p1), .val (.long q2), .second, .val (.int p3), .val (.int p4), .val (.int p5), .val (.int v1), .val (.long ia), .second, .val (.int ot), .val (.ref b1), .val (.int (own_h ia v1)), .val (.ref b2), .val (.int (own_h ia ot)), .val (.int (own_h ia v1)), .val (.ref b3), .val (.int (own_h (9223372036854775807 : Int64) v1))] [(.int (own_h ia ot))])) _
    refine XS.lload X10.here hx rfl (hb hby at_159) rfl ?_
    show Steps p.tables e below (T10.setTop (mkF m 161 #[.val (.int p1), .val (.long q2), .second, .val (.int p3), .val (.int p4), .val (.int p5), .val (.int v1), .val (.long ia), .second, .val (.int ot), .val (.ref b1), .val (.int (own_h ia v1)), .val (.ref b2), .val (.int (own_h ia ot)), .val (.int (own_h ia v1)), .val (.ref b3), .val (.int (own_h (9223372036854775807 : Int64) v1))] [(.long ia), (.int (own_h ia ot))])) _
    refine XS.iload X10.here hx rfl (hb hby at_161) rfl ?_
    show Steps p.tables e below (T10.setTop (mkF m 163 #[.val (.int p1), .val (.long q2), .second, .val (.int p3), .val (.int p4), .val (.int p5), .val (.int v1), .val (.long ia), .second, .val (.int ot), .val (.ref b1), .val (.int (own_h ia v1)), .val (.ref b2), .val (.int (own_h ia ot)), .val (.int (own_h ia v1)), .val (.ref b3), .val (.int (own_h (9223372036854775807 : Int64) v1))] [(.int ot), (.long ia), (.int (own_h ia ot))])) _
    refine XS.i2l X10.here hx rfl (hb hby at_163) rfl ?_
    show Steps p.tables e below (T10.setTop (mkF m 164 #[.val (.int p1), .val (.long q2), .second, .val (.int p3), .val (.int p4), .val (.int p5), .val (.int v1), .val (.long ia), .second, .val (.int ot), .val (.ref b1), .val (.int (own_h ia v1)), .val (.ref b2), .val (.int (own_h ia ot)), .val (.int (own_h ia v1)), .val (.ref b3), .val (.int (own_h (9223372036854775807 : Int64) v1))] [(.long (ot.toInt64)), (.long ia), (.int (own_h ia ot))])) _
    refine XS.lcmp X10.here hx rfl (hb hby at_164) rfl ?_
    have sg13 : ∀ t, Steps p.tables e below (T10.setTop (mkF m 173 #[.val (.int p1), .val (.long q2), .second, .val (.int p3), .val (.int p4), .val (.int p5), .val (.int v1), .val (.long ia), .second, .val (.int ot), .val (.ref b1), .val (.int (own_h ia v1)), .val (.ref b2), .val (.int (own_h ia ot)), .val (.int (own_h ia v1)), .val (.ref b3), .val (.int (own_h (9223372036854775807 : Int64) v1))] [(.int v14), (.int (own_h ia ot))])) t → Steps p.tables e below (T10.setTop (mkF m 165 #[.val (.int p1), .val (.long q2), .second, .val (.int p3), .val (.int p4), .val (.int p5), .val (.int v1), .val (.long ia), .second, .val (.int ot), .val (.ref b1), .val (.int (own_h ia v1)), .val (.ref b2), .val (.int (own_h ia ot)), .val (.int (own_h ia v1)), .val (.ref b3), .val (.int (own_h (9223372036854775807 : Int64) v1))] [(.int (lcmpW ia (ot.toInt64))), (.int (own_h ia ot))])) t := by
      intro t k
      by_cases hc13 : (ia < (ot.toInt64))
      · rw [show v14 = (0 : Int32) from by rw [hv14, if_pos hc13]] at k
        show Steps p.tables e below (T10.setTop (mkF m 165 #[.val (.int p1), .val (.long q2), .second, .val (.int p3), .val (.int p4), .val (.int p5), .val (.int v1), .val (.long ia), .second, .val (.int ot), .val (.ref b1), .val (.int (own_h ia v1)), .val (.ref b2), .val (.int (own_h ia ot)), .val (.int (own_h ia v1)), .val (.ref b3), .val (.int (own_h (9223372036854775807 : Int64) v1))] [(.int (lcmpW ia (ot.toInt64))), (.int (own_h ia ot))])) _
        refine XS.ifYes X10.here hx rfl (pc0 := 165) (pc' := 172) rfl (hb hby at_165) rfl ((if0 _ _).trans (tlt ((lw_lt ia (ot.toInt64)).mpr hc13)).1) (by decide) (by decide) ?_
        show Steps p.tables e below (T10.setTop (mkF m 172 #[.val (.int p1), .val (.long q2), .second, .val (.int p3), .val (.int p4), .val (.int p5), .val (.int v1), .val (.long ia), .second, .val (.int ot), .val (.ref b1), .val (.int (own_h ia v1)), .val (.ref b2), .val (.int (own_h ia ot)), .val (.int (own_h ia v1)), .val (.ref b3), .val (.int (own_h (9223372036854775807 : Int64) v1))] [(.int (own_h ia ot))])) _
        refine XS.iconst X10.here hx rfl (hb hby at_172) ?_
        exact k
      · rw [show v14 = (1 : Int32) from by rw [hv14, if_neg hc13]] at k
        show Steps p.tables e below (T10.setTop (mkF m 165 #[.val (.int p1), .val (.long q2), .second, .val (.int p3), .val (.int p4), .val (.int p5), .val (.int v1), .val (.long ia), .second, .val (.int ot), .val (.ref b1), .val (.int (own_h ia v1)), .val (.ref b2), .val (.int (own_h ia ot)), .val (.int (own_h ia v1)), .val (.ref b3), .val (.int (own_h (9223372036854775807 : Int64) v1))] [(.int (lcmpW ia (ot.toInt64))), (.int (own_h ia ot))])) _
        refine XS.ifNo X10.here hx rfl (hb hby at_165) rfl ((if0 _ _).trans (flt (fun q => hc13 ((lw_lt ia (ot.toInt64)).mp q))).1) ?_
        show Steps p.tables e below (T10.setTop (mkF m 168 #[.val (.int p1), .val (.long q2), .second, .val (.int p3), .val (.int p4), .val (.int p5), .val (.int v1), .val (.long ia), .second, .val (.int ot), .val (.ref b1), .val (.int (own_h ia v1)), .val (.ref b2), .val (.int (own_h ia ot)), .val (.int (own_h ia v1)), .val (.ref b3), .val (.int (own_h (9223372036854775807 : Int64) v1))] [(.int (own_h ia ot))])) _
        refine XS.iconst X10.here hx rfl (hb hby at_168) ?_
        show Steps p.tables e below (T10.setTop (mkF m 169 #[.val (.int p1), .val (.long q2), .second, .val (.int p3), .val (.int p4), .val (.int p5), .val (.int v1), .val (.long ia), .second, .val (.int ot), .val (.ref b1), .val (.int (own_h ia v1)), .val (.ref b2), .val (.int (own_h ia ot)), .val (.int (own_h ia v1)), .val (.ref b3), .val (.int (own_h (9223372036854775807 : Int64) v1))] [(.int (1 : Int32)), (.int (own_h ia ot))])) _
        refine XS.goto X10.here hx rfl (pc0 := 169) (pc' := 173) rfl (hb hby at_169) (by decide) (by decide) ?_
        exact k
    refine sg13 _ ?_
    show Steps p.tables e below (T10.setTop (mkF m 173 #[.val (.int p1), .val (.long q2), .second, .val (.int p3), .val (.int p4), .val (.int p5), .val (.int v1), .val (.long ia), .second, .val (.int ot), .val (.ref b1), .val (.int (own_h ia v1)), .val (.ref b2), .val (.int (own_h ia ot)), .val (.int (own_h ia v1)), .val (.ref b3), .val (.int (own_h (9223372036854775807 : Int64) v1))] [(.int v14), (.int (own_h ia ot))])) _
    refine XS.icmpNo X10.here hx rfl (hb hby at_173) rfl (teq c2).2 ?_
    show Steps p.tables e below (T10.setTop (mkF m 176 #[.val (.int p1), .val (.long q2), .second, .val (.int p3), .val (.int p4), .val (.int p5), .val (.int v1), .val (.long ia), .second, .val (.int ot), .val (.ref b1), .val (.int (own_h ia v1)), .val (.ref b2), .val (.int (own_h ia ot)), .val (.int (own_h ia v1)), .val (.ref b3), .val (.int (own_h (9223372036854775807 : Int64) v1))] [])) _
    refine XS.iload X10.here hx rfl (hb hby at_176) rfl ?_
    show Steps p.tables e below (T10.setTop (mkF m 178 #[.val (.int p1), .val (.long q2), .second, .val (.int p3), .val (.int p4), .val (.int p5), .val (.int v1), .val (.long ia), .second, .val (.int ot), .val (.ref b1), .val (.int (own_h ia v1)), .val (.ref b2), .val (.int (own_h ia ot)), .val (.int (own_h ia v1)), .val (.ref b3), .val (.int (own_h (9223372036854775807 : Int64) v1))] [(.int (own_h ia v1))])) _
    refine XS.iload X10.here hx rfl (hb hby at_178) rfl ?_
    show Steps p.tables e below (T10.setTop (mkF m 180 #[.val (.int p1), .val (.long q2), .second, .val (.int p3), .val (.int p4), .val (.int p5), .val (.int v1), .val (.long ia), .second, .val (.int ot), .val (.ref b1), .val (.int (own_h ia v1)), .val (.ref b2), .val (.int (own_h ia ot)), .val (.int (own_h ia v1)), .val (.ref b3), .val (.int (own_h (9223372036854775807 : Int64) v1))] [(.int (own_h ia v1)), (.int (own_h ia v1))])) _
    refine XS.icmpNo X10.here hx rfl (hb hby at_180) rfl (teq rfl).2 ?_
    show Steps p.tables e below (T10.setTop (mkF m 183 #[.val (.int p1), .val (.long q2), .second, .val (.int p3), .val (.int p4), .val (.int p5), .val (.int v1), .val (.long ia), .second, .val (.int ot), .val (.ref b1), .val (.int (own_h ia v1)), .val (.ref b2), .val (.int (own_h ia ot)), .val (.int (own_h ia v1)), .val (.ref b3), .val (.int (own_h (9223372036854775807 : Int64) v1))] [])) _
    refine XS.iload X10.here hx rfl (hb hby at_183) rfl ?_
    show Steps p.tables e below (T10.setTop (mkF m 185 #[.val (.int p1), .val (.long q2), .second, .val (.int p3), .val (.int p4), .val (.int p5), .val (.int v1), .val (.long ia), .second, .val (.int ot), .val (.ref b1), .val (.int (own_h ia v1)), .val (.ref b2), .val (.int (own_h ia ot)), .val (.int (own_h ia v1)), .val (.ref b3), .val (.int (own_h (9223372036854775807 : Int64) v1))] [(.int (own_h (9223372036854775807 : Int64) v1))])) _
    refine XS.ifNo X10.here hx rfl (hb hby at_185) rfl ((if0 _ _).trans (feq (by rw [own_lone]; decide)).1) ?_
    show Steps p.tables e below (T10.setTop (mkF m 188 #[.val (.int p1), .val (.long q2), .second, .val (.int p3), .val (.int p4), .val (.int p5), .val (.int v1), .val (.long ia), .second, .val (.int ot), .val (.ref b1), .val (.int (own_h ia v1)), .val (.ref b2), .val (.int (own_h ia ot)), .val (.int (own_h ia v1)), .val (.ref b3), .val (.int (own_h (9223372036854775807 : Int64) v1))] [])) _
    refine XS.iconst X10.here hx rfl (hb hby at_188) ?_
    show Steps p.tables e below (T10.setTop (mkF m 189 #[.val (.int p1), .val (.long q2), .second, .val (.int p3), .val (.int p4), .val (.int p5), .val (.int v1), .val (.long ia), .second, .val (.int ot), .val (.ref b1), .val (.int (own_h ia v1)), .val (.ref b2), .val (.int (own_h ia ot)), .val (.int (own_h ia v1)), .val (.ref b3), .val (.int (own_h (9223372036854775807 : Int64) v1))] [(.int (1 : Int32))])) _
    refine XS.goto X10.here hx rfl (pc0 := 189) (pc' := 193) rfl (hb hby at_189) (by decide) (by decide) ?_
    show Steps p.tables e below (T10.setTop (mkF m 193 #[.val (.int p1), .val (.long q2), .second, .val (.int p3), .val (.int p4), .val (.int p5), .val (.int v1), .val (.long ia), .second, .val (.int ot), .val (.ref b1), .val (.int (own_h ia v1)), .val (.ref b2), .val (.int (own_h ia ot)), .val (.int (own_h ia v1)), .val (.ref b3), .val (.int (own_h (9223372036854775807 : Int64) v1))] [(.int (1 : Int32))])) _
    exact retN X10 hx (t := .boolean) Bd.returns (by simp) (hb hby at_193) hr
  · show Q0 Z p1 q2 p3 p4 p5 h0 n0 _ T10.heap _
    exact ⟨rfl, N10⟩
set_option maxRecDepth 65536 in
set_option maxHeartbeats 40000000 in
theorem comes_1 {Post : Tables → Env → Array Value → State → Outcome → State → Prop} (hpost : ∀ tb e args s v u, (limb_1_1.after args s (.returned v) u = true ∧ limb_1_2.after args s (.returned v) u = true ∧ True) → Jvm.D.FramedW s (.returned v) u (Jvm.fieldLocs frame_1_writes args s ++ Jvm.arrayLocs frame_1_arrays args s ++ Jvm.staticLocs frame_1_statics s) 24 2176 → Post tb e args s (.returned v) u) :
    ArmFor flags0 classFile x code maxLocals ret World_1 tables_1 room_1 Calls_1 rest_1 Pre_1 Post := by
  intro l hfl _ _ p e ha hc hk s m args below hf hA hF happ hP
  obtain ⟨hcalls, hrest, hpre⟩ := hP
  obtain ⟨-, -, -, hnamed, -, -, -, hat⟩ := (Spec.applies_iff hf).mp happ
  obtain ⟨hg, hn⟩ := and_e (Cond.before_iff.mp (show (Jvm.Cond.and given_1 narrow_1).before args s = true from hpre))
  obtain ⟨h1, g1⟩ := and_e hg
  obtain ⟨c1, g2⟩ := and_e g1
  obtain ⟨c2, g3⟩ := and_e g2
  obtain ⟨c3, g4⟩ := and_e g3
  obtain ⟨c4, g5⟩ := and_e g4
  obtain ⟨w0, w1, w2, w3, w4, rfl⟩ : ∃ w0 w1 w2 w3 w4 : Value, args = #[w0, w1, w2, w3, w4] := by
    have hs : args.size = 5 := by simpa [Cond.value, given_1] using h1
    obtain ⟨L⟩ := args
    match L, hs with
    | [w0, w1, w2, w3, w4], _ => exact ⟨w0, w1, w2, w3, w4, rfl⟩
  have hw := fun d (hd : d ∈ tables_1) => atoms_spec (ws := Jvm.Cond.code x code maxLocals ret :: tables_1) hat d (List.mem_cons_of_mem _ hd)
  obtain ⟨i0, ei0⟩ := is_v c1
  obtain rfl : w0 = (.int i0) := Option.some.inj ei0
  obtain ⟨i1, ei1⟩ := isL_v c2
  obtain rfl : w1 = (.long i1) := Option.some.inj ei1
  obtain ⟨i2, ei2⟩ := is_v c3
  obtain rfl : w2 = (.int i2) := Option.some.inj ei2
  obtain ⟨i3, ei3⟩ := is_v c4
  obtain rfl : w3 = (.int i3) := Option.some.inj ei3
  obtain ⟨i4, ei4⟩ := is_v g5
  obtain rfl : w4 = (.int i4) := Option.some.inj ei4
  obtain ⟨n, o, h1, h2, h3, _, L, rfl, ⟨rfl, N⟩, hq⟩ := rm0 l s _ hw tables_1 i0 i1 i2 i3 i4 s.heap s.heap.size (Nat.le_refl _)  p e ha hc hk s m _ below hf ((Spec.applies_iff_loose hf).mp happ).1 ⟨rfl, State.Warmed39.refl s, rfl⟩ trivial
  refine ⟨n, _, h1, h2, h3, hpost _ _ _ _ _ _ ⟨Cond.after_iff.mpr rfl, Cond.after_iff.mpr (eq_i res_at (Term.int_eval (1)) rfl), trivial⟩ ⟨hq.1, hq.2.1, hq.2.2.1, (hq.2.2.2.sift fun y hy => Or.inr (N y hy)).mono (by decide) (by decide)⟩⟩
theorem main_1_1 : Claimed_1_1 := comes_1 fun _ _ _ _ _ _ h hF => ⟨h.1, hF⟩
theorem main_1_2 : Claimed_1_2 := comes_1 fun _ _ _ _ _ _ h hF => ⟨h.2.1, hF⟩
end Jvm.Pilot.@@N@@
namespace Jvm.Pilot.@@N@@
open Jvm Jvm.ClassFile Sem Op Lib Jvm.Free Jvm.Stand Jvm.Pilot.@@N@@.Jvm.D
/-! MADE BY PROGRAM (witnessworld.py) out of the Statement's table words and the real class files: 16 classes; the members and pool entries that the words name. The judged class is class 1, her method 1. -/
namespace start1
open Jvm.ClassFile
def u (s : String) : CpInfo := .utf8 (stringToUtf16 s)
/-- a pool by its gaps: so many unusable entries, then the entry; so many at the end -/
def gap : Nat → List CpInfo → List CpInfo
  | 0, r => r
  | n + 1, r => .unusable :: gap n r
def poolList (es : List (Nat × CpInfo)) (last : Nat) : List CpInfo := es.foldr (fun e r => gap e.1 (e.2 :: r)) (gap last [])
def pool (es : List (Nat × CpInfo)) (last : Nat) : Array CpInfo := ⟨poolList es last⟩
def fileOf (pool : Array CpInfo) (this : Nat) (attrs : Array Attribute := #[]) (ms : Array MethodInfo := #[]) (fl : Nat := 33) (sup : Nat := 0) (ifs : Array Nat := #[]) (fds : Array FieldInfo := #[]) : ClassFile where
  minorVersion := 0
  majorVersion := 65
  constantPool := pool
  accessFlags := fl
  thisClass := this
  superClass := sup
  interfaces := ifs
  fields := fds
  methods := ms
  attributes := attrs
def plain (name : String) (sup : Option ClassId) : Class where
  name := name
  kind := .ordinary
  loader := none
  accessFlags := 33
  super := sup
  interfaces := #[]
  cf := none
  fields := #[]
  methods := #[]
  instanceTypes := #[]
  staticTypes := #[]
  resolved := #[]
  callSites := []
  init := .initialized
  statics := none
  mirror := none

def pool0 : Array CpInfo := pool [(5, u "<init>"), (0, u "()V"), (1, .class_ 10), (1, u "java/lang/Object")] 113

def k0c0 : Code := { maxStack := 0, maxLocals := 1, code := object_method_1_code, exceptionTable := #[], attributes := #[] }
def k0m0 : Method := { name := "<init>", desc := "()V", sig := { parameters := [], returnType := none }, accessFlags := 1, code := some k0c0 }
/-- java/lang/Object -/
def k0 : Class := { plain "java/lang/Object" none with
  accessFlags := 33
  interfaces := #[]
  cf := some (fileOf pool0 8 #[] #[{ accessFlags := 1, nameIndex := 5, descriptorIndex := 6, attributes := #[] }] 33 0 #[] #[])
  fields := #[]
  methods := #[k0m0]
  instanceTypes := #[]
  staticTypes := #[]
  resolved := Array.replicate 124 none
  statics := none }

def pool1 : Array CpInfo := pool [(2, .class_ 4), (1, u "java/lang/Object"), (0, u "<init>"), (0, u "()V"), (0, .integer 2147483647), (0, .methodref 9 10), (0, .class_ 11), (0, .nameAndType 12 13), (0, u "java/lang/Math"), (0, u "max"), (0, u "(JJ)J"), (2, .long 9223372036854775807), (3, .long 2147483647), (1, .methodref 9 23), (0, .nameAndType 24 13), (0, u "min"), (0, .class_ 26), (0, u "com/example/tideline/tideline/storage/UncompressBound"), (0, .methodref 25 28), (0, .nameAndType 5 29), (0, u "(IJ)V"), (0, .methodref 25 31), (0, .nameAndType 32 33), (0, u "holdsEach"), (0, u "()Z"), (0, .methodref 25 35), (0, .nameAndType 36 37), (0, u "withEach"), (0, u "(I)Lcom/example/tideline/tideline/storage/UncompressBound;"), (0, .methodref 25 39), (0, .nameAndType 5 40), (0, u "(I)V"), (0, .class_ 42), (0, u "com/example/tideline/tideline/storage/UncompressBoundHoldsEachPinLaw"), (2, u "law"), (0, u "(IJIII)Z")] 3

def k1m0 : Method := { name := "<init>", desc := "()V", sig := { parameters := [], returnType := none }, accessFlags := 1, code := none }
def k1c1 : Code := { maxStack := 8, maxLocals := 17, code := code, exceptionTable := #[], attributes := #[] }
def k1m1 : Method := { name := "law", desc := "(IJIII)Z", sig := { parameters := [.int, .long, .int, .int, .int], returnType := some .boolean }, accessFlags := 9, code := some k1c1 }
/-- com/example/tideline/tideline/storage/UncompressBoundHoldsEachPinLaw -/
def k1 : Class := { plain "com/example/tideline/tideline/storage/UncompressBoundHoldsEachPinLaw" (some 0) with
  accessFlags := 49
  interfaces := #[]
  cf := some (fileOf pool1 41 #[] #[{ accessFlags := 1, nameIndex := 5, descriptorIndex := 6, attributes := #[] }, { accessFlags := 9, nameIndex := 45, descriptorIndex := 46, attributes := #[] }] 49 2 #[] #[])
  fields := #[]
  methods := #[k1m0, k1m1]
  instanceTypes := #[]
  staticTypes := #[]
  resolved := Array.replicate 50 none
  statics := none }

def pool2 : Array CpInfo := pool [(1, .class_ 2), (0, u "java/lang/Math"), (1, .class_ 6), (1, u "java/lang/Object"), (0, u "<init>"), (0, u "()V"), (89, .class_ 100), (1, u "java/lang/Math$RandomNumberGeneratorHolder"), (20, u "(JJ)J"), (50, u "negativeZeroFloatBits"), (0, u "J"), (2, u "negativeZeroDoubleBits"), (21, u "max"), (2, u "min"), (43, u "$assertionsDisabled"), (0, u "Z"), (91, u "twoToTheDoubleScaleDown"), (0, u "D"), (4, u "twoToTheDoubleScaleUp"), (9, u "E"), (3, u "PI"), (2, u "TAU"), (2, u "DEGREES_TO_RADIANS"), (0, u "RADIANS_TO_DEGREES")] 94

def k2m0 : Method := { name := "<init>", desc := "()V", sig := { parameters := [], returnType := none }, accessFlags := 2, code := none }
def k2c1 : Code := { maxStack := 4, maxLocals := 4, code := jdk_29_method_66_code, exceptionTable := #[], attributes := #[] }
def k2m1 : Method := { name := "max", desc := "(JJ)J", sig := { parameters := [.long, .long], returnType := some .long }, accessFlags := 9, code := some k2c1 }
def k2c2 : Code := { maxStack := 4, maxLocals := 4, code := jdk_29_method_70_code, exceptionTable := #[], attributes := #[] }
def k2m2 : Method := { name := "min", desc := "(JJ)J", sig := { parameters := [.long, .long], returnType := some .long }, accessFlags := 9, code := some k2c2 }
/-- java/lang/Math -/
def k2 : Class := { plain "java/lang/Math" (some 0) with
  accessFlags := 49
  interfaces := #[]
  cf := some (fileOf pool2 1 #[.nestMembers #[98]] #[{ accessFlags := 2, nameIndex := 7, descriptorIndex := 8, attributes := #[] }, { accessFlags := 9, nameIndex := 198, descriptorIndex := 121, attributes := #[] }, { accessFlags := 9, nameIndex := 201, descriptorIndex := 121, attributes := #[] }] 49 4 #[] #[{ accessFlags := 25, nameIndex := 354, descriptorIndex := 339, attributes := #[] }, { accessFlags := 25, nameIndex := 358, descriptorIndex := 339, attributes := #[] }, { accessFlags := 25, nameIndex := 361, descriptorIndex := 339, attributes := #[] }, { accessFlags := 26, nameIndex := 364, descriptorIndex := 339, attributes := #[] }, { accessFlags := 26, nameIndex := 365, descriptorIndex := 339, attributes := #[] }, { accessFlags := 26, nameIndex := 172, descriptorIndex := 173, attributes := #[] }, { accessFlags := 26, nameIndex := 176, descriptorIndex := 173, attributes := #[] }, { accessFlags := 8, nameIndex := 344, descriptorIndex := 339, attributes := #[] }, { accessFlags := 8, nameIndex := 338, descriptorIndex := 339, attributes := #[] }, { accessFlags := 4120, nameIndex := 245, descriptorIndex := 246, attributes := #[] }])
  fields := #[{ name := "E", type := .double, accessFlags := 25, slot := 0, constantValue := 0 }, { name := "PI", type := .double, accessFlags := 25, slot := 1, constantValue := 0 }, { name := "TAU", type := .double, accessFlags := 25, slot := 2, constantValue := 0 }, { name := "DEGREES_TO_RADIANS", type := .double, accessFlags := 26, slot := 3, constantValue := 0 }, { name := "RADIANS_TO_DEGREES", type := .double, accessFlags := 26, slot := 4, constantValue := 0 }, { name := "negativeZeroFloatBits", type := .long, accessFlags := 26, slot := 5, constantValue := 0 }, { name := "negativeZeroDoubleBits", type := .long, accessFlags := 26, slot := 6, constantValue := 0 }, { name := "twoToTheDoubleScaleUp", type := .double, accessFlags := 8, slot := 7, constantValue := 0 }, { name := "twoToTheDoubleScaleDown", type := .double, accessFlags := 8, slot := 8, constantValue := 0 }, { name := "$assertionsDisabled", type := .boolean, accessFlags := 4120, slot := 9, constantValue := 0 }]
  methods := #[k2m0, k2m1, k2m2]
  instanceTypes := #[]
  staticTypes := #[.double, .double, .double, .double, .double, .long, .long, .double, .double, .boolean]
  resolved := Array.replicate 460 none
  statics := none }

def pool3 : Array CpInfo := pool [(3, .long 9223372036854775807), (1, .methodref 6 7), (0, .class_ 8), (0, .nameAndType 9 10), (0, u "com/example/tideline/tideline/storage/UncompressBound"), (0, u "<init>"), (0, u "(IJ)V"), (0, .class_ 12), (0, u "com/example/tideline/tideline/storage/UncompressBound$Whole"), (0, .methodref 11 14), (0, .nameAndType 9 15), (0, u "(J)V"), (0, .methodref 6 17), (0, .nameAndType 9 18), (0, u "(ILcom/example/tideline/tideline/storage/UncompressBound$Whole;)V"), (0, .string 20), (0, u " bytes in all"), (0, .methodref 6 22), (0, .nameAndType 23 24), (0, u "refuseNegative"), (0, u "(JLjava/lang/String;)V"), (0, .methodref 26 27), (0, .class_ 28), (0, .nameAndType 9 29), (0, u "java/lang/Object"), (0, u "()V"), (0, .string 31), (0, u " bytes"), (0, .fieldref 6 33), (0, .nameAndType 34 35), (0, u "maxEach"), (0, u "I"), (0, .fieldref 6 37), (0, .nameAndType 38 39), (0, u "whole"), (0, u "Lcom/example/tideline/tideline/storage/UncompressBound$Whole;"), (9, .fieldref 11 50), (0, .nameAndType 51 52), (0, u "left"), (0, u "J"), (54, u "(I)V"), (3, u "withEach"), (0, u "(I)Lcom/example/tideline/tideline/storage/UncompressBound;"), (0, u "holdsEach"), (0, u "()Z")] 27

def k3c0 : Code := { maxStack := 4, maxLocals := 2, code := prog_381_method_1_code, exceptionTable := #[], attributes := #[] }
def k3m0 : Method := { name := "<init>", desc := "(I)V", sig := { parameters := [.int], returnType := none }, accessFlags := 1, code := some k3c0 }
def k3c1 : Code := { maxStack := 6, maxLocals := 4, code := prog_381_method_2_code, exceptionTable := #[], attributes := #[] }
def k3m1 : Method := { name := "<init>", desc := "(IJ)V", sig := { parameters := [.int, .long], returnType := none }, accessFlags := 1, code := some k3c1 }
def k3c2 : Code := { maxStack := 3, maxLocals := 3, code := prog_381_method_3_code, exceptionTable := #[], attributes := #[] }
def k3m2 : Method := { name := "<init>", desc := "(ILcom/example/tideline/tideline/storage/UncompressBound$Whole;)V", sig := { parameters := [.int, (.object "com/example/tideline/tideline/storage/UncompressBound$Whole")], returnType := none }, accessFlags := 2, code := some k3c2 }
def k3c3 : Code := { maxStack := 5, maxLocals := 3, code := prog_381_method_4_code, exceptionTable := #[], attributes := #[] }
def k3m3 : Method := { name := "refuseNegative", desc := "(JLjava/lang/String;)V", sig := { parameters := [.long, (.object "java/lang/String")], returnType := none }, accessFlags := 10, code := some k3c3 }
def k3c4 : Code := { maxStack := 4, maxLocals := 2, code := prog_381_method_5_code, exceptionTable := #[], attributes := #[] }
def k3m4 : Method := { name := "withEach", desc := "(I)Lcom/example/tideline/tideline/storage/UncompressBound;", sig := { parameters := [.int], returnType := some (.object "com/example/tideline/tideline/storage/UncompressBound") }, accessFlags := 1, code := some k3c4 }
def k3c5 : Code := { maxStack := 4, maxLocals := 1, code := prog_381_method_6_code, exceptionTable := #[], attributes := #[] }
def k3m5 : Method := { name := "holdsEach", desc := "()Z", sig := { parameters := [], returnType := some .boolean }, accessFlags := 0, code := some k3c5 }
/-- com/example/tideline/tideline/storage/UncompressBound -/
def k3 : Class := { plain "com/example/tideline/tideline/storage/UncompressBound" (some 0) with
  accessFlags := 49
  interfaces := #[]
  cf := some (fileOf pool3 6 #[.nestMembers #[11]] #[{ accessFlags := 1, nameIndex := 9, descriptorIndex := 107, attributes := #[] }, { accessFlags := 1, nameIndex := 9, descriptorIndex := 10, attributes := #[] }, { accessFlags := 2, nameIndex := 9, descriptorIndex := 18, attributes := #[] }, { accessFlags := 10, nameIndex := 23, descriptorIndex := 24, attributes := #[] }, { accessFlags := 1, nameIndex := 111, descriptorIndex := 112, attributes := #[] }, { accessFlags := 0, nameIndex := 113, descriptorIndex := 114, attributes := #[] }] 49 26 #[] #[{ accessFlags := 18, nameIndex := 34, descriptorIndex := 35, attributes := #[] }, { accessFlags := 18, nameIndex := 38, descriptorIndex := 39, attributes := #[] }])
  fields := #[{ name := "maxEach", type := .int, accessFlags := 18, slot := 0, constantValue := 0 }, { name := "whole", type := (.object "com/example/tideline/tideline/storage/UncompressBound$Whole"), accessFlags := 18, slot := 1, constantValue := 0 }]
  methods := #[k3m0, k3m1, k3m2, k3m3, k3m4, k3m5]
  instanceTypes := #[.int, (.object "com/example/tideline/tideline/storage/UncompressBound$Whole")]
  staticTypes := #[]
  resolved := (Array.replicate 142 none).setIfInBounds 49 (some (.field 4 1))
  statics := none }

def pool4 : Array CpInfo := pool [(1, .methodref 2 3), (0, .class_ 4), (0, .nameAndType 5 6), (0, u "java/lang/Object"), (0, u "<init>"), (0, u "()V"), (0, .fieldref 8 9), (0, .class_ 10), (0, .nameAndType 11 12), (0, u "com/example/tideline/tideline/storage/UncompressBound$Whole"), (0, u "max"), (0, u "J"), (0, .fieldref 8 14), (0, .nameAndType 15 12), (0, u "left"), (0, u "(J)V"), (5, .class_ 23), (0, u "com/example/tideline/tideline/storage/UncompressBound")] 2

def k4c0 : Code := { maxStack := 3, maxLocals := 3, code := prog_382_method_1_code, exceptionTable := #[], attributes := #[] }
def k4m0 : Method := { name := "<init>", desc := "(J)V", sig := { parameters := [.long], returnType := none }, accessFlags := 0, code := some k4c0 }
/-- com/example/tideline/tideline/storage/UncompressBound$Whole -/
def k4 : Class := { plain "com/example/tideline/tideline/storage/UncompressBound$Whole" (some 0) with
  accessFlags := 48
  interfaces := #[]
  cf := some (fileOf pool4 8 #[.nestHost 22] #[{ accessFlags := 0, nameIndex := 5, descriptorIndex := 16, attributes := #[] }] 48 2 #[] #[{ accessFlags := 18, nameIndex := 11, descriptorIndex := 12, attributes := #[] }, { accessFlags := 2, nameIndex := 15, descriptorIndex := 12, attributes := #[] }])
  fields := #[{ name := "max", type := .long, accessFlags := 18, slot := 0, constantValue := 0 }, { name := "left", type := .long, accessFlags := 2, slot := 1, constantValue := 0 }]
  methods := #[k4m0]
  instanceTypes := #[.long, .long]
  staticTypes := #[]
  resolved := Array.replicate 26 none
  statics := none }

def pool5 : Array CpInfo := pool [(1, .class_ 2), (0, u "java/io/Serializable"), (0, .class_ 4), (0, u "java/lang/Object")] 2

/-- java/io/Serializable -/
def k5 : Class := { plain "java/io/Serializable" (some 0) with
  accessFlags := 1537
  interfaces := #[]
  cf := some (fileOf pool5 1 #[] #[] 1537 3 #[] #[])
  fields := #[]
  methods := #[]
  instanceTypes := #[]
  staticTypes := #[]
  resolved := Array.replicate 7 none
  statics := none }

def pool6 : Array CpInfo := pool [(1, .class_ 2), (0, u "java/lang/Comparable"), (0, .class_ 4), (0, u "java/lang/Object")] 7

/-- java/lang/Comparable -/
def k6 : Class := { plain "java/lang/Comparable" (some 0) with
  accessFlags := 1537
  interfaces := #[]
  cf := some (fileOf pool6 1 #[] #[] 1537 3 #[] #[])
  fields := #[]
  methods := #[]
  instanceTypes := #[]
  staticTypes := #[]
  resolved := Array.replicate 12 none
  statics := none }

def pool7 : Array CpInfo := pool [(2, .class_ 4), (1, u "java/lang/CharSequence"), (42, .class_ 48), (0, u "java/lang/CharSequence$1CodePointIterator"), (10, .class_ 60), (0, u "java/lang/CharSequence$1CharIterator"), (5, .class_ 67), (0, u "java/lang/Object")] 63

/-- java/lang/CharSequence -/
def k7 : Class := { plain "java/lang/CharSequence" (some 0) with
  accessFlags := 1537
  interfaces := #[]
  cf := some (fileOf pool7 2 #[.nestMembers #[47, 59]] #[] 1537 66 #[] #[])
  fields := #[]
  methods := #[]
  instanceTypes := #[]
  staticTypes := #[]
  resolved := Array.replicate 131 none
  statics := none }

def pool8 : Array CpInfo := pool [(1, .class_ 2), (0, u "java/lang/constant/Constable"), (0, .class_ 4), (0, u "java/lang/Object")] 6

/-- java/lang/constant/Constable -/
def k8 : Class := { plain "java/lang/constant/Constable" (some 0) with
  accessFlags := 1537
  interfaces := #[]
  cf := some (fileOf pool8 1 #[] #[] 1537 3 #[] #[])
  fields := #[]
  methods := #[]
  instanceTypes := #[]
  staticTypes := #[]
  resolved := Array.replicate 11 none
  statics := none }

def pool9 : Array CpInfo := pool [(1, .class_ 2), (0, u "java/lang/constant/ConstantDesc"), (0, .class_ 4), (0, u "java/lang/Object")] 32

/-- java/lang/constant/ConstantDesc -/
def k9 : Class := { plain "java/lang/constant/ConstantDesc" (some 0) with
  accessFlags := 1537
  interfaces := #[]
  cf := some (fileOf pool9 1 #[] #[] 1537 3 #[] #[])
  fields := #[]
  methods := #[]
  instanceTypes := #[]
  staticTypes := #[]
  resolved := Array.replicate 37 none
  statics := none }

def pool10 : Array CpInfo := pool [(2, .class_ 4), (1, u "java/lang/Object"), (0, u "<init>"), (0, u "()V"), (3, .class_ 12), (1, u "java/lang/String"), (0, u "value"), (0, u "[B"), (2, u "coder"), (0, u "B"), (2, u "hash"), (0, u "I"), (2, u "hashIsZero"), (0, u "Z"), (13, u "COMPACT_STRINGS"), (534, .class_ 576), (0, u "java/lang/CharSequence"), (22, u "CASE_INSENSITIVE_ORDER"), (0, u "Ljava/util/Comparator;"), (500, u "serialPersistentFields"), (0, u "[Ljava/io/ObjectStreamField;"), (0, .class_ 1104), (0, u "java/lang/String$CaseInsensitiveComparator"), (1, .class_ 1107), (0, u "java/io/Serializable"), (0, .class_ 1109), (0, u "java/lang/Comparable"), (0, .class_ 1111), (0, u "java/lang/constant/Constable"), (0, .class_ 1113), (0, u "java/lang/constant/ConstantDesc"), (2, u "serialVersionUID"), (0, u "J"), (3, u "REPL"), (0, u "C"), (2, u "LATIN1"), (1, u "UTF16")] 323

def k10m0 : Method := { name := "<init>", desc := "()V", sig := { parameters := [], returnType := none }, accessFlags := 1, code := none }
/-- java/lang/String -/
def k10 : Class := { plain "java/lang/String" (some 0) with
  accessFlags := 49
  interfaces := #[5, 6, 7, 8, 9]
  cf := some (fileOf pool10 10 #[.nestMembers #[1103]] #[{ accessFlags := 1, nameIndex := 5, descriptorIndex := 6, attributes := #[] }] 49 2 #[1106, 1108, 575, 1110, 1112] #[{ accessFlags := 18, nameIndex := 13, descriptorIndex := 14, attributes := #[] }, { accessFlags := 18, nameIndex := 17, descriptorIndex := 18, attributes := #[] }, { accessFlags := 2, nameIndex := 21, descriptorIndex := 22, attributes := #[] }, { accessFlags := 2, nameIndex := 25, descriptorIndex := 26, attributes := #[] }, { accessFlags := 26, nameIndex := 1116, descriptorIndex := 1117, attributes := #[] }, { accessFlags := 24, nameIndex := 40, descriptorIndex := 26, attributes := #[] }, { accessFlags := 26, nameIndex := 1101, descriptorIndex := 1102, attributes := #[] }, { accessFlags := 26, nameIndex := 1121, descriptorIndex := 1122, attributes := #[] }, { accessFlags := 25, nameIndex := 599, descriptorIndex := 600, attributes := #[] }, { accessFlags := 24, nameIndex := 1125, descriptorIndex := 18, attributes := #[] }, { accessFlags := 24, nameIndex := 1127, descriptorIndex := 18, attributes := #[] }])
  fields := #[{ name := "value", type := (.array .byte), accessFlags := 18, slot := 0, constantValue := 0 }, { name := "coder", type := .byte, accessFlags := 18, slot := 1, constantValue := 0 }, { name := "hash", type := .int, accessFlags := 2, slot := 2, constantValue := 0 }, { name := "hashIsZero", type := .boolean, accessFlags := 2, slot := 3, constantValue := 0 }, { name := "serialVersionUID", type := .long, accessFlags := 26, slot := 0, constantValue := 0 }, { name := "COMPACT_STRINGS", type := .boolean, accessFlags := 24, slot := 1, constantValue := 0 }, { name := "serialPersistentFields", type := (.array (.object "java/io/ObjectStreamField")), accessFlags := 26, slot := 2, constantValue := 0 }, { name := "REPL", type := .char, accessFlags := 26, slot := 3, constantValue := 0 }, { name := "CASE_INSENSITIVE_ORDER", type := (.object "java/util/Comparator"), accessFlags := 25, slot := 4, constantValue := 0 }, { name := "LATIN1", type := .byte, accessFlags := 24, slot := 5, constantValue := 0 }, { name := "UTF16", type := .byte, accessFlags := 24, slot := 6, constantValue := 0 }]
  methods := #[k10m0]
  instanceTypes := #[(.array .byte), .byte, .int, .boolean]
  staticTypes := #[.long, .boolean, (.array (.object "java/io/ObjectStreamField")), .char, (.object "java/util/Comparator"), .byte, .byte]
  resolved := Array.replicate 1451 none
  statics := none }

def pool11 : Array CpInfo := pool [(1, u "java/lang/Cloneable"), (0, .class_ 1), (0, u "java/lang/Object"), (0, .class_ 3)] 3

/-- java/lang/Cloneable -/
def k11 : Class := { plain "java/lang/Cloneable" (some 0) with
  accessFlags := 1537
  interfaces := #[]
  cf := some (fileOf pool11 2 #[] #[] 1537 4 #[] #[])
  fields := #[]
  methods := #[]
  instanceTypes := #[]
  staticTypes := #[]
  resolved := Array.replicate 8 none
  statics := none }

/-- the primitive byte -/
def k12 : Class := { plain "byte" none with kind := .primitive 'B', accessFlags := 0x411 }
/-- [B -/
def k13 : Class := { plain "[B" (some 0) with kind := .array 12 .byte, interfaces := #[11, 5], accessFlags := 1041 }

/-- the primitive int -/
def k14 : Class := { plain "int" none with kind := .primitive 'I', accessFlags := 0x411 }
/-- [I -/
def k15 : Class := { plain "[I" (some 0) with kind := .array 14 .int, interfaces := #[11, 5], accessFlags := 1041 }

def heap : Heap := #[]
def classes : Array Class := #[k0, k1, k2, k3, k4, k5, k6, k7, k8, k9, k10, k11, k12, k13, k14, k15]
def interned : List (Array UInt16 × Addr) := []
def slotsUsed : Nat := 0
def theMethod : MethodId := ⟨1, 1⟩
def args0 : Array Value := #[.int 5, .long 7, .int 3, .int 2, .int 1]
def aboutOver (below : List Frame) : State where
  vm := { classes := classes, interned := interned.toArray }
  heap := heap
  slotsUsed := slotsUsed
  threads := #[{ frames := .invoking theMethod args0 :: below }]
def below0 : List Frame := [.native { method := ⟨0, 0⟩, args := #[] }]
def about1 : State := aboutOver below0
def p0 : Program := .bare "" "" ""
def e0 : Env := launch0.env 0 0 0
theorem w_frames : about1.frames = Frame.invoking theMethod args0 :: below0 := rfl
set_option maxRecDepth 65536 in
theorem w_args : argsFit about1.vm theMethod args0 = true := by decide +kernel
set_option maxRecDepth 65536 in
theorem w_heap : heapFits about1 = true := by decide +kernel
set_option maxRecDepth 65536 in
theorem w_runnable : about1.curStatus? = some .runnable := by decide +kernel
set_option maxRecDepth 65536 in
theorem w_alone : about1.alone = true := by decide +kernel
set_option maxRecDepth 65536 in
theorem w_named : about1.methodNamed? x = some theMethod := by decide +kernel
set_option maxRecDepth 65536 in
theorem w_hears : about1.hears theMethod below0 = true := by decide +kernel
set_option maxRecDepth 65536 in
theorem w_ripe : about1.ripe theMethod args0 below0 = true := by decide +kernel
theorem w_running : about1.status = .running := rfl
set_option maxRecDepth 65536 in
theorem w_room : about1.hasRoom e0.platform room_1 = true :=
  launch0.hasRoom_least _ room_1 (by decide +kernel) (by decide +kernel) (by decide +kernel) (by decide +kernel) (by decide +kernel) (by decide +kernel)
theorem allAtoms_all (ts : List Jvm.Cond) (a : Array Jvm.Value) (st : Jvm.State) : (allAtoms ts).before a st = ts.all (fun c => c.before a st) := by
  induction ts with
  | nil => rfl
  | cons c t ih =>
    show (Jvm.Cond.and c (allAtoms t)).before a st = _
    rw [Jvm.Cond.before_and, ih, List.all_cons]
def words1 : List Jvm.Cond := Jvm.Cond.code x code maxLocals ret :: tables_1
/-- a 'code' word, met by the world's own term for the bytes: nothing is compared byte by byte -/
theorem code_word {y : MethodName} {bytes : ByteArray} {mx : Nat} {rt : Option FieldType} {a : Array Value} {s : State} {m : MethodId} {meth : Method} {c : Code} (h1 : s.methodNamed? y = some m) (h2 : s.vm.method? m = some meth) (h3 : meth.code = some c) (h4 : c.code = bytes)
    (h5 : (c.maxLocals == mx && c.exceptionTable.isEmpty && decide (c.maxStack ≤ mostOperands) && decide (meth.sig.returnType = rt) && !meth.locks && decide (parseMethodDescriptor y.desc = some meth.sig)) = true) : (Jvm.Cond.code y bytes mx rt).before a s = true := by
  simp only [Bool.and_eq_true, beq_iff_eq, Bool.not_eq_true', decide_eq_true_eq] at h5
  obtain ⟨⟨⟨⟨⟨g1, g2⟩, g3⟩, g4⟩, g5⟩, g6⟩ := h5
  simp [Cond.before, Cond.holds, Cond.value, h1, h2, h3, h4, g1, g2, g3, g4, g5, g6]
def isCode : Jvm.Cond → Bool
  | .code _ _ _ _ => true
  | _ => false
theorem all_split {L : List Jvm.Cond} {P : Jvm.Cond → Bool} (h1 : L.all (fun c => isCode c || P c) = true) (h2 : ∀ c ∈ L.filter isCode, P c = true) : L.all P = true := by
  refine List.all_eq_true.mpr fun c hc => ?_
  have h := List.all_eq_true.mp h1 c hc
  rcases Bool.eq_false_or_eq_true (isCode c) with hi | hi
  · exact h2 c (List.mem_filter.mpr ⟨hc, hi⟩)
  · simpa [hi] using h
set_option maxRecDepth 65536 in
theorem w_c0 : (Jvm.Cond.code x code maxLocals ret).before args0 about1 = true := code_word (m := ⟨1, 1⟩) (meth := k1m1) (c := k1c1) (by decide +kernel) rfl rfl rfl (by decide +kernel)
set_option maxRecDepth 65536 in
theorem w_c1 : (Jvm.Cond.code ({ cls := "java/lang/Math", name := "max", desc := "(JJ)J" } : Jvm.MethodName) jdk_29_method_66_code (4 : Nat) (Option.some Jvm.ClassFile.FieldType.long)).before args0 about1 = true := code_word (m := ⟨2, 1⟩) (meth := k2m1) (c := k2c1) (by decide +kernel) rfl rfl rfl (by decide +kernel)
set_option maxRecDepth 65536 in
theorem w_c2 : (Jvm.Cond.code ({ cls := "java/lang/Math", name := "min", desc := "(JJ)J" } : Jvm.MethodName) jdk_29_method_70_code (4 : Nat) (Option.some Jvm.ClassFile.FieldType.long)).before args0 about1 = true := code_word (m := ⟨2, 2⟩) (meth := k2m2) (c := k2c2) (by decide +kernel) rfl rfl rfl (by decide +kernel)
set_option maxRecDepth 65536 in
theorem w_c3 : (Jvm.Cond.code ({ cls := "com/example/tideline/tideline/storage/UncompressBound", name := "<init>", desc := "(IJ)V" } : Jvm.MethodName) prog_381_method_2_code (4 : Nat) (Option.none : Option Jvm.ClassFile.FieldType)).before args0 about1 = true := code_word (m := ⟨3, 1⟩) (meth := k3m1) (c := k3c1) (by decide +kernel) rfl rfl rfl (by decide +kernel)
set_option maxRecDepth 65536 in
theorem w_c4 : (Jvm.Cond.code ({ cls := "com/example/tideline/tideline/storage/UncompressBound$Whole", name := "<init>", desc := "(J)V" } : Jvm.MethodName) prog_382_method_1_code (3 : Nat) (Option.none : Option Jvm.ClassFile.FieldType)).before args0 about1 = true := code_word (m := ⟨4, 0⟩) (meth := k4m0) (c := k4c0) (by decide +kernel) rfl rfl rfl (by decide +kernel)
set_option maxRecDepth 65536 in
theorem w_c5 : (Jvm.Cond.code ({ cls := "java/lang/Object", name := "<init>", desc := "()V" } : Jvm.MethodName) object_method_1_code (1 : Nat) (Option.none : Option Jvm.ClassFile.FieldType)).before args0 about1 = true := code_word (m := ⟨0, 0⟩) (meth := k0m0) (c := k0c0) (by decide +kernel) rfl rfl rfl (by decide +kernel)
set_option maxRecDepth 65536 in
theorem w_c6 : (Jvm.Cond.code ({ cls := "com/example/tideline/tideline/storage/UncompressBound", name := "<init>", desc := "(ILcom/example/tideline/tideline/storage/UncompressBound$Whole;)V" } : Jvm.MethodName) prog_381_method_3_code (3 : Nat) (Option.none : Option Jvm.ClassFile.FieldType)).before args0 about1 = true := code_word (m := ⟨3, 2⟩) (meth := k3m2) (c := k3c2) (by decide +kernel) rfl rfl rfl (by decide +kernel)
set_option maxRecDepth 65536 in
theorem w_c7 : (Jvm.Cond.code ({ cls := "com/example/tideline/tideline/storage/UncompressBound", name := "refuseNegative", desc := "(JLjava/lang/String;)V" } : Jvm.MethodName) prog_381_method_4_code (3 : Nat) (Option.none : Option Jvm.ClassFile.FieldType)).before args0 about1 = true := code_word (m := ⟨3, 3⟩) (meth := k3m3) (c := k3c3) (by decide +kernel) rfl rfl rfl (by decide +kernel)
set_option maxRecDepth 65536 in
theorem w_c8 : (Jvm.Cond.code ({ cls := "com/example/tideline/tideline/storage/UncompressBound", name := "holdsEach", desc := "()Z" } : Jvm.MethodName) prog_381_method_6_code (1 : Nat) (Option.some Jvm.ClassFile.FieldType.boolean)).before args0 about1 = true := code_word (m := ⟨3, 5⟩) (meth := k3m5) (c := k3c5) (by decide +kernel) rfl rfl rfl (by decide +kernel)
set_option maxRecDepth 65536 in
theorem w_c9 : (Jvm.Cond.code ({ cls := "com/example/tideline/tideline/storage/UncompressBound", name := "withEach", desc := "(I)Lcom/example/tideline/tideline/storage/UncompressBound;" } : Jvm.MethodName) prog_381_method_5_code (2 : Nat) (Option.some (Jvm.ClassFile.FieldType.object "com/example/tideline/tideline/storage/UncompressBound"))).before args0 about1 = true := code_word (m := ⟨3, 4⟩) (meth := k3m4) (c := k3c4) (by decide +kernel) rfl rfl rfl (by decide +kernel)
set_option maxRecDepth 65536 in
theorem w_c10 : (Jvm.Cond.code ({ cls := "com/example/tideline/tideline/storage/UncompressBound", name := "<init>", desc := "(I)V" } : Jvm.MethodName) prog_381_method_1_code (2 : Nat) (Option.none : Option Jvm.ClassFile.FieldType)).before args0 about1 = true := code_word (m := ⟨3, 0⟩) (meth := k3m0) (c := k3c0) (by decide +kernel) rfl rfl rfl (by decide +kernel)
def codes1 : List Jvm.Cond := [Jvm.Cond.code x code maxLocals ret, Jvm.Cond.code ({ cls := "java/lang/Math", name := "max", desc := "(JJ)J" } : Jvm.MethodName) jdk_29_method_66_code (4 : Nat) (Option.some Jvm.ClassFile.FieldType.long), Jvm.Cond.code ({ cls := "java/lang/Math", name := "min", desc := "(JJ)J" } : Jvm.MethodName) jdk_29_method_70_code (4 : Nat) (Option.some Jvm.ClassFile.FieldType.long), Jvm.Cond.code ({ cls := "com/example/tideline/tideline/storage/UncompressBound", name := "<init>", desc := "(IJ)V" } : Jvm.MethodName) prog_381_method_2_code (4 : Nat) (Option.none : Option Jvm.ClassFile.FieldType), Jvm.Cond.code ({ cls := "com/example/tideline/tideline/storage/UncompressBound$Whole", name := "<init>", desc := "(J)V" } : Jvm.MethodName) prog_382_method_1_code (3 : Nat) (Option.none : Option Jvm.ClassFile.FieldType), Jvm.Cond.code ({ cls := "java/lang/Object", name := "<init>", desc := "()V" } : Jvm.MethodName) object_method_1_code (1 : Nat) (Option.none : Option Jvm.ClassFile.FieldType), Jvm.Cond.code ({ cls := "com/example/tideline/tideline/storage/UncompressBound", name := "<init>", desc := "(ILcom/example/tideline/tideline/storage/UncompressBound$Whole;)V" } : Jvm.MethodName) prog_381_method_3_code (3 : Nat) (Option.none : Option Jvm.ClassFile.FieldType), Jvm.Cond.code ({ cls := "com/example/tideline/tideline/storage/UncompressBound", name := "refuseNegative", desc := "(JLjava/lang/String;)V" } : Jvm.MethodName) prog_381_method_4_code (3 : Nat) (Option.none : Option Jvm.ClassFile.FieldType), Jvm.Cond.code ({ cls := "com/example/tideline/tideline/storage/UncompressBound", name := "holdsEach", desc := "()Z" } : Jvm.MethodName) prog_381_method_6_code (1 : Nat) (Option.some Jvm.ClassFile.FieldType.boolean), Jvm.Cond.code ({ cls := "com/example/tideline/tideline/storage/UncompressBound", name := "withEach", desc := "(I)Lcom/example/tideline/tideline/storage/UncompressBound;" } : Jvm.MethodName) prog_381_method_5_code (2 : Nat) (Option.some (Jvm.ClassFile.FieldType.object "com/example/tideline/tideline/storage/UncompressBound")), Jvm.Cond.code ({ cls := "com/example/tideline/tideline/storage/UncompressBound", name := "<init>", desc := "(I)V" } : Jvm.MethodName) prog_381_method_1_code (2 : Nat) (Option.none : Option Jvm.ClassFile.FieldType)]
set_option maxRecDepth 65536 in
theorem codes_eq : words1.filter isCode = codes1 := rfl
theorem w_codes : ∀ c ∈ words1.filter isCode, c.before args0 about1 = true := by
  rw [codes_eq]
  intro c hc
  simp only [codes1, List.mem_cons, List.not_mem_nil, or_false] at hc
  rcases hc with rfl | rfl | rfl | rfl | rfl | rfl | rfl | rfl | rfl | rfl | rfl
  · exact w_c0
  · exact w_c1
  · exact w_c2
  · exact w_c3
  · exact w_c4
  · exact w_c5
  · exact w_c6
  · exact w_c7
  · exact w_c8
  · exact w_c9
  · exact w_c10
set_option maxRecDepth 65536 in
theorem w_t1 : (words1.take 24).all (fun c => isCode c || c.before args0 about1) = true := by decide +kernel
set_option maxRecDepth 65536 in
theorem w_t2 : ((words1.drop 24).take 24).all (fun c => isCode c || c.before args0 about1) = true := by decide +kernel
set_option maxRecDepth 65536 in
theorem w_t3 : ((words1.drop 24).drop 24).all (fun c => isCode c || c.before args0 about1) = true := by decide +kernel
theorem w_tables : (allAtoms (Jvm.Cond.code x code maxLocals ret :: tables_1)).before args0 about1 = true := by
  rw [allAtoms_all]
  show words1.all (fun c => c.before args0 about1) = true
  refine all_split ?_ w_codes
  rw [← List.take_append_drop 24 words1, List.all_append, w_t1, ← List.take_append_drop 24 (words1.drop 24), List.all_append, w_t2, w_t3]
  rfl
set_option maxRecDepth 65536 in
theorem w_case : (Jvm.Cond.and given_1 narrow_1).before args0 about1 = true := by decide +kernel
theorem w_applies : (headSpec (Jvm.Cond.code x code maxLocals ret :: tables_1) room_1).applies x e0.platform about1 = true :=
  (Spec.applies_iff w_frames).mpr ⟨w_running, w_runnable, w_alone, w_named, w_hears, w_ripe, w_room, w_tables⟩
theorem atStart : AtStart classFile x code maxLocals ret World_1 tables_1 room_1 Calls_1 rest_1 Pre_1 launch0 p0 e0 about1 theMethod args0 below0 :=
  ⟨lists_1, trivial, launch0.admits_env _ _ _, launch0.least_env, fairChoices_fair.cas, fairChoices_fair.clock, w_frames, w_args, w_heap, w_applies, trivial, trivial, w_case⟩
end start1
theorem witness_1 : WitnessClaimed_1 := ⟨start1.p0, start1.e0, start1.about1, start1.theMethod, start1.args0, start1.below0, start1.atStart⟩
end Jvm.Pilot.@@N@@
