import JvmDerived
import JvmDerived.Pilot.@@N@@Statement
import JvmDerived.Pilot.@@N@@Code
set_option linter.unusedVariables false
set_option linter.unusedSimpArgs false
namespace Jvm.RoadKit
open Sem ClassFile Op Lib Jvm.Stand Jvm.Free Jvm.LawKit
section New
variable {p : Program} {l : Launch} {e : Env} {R : Room} {s : State} {m : MethodId} {args : Array Value} {below : List Frame} {meth : Method} {c : Code} {T : State} {locs : List Loc} {cells slots : Nat}
theorem retI (X : Stand p l e R s m args below meth c T locs cells slots) (hx : p.tables.exec = Jvm.exec) {pc : Nat} {Ls : Array Slot} {z : Int32} {rest : List Value} (hret : meth.sig.returnType = some .int) (hd : decode c.code pc = .ok (.ireturn, 1)) {fs : List Frame}
    (hl : ∀ (f : JFrame) (acts : List Action), f.method = m → f.locked = none → f.entered = [] → (doReturn e (T.setTop f) acts (some (.int z))).1 = T.setFrames fs) : Steps p.tables e below (T.setTop (mkF m pc Ls (.int z :: rest))) (T.setFrames fs) := by
  have hm' : T.vm.method? m = some meth := X.method'
  have hn : narrow .int (.int z) = .int z := rfl
  show Steps p.tables e below (T.setTop { method := m, pc := pc, locals := Ls, stack := _ :: rest, locked := none }) _
  jvm_step X.here [X.here.top, hx, hd, hm', hret, hn]
  first | (intro acts; rw [hl _ acts rfl rfl rfl]) | rw [hl _ _ rfl rfl rfl]
  exact Steps.refl _
end New
end Jvm.RoadKit
namespace Jvm.Pilot.@@N@@
open Jvm Jvm.ClassFile Sem Op Lib Jvm.Free Jvm.Stand Jvm.LawKit Jvm.RoadKit Bundle Jvm.Pilot.@@N@@.Jvm.D
def own_A (Z : State) (h : Heap) (a : Addr) (xs : List Int64) : Prop := ∃ k, Arv Z h a k .long (Int32.ofNat xs.length) (xs.map Value.long) (.long (0 : Int64))
theorem own_A.keep {Z : State} {h h' : Heap} {a : Addr} {xs : List Int64} {ws : List Addr} (V : own_A Z h a xs) (K : Keep h h' ws) (q : a ∉ ws) : own_A Z h' a xs := by
  obtain ⟨k, V⟩ := V
  exact ⟨k, Arv.keep V K q⟩
def own_lst (z : Int32) (a b : Int64) : List Int64 := if z = 0 then [] else if z = 1 then [a] else [a, b]
theorem own_lst2 (z : Int32) (a b : Int64) : (own_lst z a b).length ≤ 2 := by
  unfold own_lst
  split
  · exact Nat.zero_le _
  · split
    · exact Nat.le_of_ble_eq_true rfl
    · exact Nat.le_of_ble_eq_true rfl
theorem own_n32 {n : Nat} (hn : n ≤ 2) : (Int32.ofNat n).toNatClampNeg = n := by
  match n, hn with
  | 0, _ => decide
  | 1, _ => decide
  | 2, _ => decide
theorem own_nn {n : Nat} (hn : n ≤ 2) : ¬ (Int32.ofNat n < 0) := by
  match n, hn with
  | 0, _ => decide
  | 1, _ => decide
  | 2, _ => decide
theorem own_lt {i n : Nat} (h : i < n) (hn : n ≤ 2) : Int32.ofNat i < Int32.ofNat n := by
  match n, i, hn, h with
  | 1, 0, _, _ => decide
  | 2, 0, _, _ => decide
  | 2, 1, _, _ => decide
theorem own_ltN {i n : Nat} (hi : i ≤ 2) (hn : n ≤ 2) (h : Int32.ofNat i < Int32.ofNat n) : i < n := by
  rcases Nat.lt_or_ge i n with q | q
  · exact q
  · exfalso
    match n, i, hn, hi, q with
    | 0, 0, _, _, _ => exact absurd h (by decide)
    | 0, 1, _, _, _ => exact absurd h (by decide)
    | 0, 2, _, _, _ => exact absurd h (by decide)
    | 1, 1, _, _, _ => exact absurd h (by decide)
    | 1, 2, _, _, _ => exact absurd h (by decide)
    | 2, 2, _, _, _ => exact absurd h (by decide)
theorem own_one (i : Nat) : Int32.ofNat i + (1 : Int32) = Int32.ofNat (i + 1) := (Int32.ofNat_add i 1).symm
theorem own_in {cl : Cell} {n i : Nat} (S : cl.slots.size = (Int32.ofNat n).toNatClampNeg) (hn : n ≤ 2) (hi : i < n) : ¬ (Int32.ofNat i < 0 ∨ cl.slots.size ≤ (Int32.ofNat i).toNatClampNeg) := by
  rw [S, own_n32 hn, own_n32 (by omega)]
  exact fun q => q.elim (own_nn (by omega)) (fun q => by omega)
theorem own_map (xs : List Int64) (i : Nat) : (xs.map Value.long).getD i (.long (0 : Int64)) = .long (xs.getD i 0) := by
  induction xs generalizing i with
  | nil => rfl
  | cons x xs ih =>
    cases i with
    | zero => rfl
    | succ i => exact ih i
theorem own_hat {cl : Cell} {xs : List Int64} {i : Nat} (S : cl.slots.size = (Int32.ofNat xs.length).toNatClampNeg) (H : Has cl (xs.map Value.long) (.long (0 : Int64))) (hn : xs.length ≤ 2) (hi : i < xs.length) : cl.slots[(Int32.ofNat i).toNatClampNeg]? = some (.long (xs.getD i 0)) := by
  rw [own_n32 (by omega), ← own_map]
  exact H i (by rw [S, own_n32 hn]; exact hi)
theorem own_getge (ys : List Int64) (i : Nat) (h : ys.length ≤ i) : ys.getD i 0 = 0 := by
  induction ys generalizing i with
  | nil => rfl
  | cons y ys ih =>
    cases i with
    | zero => simp at h
    | succ i => exact ih i (by simpa using h)
theorem own_sel (ys : List Int64) (i : Nat) (hn : ys.length ≤ 2) (hi : i ≤ 2) : (if Int32.ofNat i < Int32.ofNat ys.length then ys.getD i 0 else (0 : Int64)) = ys.getD i 0 := by
  split
  · rfl
  · rename_i h
    rw [own_getge]
    rcases Nat.lt_or_ge i ys.length with q | q
    · exact absurd (own_lt q hn) h
    · exact q
theorem own_k3 (v : Int32) (h0 : 0 ≤ v.toInt) (h1 : v.toInt < 3) : v = 0 ∨ v = 1 ∨ v = 2 := by
  have key : ∀ k : Int32, v.toInt = k.toInt → v = k := fun k q => Int32.toInt_inj.mp q
  have d : v.toInt = 0 ∨ v.toInt = 1 ∨ v.toInt = 2 := by omega
  rcases d with d | d | d
  · exact Or.inl (key 0 d)
  · exact Or.inr (Or.inl (key 1 d))
  · exact Or.inr (Or.inr (key 2 d))
theorem own_get0 (z : Int32) (a b : Int64) (hz : z = 0 ∨ z = 1 ∨ z = 2) : (own_lst z a b).getD 0 0 = (if (0 : Int32) < z then a else (0 : Int64)) := by
  rcases hz with rfl | rfl | rfl <;> rfl
theorem own_get1 (z : Int32) (a b : Int64) (hz : z = 0 ∨ z = 1 ∨ z = 2) : (own_lst z a b).getD 1 0 = (if (1 : Int32) < z then b else (0 : Int64)) := by
  rcases hz with rfl | rfl | rfl <;> rfl
def own_bit (xs ys : List Int64) (i : Nat) : Int32 := if (xs.getD i 0 &&& (ys.getD i 0 ^^^ (-1 : Int64))) = (0 : Int64) then (1 : Int32) else (0 : Int32)
def own_go (xs ys : List Int64) : Nat → Nat → Int32 → Int32
  | 0, _, ok => ok
  | k + 1, i, ok => if ok = (0 : Int32) then ok else own_go xs ys k (i + 1) (own_bit xs ys i)
def own_sub (xs ys : List Int64) : Int32 := own_go xs ys xs.length 0 1
theorem own_bit01 (xs ys : List Int64) (i : Nat) : own_bit xs ys i = 0 ∨ own_bit xs ys i = 1 := by
  unfold own_bit
  split
  · exact Or.inr rfl
  · exact Or.inl rfl
theorem own_go01 (xs ys : List Int64) : ∀ k i ok, (ok = 0 ∨ ok = 1) → (own_go xs ys k i ok = 0 ∨ own_go xs ys k i ok = 1)
  | 0, _, _, h => h
  | k + 1, i, ok, h => by
    unfold own_go
    split
    · exact h
    · exact own_go01 xs ys k (i + 1) _ (own_bit01 xs ys i)
theorem own_nb (xs ys : List Int64) : nar .boolean (own_sub xs ys) = own_sub xs ys := by
  rcases own_go01 xs ys xs.length 0 1 (Or.inr rfl) with h | h
  · show nar .boolean (own_go xs ys xs.length 0 1) = own_go xs ys xs.length 0 1
    rw [h]; decide
  · show nar .boolean (own_go xs ys xs.length 0 1) = own_go xs ys xs.length 0 1
    rw [h]; decide
theorem own_and (x w : Int64) : (x &&& (w ^^^ (-1 : Int64))) = 0 ↔ (x &&& w) = x := by
  rw [← Int64.toBitVec_inj, ← Int64.toBitVec_inj]
  simp only [Int64.toBitVec_and, Int64.toBitVec_xor]
  have h1 : (-1 : Int64).toBitVec = BitVec.allOnes 64 := by decide
  have h0 : (0 : Int64).toBitVec = 0#64 := by decide
  rw [h1, h0]
  constructor
  · intro q
    apply BitVec.eq_of_getLsbD_eq
    intro i hi
    have z := congrArg (fun b => b.getLsbD i) q
    simp only [BitVec.getLsbD_and, BitVec.getLsbD_xor, BitVec.getLsbD_allOnes, BitVec.getLsbD_zero, hi, decide_true] at z ⊢
    revert z
    cases x.toBitVec.getLsbD i <;> cases w.toBitVec.getLsbD i <;> decide
  · intro q
    apply BitVec.eq_of_getLsbD_eq
    intro i hi
    have z := congrArg (fun b => b.getLsbD i) q
    simp only [BitVec.getLsbD_and, BitVec.getLsbD_xor, BitVec.getLsbD_allOnes, BitVec.getLsbD_zero, hi, decide_true] at z ⊢
    revert z
    cases x.toBitVec.getLsbD i <;> cases w.toBitVec.getLsbD i <;> decide
theorem d1_0 : decode prog_84_method_8_code 0 = .ok (.iconst 1, 1) := by decide +kernel
theorem d1_1 : decode prog_84_method_8_code 1 = .ok (.istore_n 2, 1) := by decide +kernel
theorem d1_2 : decode prog_84_method_8_code 2 = .ok (.iconst 0, 1) := by decide +kernel
theorem d1_3 : decode prog_84_method_8_code 3 = .ok (.istore_n 3, 1) := by decide +kernel
theorem d1_4 : decode prog_84_method_8_code 4 = .ok (.iload_n 3, 1) := by decide +kernel
theorem d1_5 : decode prog_84_method_8_code 5 = .ok (.aload_n 0, 1) := by decide +kernel
theorem d1_6 : decode prog_84_method_8_code 6 = .ok (.arraylength, 1) := by decide +kernel
theorem d1_7 : decode prog_84_method_8_code 7 = .ok (.if_icmp .ge 45, 3) := by decide +kernel
theorem d1_10 : decode prog_84_method_8_code 10 = .ok (.iload_n 2, 1) := by decide +kernel
theorem d1_11 : decode prog_84_method_8_code 11 = .ok (.ifCond .eq 41, 3) := by decide +kernel
theorem d1_14 : decode prog_84_method_8_code 14 = .ok (.aload_n 0, 1) := by decide +kernel
theorem d1_15 : decode prog_84_method_8_code 15 = .ok (.iload_n 3, 1) := by decide +kernel
theorem d1_16 : decode prog_84_method_8_code 16 = .ok (.laload, 1) := by decide +kernel
theorem d1_17 : decode prog_84_method_8_code 17 = .ok (.iload_n 3, 1) := by decide +kernel
theorem d1_18 : decode prog_84_method_8_code 18 = .ok (.aload_n 1, 1) := by decide +kernel
theorem d1_19 : decode prog_84_method_8_code 19 = .ok (.arraylength, 1) := by decide +kernel
theorem d1_20 : decode prog_84_method_8_code 20 = .ok (.if_icmp .ge 9, 3) := by decide +kernel
theorem d1_23 : decode prog_84_method_8_code 23 = .ok (.aload_n 1, 1) := by decide +kernel
theorem d1_24 : decode prog_84_method_8_code 24 = .ok (.iload_n 3, 1) := by decide +kernel
theorem d1_25 : decode prog_84_method_8_code 25 = .ok (.laload, 1) := by decide +kernel
theorem d1_26 : decode prog_84_method_8_code 26 = .ok (.goto 4, 3) := by decide +kernel
theorem d1_29 : decode prog_84_method_8_code 29 = .ok (.lconst 0, 1) := by decide +kernel
theorem d1_30 : decode prog_84_method_8_code 30 = .ok (.ldc2_w 9, 3) := by decide +kernel
theorem d1_33 : decode prog_84_method_8_code 33 = .ok (.lxor, 1) := by decide +kernel
theorem d1_34 : decode prog_84_method_8_code 34 = .ok (.land, 1) := by decide +kernel
theorem d1_35 : decode prog_84_method_8_code 35 = .ok (.lconst 0, 1) := by decide +kernel
theorem d1_36 : decode prog_84_method_8_code 36 = .ok (.lcmp, 1) := by decide +kernel
theorem d1_37 : decode prog_84_method_8_code 37 = .ok (.ifCond .ne 7, 3) := by decide +kernel
theorem d1_40 : decode prog_84_method_8_code 40 = .ok (.iconst 1, 1) := by decide +kernel
theorem d1_41 : decode prog_84_method_8_code 41 = .ok (.goto 4, 3) := by decide +kernel
theorem d1_44 : decode prog_84_method_8_code 44 = .ok (.iconst 0, 1) := by decide +kernel
theorem d1_45 : decode prog_84_method_8_code 45 = .ok (.istore_n 2, 1) := by decide +kernel
theorem d1_46 : decode prog_84_method_8_code 46 = .ok (.iinc 3 1, 3) := by decide +kernel
theorem d1_49 : decode prog_84_method_8_code 49 = .ok (.goto (-45), 3) := by decide +kernel
theorem d1_52 : decode prog_84_method_8_code 52 = .ok (.iload_n 2, 1) := by decide +kernel
theorem d1_53 : decode prog_84_method_8_code 53 = .ok (.ireturn, 1) := by decide +kernel
set_option maxRecDepth 65536 in
set_option maxHeartbeats 40000000 in
theorem tn1 {p : Program} {l : Launch} {e : Env} {R : Room} {s : State} {m : MethodId} {args : Array Value} {below : List Frame} {meth : Method} {c : Code} {T0 : State} {locs : List Loc} {cells slots : Nat} {Z : State} {a0 : Array Value} {h0 : Heap} (a1 : Addr) (a2 : Addr) (ok : Int32) (i : Int32) (cl1 : Cell) (cl2 : Cell) (z1 : Int32) (z2 : Int32) (w1 : Int64) (w2 : Int64) (X0 : Stand p l e R s m args below meth c T0 locs cells slots) (hx : p.tables.exec = Jvm.exec) (hZ : Z.Warmed39 s.vm) (hw : ∀ d ∈ tables_1, d.before a0 Z = true) (hby : c.code = prog_84_method_8_code) (hml : c.maxLocals = 4) (hown : s.vm.findClass "com/example/prune/prune/mdp/Words" = some m.cls) (e0 : T0.heap = h0) (Ar1 : Arr Z h0 a1 cl1 .long) (S1 : cl1.slots.size = z1.toNatClampNeg) (M1 : ¬ z1 < 0) (Ar2 : Arr Z h0 a2 cl2 .long) (S2 : cl2.slots.size = z2.toNatClampNeg) (M2 : ¬ z2 < 0) (hin1 : ¬ (i < 0 ∨ cl1.slots.size ≤ i.toNatClampNeg)) (hat1 : cl1.slots[i.toNatClampNeg]? = some (.long w1)) (hin2 : i < z2 → ¬ (i < 0 ∨ cl2.slots.size ≤ i.toNatClampNeg)) (hat2 : i < z2 → cl2.slots[i.toNatClampNeg]? = some (.long w2)) (hc1 : i < z1) (hc2 : ¬ (ok = (0 : Int32))) :
    ∀ t, Steps p.tables e below (T0.setTop (mkF m 4 #[.val (.ref a1), .val (.ref a2), .val (.int (if (w1 &&& ((if (i < z2) then w2 else (0 : Int64)) ^^^ (-1 : Int64))) = (0 : Int64) then (1 : Int32) else (0 : Int32))), .val (.int (i + (1 : Int32)))] [])) t → Steps p.tables e below (T0.setTop (mkF m 4 #[.val (.ref a1), .val (.ref a2), .val (.int ok), .val (.int i)] [])) t := by
  obtain ⟨v2, hv2⟩ : ∃ z : Int64, z = if (i < z2) then w2 else (0 : Int64) := ⟨_, rfl⟩
  obtain ⟨v4, hv4⟩ : ∃ z : Int32, z = if ((w1 &&& (v2 ^^^ (-1 : Int64))) = (0 : Int64)) then (1 : Int32) else (0 : Int32) := ⟨_, rfl⟩
  intro t k
  have hE : v4 = (if (w1 &&& ((if (i < z2) then w2 else (0 : Int64)) ^^^ (-1 : Int64))) = (0 : Int64) then (1 : Int32) else (0 : Int32)) := by rw [hv4, hv2]
  rw [← hE] at k
  show Steps p.tables e below (T0.setTop (mkF m 4 #[.val (.ref a1), .val (.ref a2), .val (.int ok), .val (.int i)] [])) _
  refine XS.iloadN X0.here hx rfl (hb hby d1_4) rfl ?_
  show Steps p.tables e below (T0.setTop (mkF m 5 #[.val (.ref a1), .val (.ref a2), .val (.int ok), .val (.int i)] [(.int i)])) _
  refine XS.aloadN X0.here hx rfl (hb hby d1_5) rfl rfl ?_
  show Steps p.tables e below (T0.setTop (mkF m 6 #[.val (.ref a1), .val (.ref a2), .val (.int ok), .val (.int i)] [(.ref a1), (.int i)])) _
  refine X0.arraylength hx (by first | exact Ar1.1 | (rw [e0]; exact Ar1.1)) (State.isArrayOf_alike hZ.alike Ar1.2.1) (g := (mkF m 6 #[.val (.ref a1), .val (.ref a2), .val (.int ok), .val (.int i)] [(.ref a1), (.int i)])) rfl rfl (hb hby d1_6) _ ?_
  rw [len_of S1 M1]
  show Steps p.tables e below (T0.setTop (mkF m 7 #[.val (.ref a1), .val (.ref a2), .val (.int ok), .val (.int i)] [(.int z1), (.int i)])) _
  refine XS.icmpNo X0.here hx rfl (hb hby d1_7) rfl (tlt hc1).2.1 ?_
  show Steps p.tables e below (T0.setTop (mkF m 10 #[.val (.ref a1), .val (.ref a2), .val (.int ok), .val (.int i)] [])) _
  refine XS.iloadN X0.here hx rfl (hb hby d1_10) rfl ?_
  show Steps p.tables e below (T0.setTop (mkF m 11 #[.val (.ref a1), .val (.ref a2), .val (.int ok), .val (.int i)] [(.int ok)])) _
  refine XS.ifNo X0.here hx rfl (hb hby d1_11) rfl ((if0 _ _).trans (feq hc2).1) ?_
  show Steps p.tables e below (T0.setTop (mkF m 14 #[.val (.ref a1), .val (.ref a2), .val (.int ok), .val (.int i)] [])) _
  refine XS.aloadN X0.here hx rfl (hb hby d1_14) rfl rfl ?_
  show Steps p.tables e below (T0.setTop (mkF m 15 #[.val (.ref a1), .val (.ref a2), .val (.int ok), .val (.int i)] [(.ref a1)])) _
  refine XS.iloadN X0.here hx rfl (hb hby d1_15) rfl ?_
  show Steps p.tables e below (T0.setTop (mkF m 16 #[.val (.ref a1), .val (.ref a2), .val (.int ok), .val (.int i)] [(.int i), (.ref a1)])) _
  refine X0.laload hx (j := i) (v := (.long w1)) (by first | exact Ar1.1 | (rw [e0]; exact Ar1.1)) (State.isArrayOf_alike hZ.alike Ar1.2.1) Ar1.2.2 hin1 hat1 (g := (mkF m 16 #[.val (.ref a1), .val (.ref a2), .val (.int ok), .val (.int i)] [(.int i), (.ref a1)])) rfl rfl (hb hby d1_16) _ ?_
  show Steps p.tables e below (T0.setTop (mkF m 17 #[.val (.ref a1), .val (.ref a2), .val (.int ok), .val (.int i)] [(.long w1)])) _
  refine XS.iloadN X0.here hx rfl (hb hby d1_17) rfl ?_
  show Steps p.tables e below (T0.setTop (mkF m 18 #[.val (.ref a1), .val (.ref a2), .val (.int ok), .val (.int i)] [(.int i), (.long w1)])) _
  refine XS.aloadN X0.here hx rfl (hb hby d1_18) rfl rfl ?_
  show Steps p.tables e below (T0.setTop (mkF m 19 #[.val (.ref a1), .val (.ref a2), .val (.int ok), .val (.int i)] [(.ref a2), (.int i), (.long w1)])) _
  refine X0.arraylength hx (by first | exact Ar2.1 | (rw [e0]; exact Ar2.1)) (State.isArrayOf_alike hZ.alike Ar2.2.1) (g := (mkF m 19 #[.val (.ref a1), .val (.ref a2), .val (.int ok), .val (.int i)] [(.ref a2), (.int i), (.long w1)])) rfl rfl (hb hby d1_19) _ ?_
  rw [len_of S2 M2]
  have sg1 : ∀ t, Steps p.tables e below (T0.setTop (mkF m 30 #[.val (.ref a1), .val (.ref a2), .val (.int ok), .val (.int i)] [(.long v2), (.long w1)])) t → Steps p.tables e below (T0.setTop (mkF m 20 #[.val (.ref a1), .val (.ref a2), .val (.int ok), .val (.int i)] [(.int z2), (.int i), (.long w1)])) t := by
    intro t k
    by_cases hc1 : (i < z2)
    · rw [show v2 = w2 from by rw [hv2, if_pos hc1]] at k
      show Steps p.tables e below (T0.setTop (mkF m 20 #[.val (.ref a1), .val (.ref a2), .val (.int ok), .val (.int i)] [(.int z2), (.int i), (.long w1)])) _
      refine XS.icmpNo X0.here hx rfl (hb hby d1_20) rfl (tlt hc1).2.1 ?_
      show Steps p.tables e below (T0.setTop (mkF m 23 #[.val (.ref a1), .val (.ref a2), .val (.int ok), .val (.int i)] [(.long w1)])) _
      refine XS.aloadN X0.here hx rfl (hb hby d1_23) rfl rfl ?_
      show Steps p.tables e below (T0.setTop (mkF m 24 #[.val (.ref a1), .val (.ref a2), .val (.int ok), .val (.int i)] [(.ref a2), (.long w1)])) _
      refine XS.iloadN X0.here hx rfl (hb hby d1_24) rfl ?_
      show Steps p.tables e below (T0.setTop (mkF m 25 #[.val (.ref a1), .val (.ref a2), .val (.int ok), .val (.int i)] [(.int i), (.ref a2), (.long w1)])) _
      refine X0.laload hx (j := i) (v := (.long w2)) (by first | exact Ar2.1 | (rw [e0]; exact Ar2.1)) (State.isArrayOf_alike hZ.alike Ar2.2.1) Ar2.2.2 (hin2 hc1) (hat2 hc1) (g := (mkF m 25 #[.val (.ref a1), .val (.ref a2), .val (.int ok), .val (.int i)] [(.int i), (.ref a2), (.long w1)])) rfl rfl (hb hby d1_25) _ ?_
      show Steps p.tables e below (T0.setTop (mkF m 26 #[.val (.ref a1), .val (.ref a2), .val (.int ok), .val (.int i)] [(.long w2), (.long w1)])) _
      refine XS.goto X0.here hx rfl (pc0 := 26) (pc' := 30) rfl (hb hby d1_26) (by decide) (by decide) ?_
      exact k
    · rw [show v2 = (0 : Int64) from by rw [hv2, if_neg hc1]] at k
      show Steps p.tables e below (T0.setTop (mkF m 20 #[.val (.ref a1), .val (.ref a2), .val (.int ok), .val (.int i)] [(.int z2), (.int i), (.long w1)])) _
      refine XS.icmpYes X0.here hx rfl (pc0 := 20) (pc' := 29) rfl (hb hby d1_20) rfl (flt hc1).2.1 (by decide) (by decide) ?_
      show Steps p.tables e below (T0.setTop (mkF m 29 #[.val (.ref a1), .val (.ref a2), .val (.int ok), .val (.int i)] [(.long w1)])) _
      refine XS.lconst X0.here hx rfl (hb hby d1_29) ?_
      exact k
  refine sg1 _ ?_
  show Steps p.tables e below (T0.setTop (mkF m 30 #[.val (.ref a1), .val (.ref a2), .val (.int ok), .val (.int i)] [(.long v2), (.long w1)])) _
  refine X0.ldc2Long hx hown (mvT hZ (hw _ (List.mem_of_getElem? (i := 5) rfl))) (g := (mkF m 30 #[.val (.ref a1), .val (.ref a2), .val (.int ok), .val (.int i)] [(.long v2), (.long w1)])) rfl (hb hby d1_30) _ ?_
  show Steps p.tables e below (T0.setTop (mkF m 33 #[.val (.ref a1), .val (.ref a2), .val (.int ok), .val (.int i)] [(.long (-1 : Int64)), (.long v2), (.long w1)])) _
  refine XS.lxor X0.here hx rfl (hb hby d1_33) rfl ?_
  show Steps p.tables e below (T0.setTop (mkF m 34 #[.val (.ref a1), .val (.ref a2), .val (.int ok), .val (.int i)] [(.long (v2 ^^^ (-1 : Int64))), (.long w1)])) _
  refine XS.land X0.here hx rfl (hb hby d1_34) rfl ?_
  show Steps p.tables e below (T0.setTop (mkF m 35 #[.val (.ref a1), .val (.ref a2), .val (.int ok), .val (.int i)] [(.long (w1 &&& (v2 ^^^ (-1 : Int64))))])) _
  refine XS.lconst X0.here hx rfl (hb hby d1_35) ?_
  show Steps p.tables e below (T0.setTop (mkF m 36 #[.val (.ref a1), .val (.ref a2), .val (.int ok), .val (.int i)] [(.long (0 : Int64)), (.long (w1 &&& (v2 ^^^ (-1 : Int64))))])) _
  refine XS.lcmp X0.here hx rfl (hb hby d1_36) rfl ?_
  have sg3 : ∀ t, Steps p.tables e below (T0.setTop (mkF m 45 #[.val (.ref a1), .val (.ref a2), .val (.int ok), .val (.int i)] [(.int v4)])) t → Steps p.tables e below (T0.setTop (mkF m 37 #[.val (.ref a1), .val (.ref a2), .val (.int ok), .val (.int i)] [(.int (lcmpW (w1 &&& (v2 ^^^ (-1 : Int64))) (0 : Int64)))])) t := by
    intro t k
    by_cases hc3 : ((w1 &&& (v2 ^^^ (-1 : Int64))) = (0 : Int64))
    · rw [show v4 = (1 : Int32) from by rw [hv4, if_pos hc3]] at k
      show Steps p.tables e below (T0.setTop (mkF m 37 #[.val (.ref a1), .val (.ref a2), .val (.int ok), .val (.int i)] [(.int (lcmpW (w1 &&& (v2 ^^^ (-1 : Int64))) (0 : Int64)))])) _
      refine XS.ifNo X0.here hx rfl (hb hby d1_37) rfl ((if0 _ _).trans (teq ((lw_eq (w1 &&& (v2 ^^^ (-1 : Int64))) (0 : Int64)).mpr hc3)).2) ?_
      show Steps p.tables e below (T0.setTop (mkF m 40 #[.val (.ref a1), .val (.ref a2), .val (.int ok), .val (.int i)] [])) _
      refine XS.iconst X0.here hx rfl (hb hby d1_40) ?_
      show Steps p.tables e below (T0.setTop (mkF m 41 #[.val (.ref a1), .val (.ref a2), .val (.int ok), .val (.int i)] [(.int (1 : Int32))])) _
      refine XS.goto X0.here hx rfl (pc0 := 41) (pc' := 45) rfl (hb hby d1_41) (by decide) (by decide) ?_
      exact k
    · rw [show v4 = (0 : Int32) from by rw [hv4, if_neg hc3]] at k
      show Steps p.tables e below (T0.setTop (mkF m 37 #[.val (.ref a1), .val (.ref a2), .val (.int ok), .val (.int i)] [(.int (lcmpW (w1 &&& (v2 ^^^ (-1 : Int64))) (0 : Int64)))])) _
      refine XS.ifYes X0.here hx rfl (pc0 := 37) (pc' := 44) rfl (hb hby d1_37) rfl ((if0 _ _).trans (feq (fun q => hc3 ((lw_eq (w1 &&& (v2 ^^^ (-1 : Int64))) (0 : Int64)).mp q))).2) (by decide) (by decide) ?_
      show Steps p.tables e below (T0.setTop (mkF m 44 #[.val (.ref a1), .val (.ref a2), .val (.int ok), .val (.int i)] [])) _
      refine XS.iconst X0.here hx rfl (hb hby d1_44) ?_
      exact k
  refine sg3 _ ?_
  show Steps p.tables e below (T0.setTop (mkF m 45 #[.val (.ref a1), .val (.ref a2), .val (.int ok), .val (.int i)] [(.int v4)])) _
  refine XS.istoreN X0.here hx rfl (hb hby d1_45) rfl (l' := #[.val (.ref a1), .val (.ref a2), .val (.int v4), .val (.int i)]) rfl ?_
  show Steps p.tables e below (T0.setTop (mkF m 46 #[.val (.ref a1), .val (.ref a2), .val (.int v4), .val (.int i)] [])) _
  refine XS.iinc X0.here hx rfl (hb hby d1_46) rfl (l' := #[.val (.ref a1), .val (.ref a2), .val (.int v4), .val (.int (i + (1 : Int32)))]) rfl ?_
  show Steps p.tables e below (T0.setTop (mkF m 49 #[.val (.ref a1), .val (.ref a2), .val (.int v4), .val (.int (i + (1 : Int32)))] [])) _
  refine XS.goto X0.here hx rfl (pc0 := 49) (pc' := 4) rfl (hb hby d1_49) (by decide) (by decide) ?_
  exact k
set_option maxRecDepth 65536 in
set_option maxHeartbeats 40000000 in
theorem lv1 {p : Program} {l : Launch} {e : Env} {R : Room} {s : State} {m : MethodId} {args : Array Value} {below : List Frame} {meth : Method} {c : Code} {T0 : State} {locs : List Loc} {cells slots : Nat} {Z : State} {a0 : Array Value} {h0 : Heap} (a1 : Addr) (a2 : Addr) (ok : Int32) (i : Int32) (cl1 : Cell) (cl2 : Cell) (z1 : Int32) (z2 : Int32) (X0 : Stand p l e R s m args below meth c T0 locs cells slots) (hx : p.tables.exec = Jvm.exec) (hZ : Z.Warmed39 s.vm) (hw : ∀ d ∈ tables_1, d.before a0 Z = true) (hby : c.code = prog_84_method_8_code) (hml : c.maxLocals = 4) (hown : s.vm.findClass "com/example/prune/prune/mdp/Words" = some m.cls) (e0 : T0.heap = h0) (Ar1 : Arr Z h0 a1 cl1 .long) (S1 : cl1.slots.size = z1.toNatClampNeg) (M1 : ¬ z1 < 0) (Ar2 : Arr Z h0 a2 cl2 .long) (S2 : cl2.slots.size = z2.toNatClampNeg) (M2 : ¬ z2 < 0) (hc1 : ¬ (i < z1)) :
    ∀ t, Steps p.tables e below (T0.setTop (mkF m 52 #[.val (.ref a1), .val (.ref a2), .val (.int ok), .val (.int i)] [])) t → Steps p.tables e below (T0.setTop (mkF m 4 #[.val (.ref a1), .val (.ref a2), .val (.int ok), .val (.int i)] [])) t := by
  intro t k
  show Steps p.tables e below (T0.setTop (mkF m 4 #[.val (.ref a1), .val (.ref a2), .val (.int ok), .val (.int i)] [])) _
  refine XS.iloadN X0.here hx rfl (hb hby d1_4) rfl ?_
  show Steps p.tables e below (T0.setTop (mkF m 5 #[.val (.ref a1), .val (.ref a2), .val (.int ok), .val (.int i)] [(.int i)])) _
  refine XS.aloadN X0.here hx rfl (hb hby d1_5) rfl rfl ?_
  show Steps p.tables e below (T0.setTop (mkF m 6 #[.val (.ref a1), .val (.ref a2), .val (.int ok), .val (.int i)] [(.ref a1), (.int i)])) _
  refine X0.arraylength hx (by first | exact Ar1.1 | (rw [e0]; exact Ar1.1)) (State.isArrayOf_alike hZ.alike Ar1.2.1) (g := (mkF m 6 #[.val (.ref a1), .val (.ref a2), .val (.int ok), .val (.int i)] [(.ref a1), (.int i)])) rfl rfl (hb hby d1_6) _ ?_
  rw [len_of S1 M1]
  show Steps p.tables e below (T0.setTop (mkF m 7 #[.val (.ref a1), .val (.ref a2), .val (.int ok), .val (.int i)] [(.int z1), (.int i)])) _
  refine XS.icmpYes X0.here hx rfl (pc0 := 7) (pc' := 52) rfl (hb hby d1_7) rfl (flt hc1).2.1 (by decide) (by decide) ?_
  exact k
set_option maxRecDepth 65536 in
set_option maxHeartbeats 40000000 in
theorem lv2 {p : Program} {l : Launch} {e : Env} {R : Room} {s : State} {m : MethodId} {args : Array Value} {below : List Frame} {meth : Method} {c : Code} {T0 : State} {locs : List Loc} {cells slots : Nat} {Z : State} {a0 : Array Value} {h0 : Heap} (a1 : Addr) (a2 : Addr) (ok : Int32) (i : Int32) (cl1 : Cell) (cl2 : Cell) (z1 : Int32) (z2 : Int32) (X0 : Stand p l e R s m args below meth c T0 locs cells slots) (hx : p.tables.exec = Jvm.exec) (hZ : Z.Warmed39 s.vm) (hw : ∀ d ∈ tables_1, d.before a0 Z = true) (hby : c.code = prog_84_method_8_code) (hml : c.maxLocals = 4) (hown : s.vm.findClass "com/example/prune/prune/mdp/Words" = some m.cls) (e0 : T0.heap = h0) (Ar1 : Arr Z h0 a1 cl1 .long) (S1 : cl1.slots.size = z1.toNatClampNeg) (M1 : ¬ z1 < 0) (Ar2 : Arr Z h0 a2 cl2 .long) (S2 : cl2.slots.size = z2.toNatClampNeg) (M2 : ¬ z2 < 0) (hc1 : i < z1) (hc2 : ok = (0 : Int32)) :
    ∀ t, Steps p.tables e below (T0.setTop (mkF m 52 #[.val (.ref a1), .val (.ref a2), .val (.int ok), .val (.int i)] [])) t → Steps p.tables e below (T0.setTop (mkF m 4 #[.val (.ref a1), .val (.ref a2), .val (.int ok), .val (.int i)] [])) t := by
  intro t k
  show Steps p.tables e below (T0.setTop (mkF m 4 #[.val (.ref a1), .val (.ref a2), .val (.int ok), .val (.int i)] [])) _
  refine XS.iloadN X0.here hx rfl (hb hby d1_4) rfl ?_
  show Steps p.tables e below (T0.setTop (mkF m 5 #[.val (.ref a1), .val (.ref a2), .val (.int ok), .val (.int i)] [(.int i)])) _
  refine XS.aloadN X0.here hx rfl (hb hby d1_5) rfl rfl ?_
  show Steps p.tables e below (T0.setTop (mkF m 6 #[.val (.ref a1), .val (.ref a2), .val (.int ok), .val (.int i)] [(.ref a1), (.int i)])) _
  refine X0.arraylength hx (by first | exact Ar1.1 | (rw [e0]; exact Ar1.1)) (State.isArrayOf_alike hZ.alike Ar1.2.1) (g := (mkF m 6 #[.val (.ref a1), .val (.ref a2), .val (.int ok), .val (.int i)] [(.ref a1), (.int i)])) rfl rfl (hb hby d1_6) _ ?_
  rw [len_of S1 M1]
  show Steps p.tables e below (T0.setTop (mkF m 7 #[.val (.ref a1), .val (.ref a2), .val (.int ok), .val (.int i)] [(.int z1), (.int i)])) _
  refine XS.icmpNo X0.here hx rfl (hb hby d1_7) rfl (tlt hc1).2.1 ?_
  show Steps p.tables e below (T0.setTop (mkF m 10 #[.val (.ref a1), .val (.ref a2), .val (.int ok), .val (.int i)] [])) _
  refine XS.iloadN X0.here hx rfl (hb hby d1_10) rfl ?_
  show Steps p.tables e below (T0.setTop (mkF m 11 #[.val (.ref a1), .val (.ref a2), .val (.int ok), .val (.int i)] [(.int ok)])) _
  refine XS.ifYes X0.here hx rfl (pc0 := 11) (pc' := 52) rfl (hb hby d1_11) rfl ((if0 _ _).trans (teq hc2).1) (by decide) (by decide) ?_
  exact k
set_option maxRecDepth 65536 in
set_option maxHeartbeats 40000000 in
theorem loop1 {p : Program} {l : Launch} {e : Env} {R : Room} {s : State} {m : MethodId} {args : Array Value} {below : List Frame} {meth : Method} {c : Code} {T0 : State} {locs : List Loc} {cells slots : Nat} {Z : State} {a0 : Array Value} {h0 : Heap} (a1 a2 : Addr) (cl1 cl2 : Cell) (xs ys : List Int64) (hn1 : xs.length ≤ 2) (hn2 : ys.length ≤ 2) (X0 : Stand p l e R s m args below meth c T0 locs cells slots) (hx : p.tables.exec = Jvm.exec) (hZ : Z.Warmed39 s.vm) (hw : ∀ d ∈ tables_1, d.before a0 Z = true) (hby : c.code = prog_84_method_8_code) (hml : c.maxLocals = 4) (hown : s.vm.findClass "com/example/prune/prune/mdp/Words" = some m.cls) (e0 : T0.heap = h0) (Ar1 : Arr Z h0 a1 cl1 .long) (S1 : cl1.slots.size = (Int32.ofNat xs.length).toNatClampNeg) (Ar2 : Arr Z h0 a2 cl2 .long) (S2 : cl2.slots.size = (Int32.ofNat ys.length).toNatClampNeg) (H1 : Has cl1 (xs.map Value.long) (.long 0)) (H2 : Has cl2 (ys.map Value.long) (.long 0)) :
    ∀ (k i : Nat) (ok : Int32), i + k = xs.length → ∃ j : Int32, ∀ t, Steps p.tables e below (T0.setTop (mkF m 52 #[.val (.ref a1), .val (.ref a2), .val (.int (own_go xs ys k i ok)), .val (.int j)] [])) t → Steps p.tables e below (T0.setTop (mkF m 4 #[.val (.ref a1), .val (.ref a2), .val (.int ok), .val (.int (Int32.ofNat i))] [])) t := by
  intro k
  induction k with
  | zero =>
    intro i ok hi
    refine ⟨Int32.ofNat i, fun t h => ?_⟩
    exact lv1 a1 a2 ok (Int32.ofNat i) cl1 cl2 (Int32.ofNat xs.length) (Int32.ofNat ys.length) X0 hx hZ hw hby hml hown e0 Ar1 S1 (own_nn (by omega)) Ar2 S2 (own_nn (by omega)) (by rw [show i = xs.length by omega]; exact Int32.lt_irrefl) t h
  | succ k ih =>
    intro i ok hi
    have hlt : Int32.ofNat i < Int32.ofNat xs.length := own_lt (by omega) (by omega)
    by_cases hok : ok = (0 : Int32)
    · refine ⟨Int32.ofNat i, fun t h => ?_⟩
      have hg : own_go xs ys (k + 1) i ok = ok := by unfold own_go; rw [if_pos hok]
      rw [hg] at h
      exact lv2 a1 a2 ok (Int32.ofNat i) cl1 cl2 (Int32.ofNat xs.length) (Int32.ofNat ys.length) X0 hx hZ hw hby hml hown e0 Ar1 S1 (own_nn (by omega)) Ar2 S2 (own_nn (by omega)) hlt hok t h
    · obtain ⟨j, hj⟩ := ih (i + 1) (own_bit xs ys i) (by omega)
      refine ⟨j, fun t h => ?_⟩
      have hg : own_go xs ys (k + 1) i ok = own_go xs ys k (i + 1) (own_bit xs ys i) := by rw [own_go, if_neg hok]
      rw [hg] at h
      refine tn1 a1 a2 ok (Int32.ofNat i) cl1 cl2 (Int32.ofNat xs.length) (Int32.ofNat ys.length) (xs.getD i 0) (ys.getD i 0) X0 hx hZ hw hby hml hown e0 Ar1 S1 (own_nn (by omega)) Ar2 S2 (own_nn (by omega)) (own_in S1 hn1 (by omega)) (own_hat S1 H1 hn1 (by omega)) (fun q => own_in S2 hn2 (own_ltN (by omega) hn2 q)) (fun q => own_hat S2 H2 hn2 (own_ltN (by omega) hn2 q)) hlt hok t ?_
      rw [own_sel ys i hn2 (by omega), own_one]
      exact hj t h
theorem pn_1 : plainName "com/example/prune/prune/mdp/Words" = true := by first | (simp [plainName, overriddenIn]; done) | decide +kernel
theorem ef_1 (m : MethodId) (x0 : Addr) (x1 : Addr) : entryFrame m #[(.ref x0), (.ref x1)] 4 = mkF m 0 #[.val (.ref x0), .val (.ref x1), .unset, .unset] [] := by first | (simp [entryFrame, mkF, argsToLocals, Value.category]; done) | rfl
def Q1 (Z : State) (a1 : Addr) (a2 : Addr) (xs : List Int64) (ys : List Int64) (h0 : Heap) (n0 : Nat) (v : Option Value) (h : Heap) (L : List Loc) : Prop := v = some (.int (own_sub xs ys)) ∧ Fr n0 L ∧ h = h0
set_option maxRecDepth 65536 in
set_option maxHeartbeats 40000000 in
theorem rm1 (l : Launch) (Z : State) (a0 : Array Value) (hw : ∀ d ∈ tables_1, d.before a0 Z = true) (ws : List Jvm.Cond) (a1 : Addr) (a2 : Addr) (xs : List Int64) (ys : List Int64) (h0 : Heap) (n0 : Nat) (Z0 : n0 ≤ h0.size) (hn1 : xs.length ≤ 2) (hn2 : ys.length ≤ 2) (V1 : own_A Z h0 a1 xs) (V2 : own_A Z h0 a2 ys) :
    MetFree l (⟨"com/example/prune/prune/mdp/Words", "isSubset", "([J[J)Z"⟩ : MethodName) (head1 (Jvm.Cond.code (⟨"com/example/prune/prune/mdp/Words", "isSubset", "([J[J)Z"⟩ : MethodName) prog_84_method_8_code 4 (some .boolean) :: ws) ({ frames := 0, cells := 0, slots := 0, locals := 0 } : Room)) (fun a U => a = #[(.ref a1), (.ref a2)] ∧ Z.Warmed39 U.vm ∧ U.heap = h0) (fun _ _ _ _ _ => True) (fun _ U o U' => ∃ v L, o = .returned v ∧ Q1 Z a1 a2 xs ys h0 n0 v U'.heap L ∧ FrameEnd U o U' L ({ frames := 0, cells := 0, slots := 0, locals := 0 } : Room).cells ({ frames := 0, cells := 0, slots := 0, locals := 0 } : Room).slots) := by
  refine MetFree.of_bodySF (plainFor_of_name pn_1) hisR ?_
  intro p e s m args below meth c s₁ Bd hml0 hP hK
  obtain ⟨rfl, hZ, hh⟩ := hP
  have hx := Bd.exec
  have hby := Bd.bytes
  have hml : c.maxLocals = 4 := hml0
  have hown : s.vm.findClass "com/example/prune/prune/mdp/Words" = some m.cls := findClass_of_methodNamed Bd.named
  have hnm := (name_of_methodNamed Bd.named Bd.method).1
  have X0 : Stand p l e ({ frames := 0, cells := 0, slots := 0, locals := 0 } : Room) s m #[(.ref a1), (.ref a2)] below meth c s₁ [] 0 0 := Stand.of_body Bd
  have e0 : s₁.heap = h0 := by rw [← hh, Bd.state]; rfl
  have N0 := Fr.nil n0
  have pre0 : ∀ t, Steps p.tables e below (s₁.setTop (mkF m 0 #[.val (.ref a1), .val (.ref a2), .unset, .unset] [])) t → Steps p.tables e below (s₁.setTop (entryFrame m #[(.ref a1), (.ref a2)] 4)) t := fun t k => castTop (ef_1 m a1 a2) k
  obtain ⟨k1, cl1, Ar1, -, S1, M1, H1, -⟩ := V1
  obtain ⟨k2, cl2, Ar2, -, S2, M2, H2, -⟩ := V2
  obtain ⟨j, st1⟩ := loop1 a1 a2 cl1 cl2 xs ys hn1 hn2 X0 hx hZ hw hby hml hown e0 Ar1 S1 Ar2 S2 H1 H2 xs.length 0 1 (by omega)
  obtain ⟨fs, hr, hrun, hended, hW, hsame⟩ := X0.leave (v := some (.int (nar .boolean (own_go xs ys xs.length 0 1)))) (fun h => by rw [Bd.returns] at h; cases h)
  refine ⟨_, _, pre0 _ ?_, hrun, hended, _, _, rfl, ?_, ⟨_, rfl⟩, hW, hsame.mono (by decide) (by decide)⟩
  · show Steps p.tables e below (s₁.setTop (mkF m 0 #[.val (.ref a1), .val (.ref a2), .unset, .unset] [])) _
    refine XS.iconst X0.here hx rfl (hb hby d1_0) ?_
    show Steps p.tables e below (s₁.setTop (mkF m 1 #[.val (.ref a1), .val (.ref a2), .unset, .unset] [(.int (1 : Int32))])) _
    refine XS.istoreN X0.here hx rfl (hb hby d1_1) rfl (l' := #[.val (.ref a1), .val (.ref a2), .val (.int (1 : Int32)), .unset]) rfl ?_
    show Steps p.tables e below (s₁.setTop (mkF m 2 #[.val (.ref a1), .val (.ref a2), .val (.int (1 : Int32)), .unset] [])) _
    refine XS.iconst X0.here hx rfl (hb hby d1_2) ?_
    show Steps p.tables e below (s₁.setTop (mkF m 3 #[.val (.ref a1), .val (.ref a2), .val (.int (1 : Int32)), .unset] [(.int (0 : Int32))])) _
    refine XS.istoreN X0.here hx rfl (hb hby d1_3) rfl (l' := #[.val (.ref a1), .val (.ref a2), .val (.int (1 : Int32)), .val (.int (0 : Int32))]) rfl ?_
    show Steps p.tables e below (s₁.setTop (mkF m 4 #[.val (.ref a1), .val (.ref a2), .val (.int (1 : Int32)), .val (.int (0 : Int32))] [])) _
    refine st1 _ ?_
    show Steps p.tables e below (s₁.setTop (mkF m 52 #[.val (.ref a1), .val (.ref a2), .val (.int (own_go xs ys xs.length 0 1)), .val (.int j)] [])) _
    refine XS.iloadN X0.here hx rfl (hb hby d1_52) rfl ?_
    show Steps p.tables e below (s₁.setTop (mkF m 53 #[.val (.ref a1), .val (.ref a2), .val (.int (own_go xs ys xs.length 0 1)), .val (.int j)] [(.int (own_go xs ys xs.length 0 1))])) _
    exact retN X0 hx (t := .boolean) Bd.returns (by simp) (hb hby d1_53) hr
  · show Q1 Z a1 a2 xs ys h0 n0 _ s₁.heap _
    rw [e0]
    exact ⟨by rw [← own_nb xs ys]; rfl, N0, rfl⟩
theorem own_rng3 (y v : Int32) (h : v = (y &&& (3 : Int32)) % (3 : Int32)) : v = 0 ∨ v = 1 ∨ v = 2 := by
  have h1 := c_and y (3 : Int32) (by decide)
  have h2 := (c_iremV (y &&& (3 : Int32)) (3 : Int32)).1 h1.1 (by decide)
  rw [← h] at h2
  have e3 : (3 : Int32).toInt = 3 := by decide
  rw [e3] at h2
  exact own_k3 v h2.1 h2.2.1
theorem own_fin (z9 z10 : Int32) (s0 s1 q3 q4 w0 w1 : Int64) (hz9 : z9 = 0 ∨ z9 = 1 ∨ z9 = 2) (hz10 : z10 = 0 ∨ z10 = 1 ∨ z10 = 2) (hw0 : w0 = if (0 : Int32) < z10 then q3 else (0 : Int64)) (hw1 : w1 = if (1 : Int32) < z10 then q4 else (0 : Int64)) :
    own_sub (own_lst z9 s0 s1) (own_lst z10 q3 q4) = (if (if z9 < (1 : Int32) then (1 : Int32) else if (s0 &&& w0) = s0 then (1 : Int32) else (0 : Int32)) = (0 : Int32) then (0 : Int32) else if (if z9 < (2 : Int32) then (1 : Int32) else if (s1 &&& w1) = s1 then (1 : Int32) else (0 : Int32)) = (0 : Int32) then (0 : Int32) else (1 : Int32)) := by
  have g0 : (own_lst z10 q3 q4).getD 0 0 = w0 := by rw [hw0]; exact own_get0 z10 q3 q4 hz10
  have g1 : (own_lst z10 q3 q4).getD 1 0 = w1 := by rw [hw1]; exact own_get1 z10 q3 q4 hz10
  obtain ⟨ys, hys⟩ : ∃ ys, ys = own_lst z10 q3 q4 := ⟨_, rfl⟩
  rw [← hys] at g0 g1 ⊢
  clear hys hw0 hw1 hz10
  rcases hz9 with rfl | rfl | rfl
  · rfl
  · have e : own_sub (own_lst 1 s0 s1) ys = (if (s0 &&& (ys.getD 0 0 ^^^ (-1 : Int64))) = (0 : Int64) then (1 : Int32) else (0 : Int32)) := rfl
    rw [e, g0]
    by_cases h0 : (s0 &&& w0) = s0
    · rw [if_pos ((own_and s0 w0).mpr h0), if_pos h0]; rfl
    · rw [if_neg (fun q => h0 ((own_and s0 w0).mp q)), if_neg h0]; rfl
  · have e : own_sub (own_lst 2 s0 s1) ys = (if (if (s0 &&& (ys.getD 0 0 ^^^ (-1 : Int64))) = (0 : Int64) then (1 : Int32) else (0 : Int32)) = (0 : Int32) then (if (s0 &&& (ys.getD 0 0 ^^^ (-1 : Int64))) = (0 : Int64) then (1 : Int32) else (0 : Int32)) else (if (s1 &&& (ys.getD 1 0 ^^^ (-1 : Int64))) = (0 : Int64) then (1 : Int32) else (0 : Int32))) := rfl
    rw [e, g0, g1]
    by_cases h0 : (s0 &&& w0) = s0
    · rw [if_pos ((own_and s0 w0).mpr h0), if_pos h0]
      by_cases h1 : (s1 &&& w1) = s1
      · rw [if_pos ((own_and s1 w1).mpr h1), if_pos h1]; rfl
      · rw [if_neg (fun q => h1 ((own_and s1 w1).mp q)), if_neg h1]; rfl
    · rw [if_neg (fun q => h0 ((own_and s0 w0).mp q)), if_neg h0]; rfl
set_option maxRecDepth 65536 in
set_option maxHeartbeats 40000000 in
theorem mkA0 {p : Program} {l : Launch} {e : Env} {s : State} {m : MethodId} {args : Array Value} {below : List Frame} {meth : Method} {c : Code} {T0 : State} {locs : List Loc} {Z : State} {a0 : Array Value} {h0 : Heap} (x0 : Int32) (x1 : Int64) (x3 : Int64) (x5 : Int64) (x7 : Int64) (x9 : Int32) (x10 : Int32) (x11 : Int64) (x13 : Int64) (x15 : Int64) (x17 : Int64) (n0 : Nat) (X0 : Stand p l e room_1 s m args below meth c T0 locs 0 0) (hx : p.tables.exec = Jvm.exec) (hZ : Z.Warmed39 s.vm) (hw : ∀ d ∈ tables_1, d.before a0 Z = true) (hby : c.code = code) (hml : c.maxLocals = 24) (hown : s.vm.findClass "com/example/prune/prune/mdp/WordsIsSubsetPinLaw" = some m.cls) (e0 : T0.heap = h0) (Z0 : n0 ≤ h0.size) (N0 : Fr n0 locs) (hz : x10 = 0 ∨ x10 = 1 ∨ x10 = 2) :
    ∃ (T' : State) (h' : Heap) (locs' : List Loc) (b : Addr), Stand p l e room_1 s m args below meth c T' locs' 1 2 ∧ T'.heap = h' ∧ Fr n0 locs' ∧ Keep h0 h' [] ∧ b = h0.size ∧ own_A Z h' b (own_lst x10 x5 x7) ∧
      ∀ t, Steps p.tables e below (T'.setTop (mkF m 143 #[.val (.int x0), .val (.long x1), .second, .val (.long x3), .second, .val (.long x5), .second, .val (.long x7), .second, .val (.int x9), .val (.int x10), .val (.long x11), .second, .val (.long x13), .second, .val (.long x15), .second, .val (.long x17), .second, .val (.ref b), .unset, .unset, .unset, .unset] [])) t → Steps p.tables e below (T0.setTop (mkF m 114 #[.val (.int x0), .val (.long x1), .second, .val (.long x3), .second, .val (.long x5), .second, .val (.long x7), .second, .val (.int x9), .val (.int x10), .val (.long x11), .second, .val (.long x13), .second, .val (.long x15), .second, .val (.long x17), .second, .unset, .unset, .unset, .unset, .unset] [])) t := by
  rcases hz with rfl | rfl | rfl
  · obtain ⟨T1, h1, k1, X1, e1, E1, A1, st1⟩ := newP X0 hx hZ (hw _ (List.mem_of_getElem? (i := 0) rfl)) e0 (g := (mkF m 116 #[.val (.int x0), .val (.long x1), .second, .val (.long x3), .second, .val (.long x5), .second, .val (.long x7), .second, .val (.int x9), .val (.int (0 : Int32)), .val (.long x11), .second, .val (.long x13), .second, .val (.long x15), .second, .val (.long x17), .second, .unset, .unset, .unset, .unset, .unset] [(.int (0 : Int32))])) rfl (hb hby at_116) rfl (by decide) (cap := 2) (by decide) (by decide) (by decide) (by decide)
    obtain ⟨b, g1⟩ : ∃ z, z = h0.size := ⟨_, rfl⟩
    rw [← g1] at A1 st1
    have K0 : Keep h0 h1 [] := (Keep.refl h0 []).ext E1
    have gb : n0 ≤ b := Nat.le_trans Z0 (Nat.le_of_eq g1.symm)
    have V0 : Arv Z h1 b k1 .long (0 : Int32) [] (.long (0 : Int64)) := Arv.new A1 (by decide)
    refine ⟨T1, h1, _, b, X1, e1, N0, K0, g1, ⟨_, V0⟩, fun t k => ?_⟩
    show Steps p.tables e below (T0.setTop (mkF m 114 #[.val (.int x0), .val (.long x1), .second, .val (.long x3), .second, .val (.long x5), .second, .val (.long x7), .second, .val (.int x9), .val (.int (0 : Int32)), .val (.long x11), .second, .val (.long x13), .second, .val (.long x15), .second, .val (.long x17), .second, .unset, .unset, .unset, .unset, .unset] [])) _
    refine XS.iload X0.here hx rfl (hb hby at_114) rfl ?_
    show Steps p.tables e below (T0.setTop (mkF m 116 #[.val (.int x0), .val (.long x1), .second, .val (.long x3), .second, .val (.long x5), .second, .val (.long x7), .second, .val (.int x9), .val (.int (0 : Int32)), .val (.long x11), .second, .val (.long x13), .second, .val (.long x15), .second, .val (.long x17), .second, .unset, .unset, .unset, .unset, .unset] [(.int (0 : Int32))])) _
    refine st1 _ ?_
    show Steps p.tables e below (T1.setTop (mkF m 118 #[.val (.int x0), .val (.long x1), .second, .val (.long x3), .second, .val (.long x5), .second, .val (.long x7), .second, .val (.int x9), .val (.int (0 : Int32)), .val (.long x11), .second, .val (.long x13), .second, .val (.long x15), .second, .val (.long x17), .second, .unset, .unset, .unset, .unset, .unset] [(.ref b)])) _
    refine XS.astore X1.here hx rfl (hb hby at_118) rfl rfl (l' := #[.val (.int x0), .val (.long x1), .second, .val (.long x3), .second, .val (.long x5), .second, .val (.long x7), .second, .val (.int x9), .val (.int (0 : Int32)), .val (.long x11), .second, .val (.long x13), .second, .val (.long x15), .second, .val (.long x17), .second, .val (.ref b), .unset, .unset, .unset, .unset]) rfl ?_
    show Steps p.tables e below (T1.setTop (mkF m 120 #[.val (.int x0), .val (.long x1), .second, .val (.long x3), .second, .val (.long x5), .second, .val (.long x7), .second, .val (.int x9), .val (.int (0 : Int32)), .val (.long x11), .second, .val (.long x13), .second, .val (.long x15), .second, .val (.long x17), .second, .val (.ref b), .unset, .unset, .unset, .unset] [])) _
    refine XS.iload X1.here hx rfl (hb hby at_120) rfl ?_
    show Steps p.tables e below (T1.setTop (mkF m 122 #[.val (.int x0), .val (.long x1), .second, .val (.long x3), .second, .val (.long x5), .second, .val (.long x7), .second, .val (.int x9), .val (.int (0 : Int32)), .val (.long x11), .second, .val (.long x13), .second, .val (.long x15), .second, .val (.long x17), .second, .val (.ref b), .unset, .unset, .unset, .unset] [(.int (0 : Int32))])) _
    refine XS.ifYes X1.here hx rfl (pc0 := 122) (pc' := 131) rfl (hb hby at_122) rfl ((if0 _ _).trans (flt (by decide)).2.2.2) (by decide) (by decide) ?_
    show Steps p.tables e below (T1.setTop (mkF m 131 #[.val (.int x0), .val (.long x1), .second, .val (.long x3), .second, .val (.long x5), .second, .val (.long x7), .second, .val (.int x9), .val (.int (0 : Int32)), .val (.long x11), .second, .val (.long x13), .second, .val (.long x15), .second, .val (.long x17), .second, .val (.ref b), .unset, .unset, .unset, .unset] [])) _
    refine XS.iload X1.here hx rfl (hb hby at_131) rfl ?_
    show Steps p.tables e below (T1.setTop (mkF m 133 #[.val (.int x0), .val (.long x1), .second, .val (.long x3), .second, .val (.long x5), .second, .val (.long x7), .second, .val (.int x9), .val (.int (0 : Int32)), .val (.long x11), .second, .val (.long x13), .second, .val (.long x15), .second, .val (.long x17), .second, .val (.ref b), .unset, .unset, .unset, .unset] [(.int (0 : Int32))])) _
    refine XS.iconst X1.here hx rfl (hb hby at_133) ?_
    show Steps p.tables e below (T1.setTop (mkF m 134 #[.val (.int x0), .val (.long x1), .second, .val (.long x3), .second, .val (.long x5), .second, .val (.long x7), .second, .val (.int x9), .val (.int (0 : Int32)), .val (.long x11), .second, .val (.long x13), .second, .val (.long x15), .second, .val (.long x17), .second, .val (.ref b), .unset, .unset, .unset, .unset] [(.int (1 : Int32)), (.int (0 : Int32))])) _
    refine XS.icmpYes X1.here hx rfl (pc0 := 134) (pc' := 143) rfl (hb hby at_134) rfl (flt (by decide)).2.2.2 (by decide) (by decide) ?_
    exact k
  · obtain ⟨T1, h1, k1, X1, e1, E1, A1, st1⟩ := newP X0 hx hZ (hw _ (List.mem_of_getElem? (i := 0) rfl)) e0 (g := (mkF m 116 #[.val (.int x0), .val (.long x1), .second, .val (.long x3), .second, .val (.long x5), .second, .val (.long x7), .second, .val (.int x9), .val (.int (1 : Int32)), .val (.long x11), .second, .val (.long x13), .second, .val (.long x15), .second, .val (.long x17), .second, .unset, .unset, .unset, .unset, .unset] [(.int (1 : Int32))])) rfl (hb hby at_116) rfl (by decide) (cap := 2) (by decide) (by decide) (by decide) (by decide)
    obtain ⟨b, g1⟩ : ∃ z, z = h0.size := ⟨_, rfl⟩
    rw [← g1] at A1 st1
    have K0 : Keep h0 h1 [] := (Keep.refl h0 []).ext E1
    have gb : n0 ≤ b := Nat.le_trans Z0 (Nat.le_of_eq g1.symm)
    have V_b : Arv Z h1 b k1 .long (1 : Int32) [(.long (0 : Int64))] (.long (0 : Int64)) := (Arv.new A1 (by decide)).pad (pad_rep [] (.long (0 : Int64)) 1)
    obtain ⟨cl2, Ar2, qq2, S2, M2, H2, G2⟩ := id V_b
    obtain ⟨T3, h3, X3, e3, W3, st3⟩ := stJ X1 hx hZ e1 Ar2 (j := (0 : Int32)) (inb_of S2 ⟨(by decide : ¬ ((0 : Int32) < (0 : Int32))), (by decide : (0 : Int32) < (1 : Int32))⟩) (g := (mkF m 130 #[.val (.int x0), .val (.long x1), .second, .val (.long x3), .second, .val (.long x5), .second, .val (.long x7), .second, .val (.int x9), .val (.int (1 : Int32)), .val (.long x11), .second, .val (.long x13), .second, .val (.long x15), .second, .val (.long x17), .second, .val (.ref b), .unset, .unset, .unset, .unset] [(.long x5), (.int (0 : Int32)), (.ref b)])) rfl rfl (hb hby at_130)
    have V_b_3 : Arv Z h3 b k1 .long (1 : Int32) [(.long x5)] (.long (0 : Int64)) := Arv.set Ar2 qq2 S2 M2 H2 G2 rfl W3 0 rfl (Nat.le_of_ble_eq_true rfl)
    have N3 := Fr.snoc X3 N0 gb
    have K3 : Keep h0 h3 [] := K0.wr W3 (Or.inr (Nat.le_of_eq g1.symm))
    refine ⟨T3, h3, _, b, X3, e3, N3, K3, g1, ⟨_, V_b_3⟩, fun t k => ?_⟩
    show Steps p.tables e below (T0.setTop (mkF m 114 #[.val (.int x0), .val (.long x1), .second, .val (.long x3), .second, .val (.long x5), .second, .val (.long x7), .second, .val (.int x9), .val (.int (1 : Int32)), .val (.long x11), .second, .val (.long x13), .second, .val (.long x15), .second, .val (.long x17), .second, .unset, .unset, .unset, .unset, .unset] [])) _
    refine XS.iload X0.here hx rfl (hb hby at_114) rfl ?_
    show Steps p.tables e below (T0.setTop (mkF m 116 #[.val (.int x0), .val (.long x1), .second, .val (.long x3), .second, .val (.long x5), .second, .val (.long x7), .second, .val (.int x9), .val (.int (1 : Int32)), .val (.long x11), .second, .val (.long x13), .second, .val (.long x15), .second, .val (.long x17), .second, .unset, .unset, .unset, .unset, .unset] [(.int (1 : Int32))])) _
    refine st1 _ ?_
    show Steps p.tables e below (T1.setTop (mkF m 118 #[.val (.int x0), .val (.long x1), .second, .val (.long x3), .second, .val (.long x5), .second, .val (.long x7), .second, .val (.int x9), .val (.int (1 : Int32)), .val (.long x11), .second, .val (.long x13), .second, .val (.long x15), .second, .val (.long x17), .second, .unset, .unset, .unset, .unset, .unset] [(.ref b)])) _
    refine XS.astore X1.here hx rfl (hb hby at_118) rfl rfl (l' := #[.val (.int x0), .val (.long x1), .second, .val (.long x3), .second, .val (.long x5), .second, .val (.long x7), .second, .val (.int x9), .val (.int (1 : Int32)), .val (.long x11), .second, .val (.long x13), .second, .val (.long x15), .second, .val (.long x17), .second, .val (.ref b), .unset, .unset, .unset, .unset]) rfl ?_
    show Steps p.tables e below (T1.setTop (mkF m 120 #[.val (.int x0), .val (.long x1), .second, .val (.long x3), .second, .val (.long x5), .second, .val (.long x7), .second, .val (.int x9), .val (.int (1 : Int32)), .val (.long x11), .second, .val (.long x13), .second, .val (.long x15), .second, .val (.long x17), .second, .val (.ref b), .unset, .unset, .unset, .unset] [])) _
    refine XS.iload X1.here hx rfl (hb hby at_120) rfl ?_
    show Steps p.tables e below (T1.setTop (mkF m 122 #[.val (.int x0), .val (.long x1), .second, .val (.long x3), .second, .val (.long x5), .second, .val (.long x7), .second, .val (.int x9), .val (.int (1 : Int32)), .val (.long x11), .second, .val (.long x13), .second, .val (.long x15), .second, .val (.long x17), .second, .val (.ref b), .unset, .unset, .unset, .unset] [(.int (1 : Int32))])) _
    refine XS.ifNo X1.here hx rfl (hb hby at_122) rfl ((if0 _ _).trans (tlt (by decide)).2.2.2) ?_
    show Steps p.tables e below (T1.setTop (mkF m 125 #[.val (.int x0), .val (.long x1), .second, .val (.long x3), .second, .val (.long x5), .second, .val (.long x7), .second, .val (.int x9), .val (.int (1 : Int32)), .val (.long x11), .second, .val (.long x13), .second, .val (.long x15), .second, .val (.long x17), .second, .val (.ref b), .unset, .unset, .unset, .unset] [])) _
    refine XS.aload X1.here hx rfl (hb hby at_125) rfl rfl ?_
    show Steps p.tables e below (T1.setTop (mkF m 127 #[.val (.int x0), .val (.long x1), .second, .val (.long x3), .second, .val (.long x5), .second, .val (.long x7), .second, .val (.int x9), .val (.int (1 : Int32)), .val (.long x11), .second, .val (.long x13), .second, .val (.long x15), .second, .val (.long x17), .second, .val (.ref b), .unset, .unset, .unset, .unset] [(.ref b)])) _
    refine XS.iconst X1.here hx rfl (hb hby at_127) ?_
    show Steps p.tables e below (T1.setTop (mkF m 128 #[.val (.int x0), .val (.long x1), .second, .val (.long x3), .second, .val (.long x5), .second, .val (.long x7), .second, .val (.int x9), .val (.int (1 : Int32)), .val (.long x11), .second, .val (.long x13), .second, .val (.long x15), .second, .val (.long x17), .second, .val (.ref b), .unset, .unset, .unset, .unset] [(.int (0 : Int32)), (.ref b)])) _
    refine XS.lload X1.here hx rfl (hb hby at_128) rfl ?_
    show Steps p.tables e below (T1.setTop (mkF m 130 #[.val (.int x0), .val (.long x1), .second, .val (.long x3), .second, .val (.long x5), .second, .val (.long x7), .second, .val (.int x9), .val (.int (1 : Int32)), .val (.long x11), .second, .val (.long x13), .second, .val (.long x15), .second, .val (.long x17), .second, .val (.ref b), .unset, .unset, .unset, .unset] [(.long x5), (.int (0 : Int32)), (.ref b)])) _
    refine st3 _ ?_
    show Steps p.tables e below (T3.setTop (mkF m 131 #[.val (.int x0), .val (.long x1), .second, .val (.long x3), .second, .val (.long x5), .second, .val (.long x7), .second, .val (.int x9), .val (.int (1 : Int32)), .val (.long x11), .second, .val (.long x13), .second, .val (.long x15), .second, .val (.long x17), .second, .val (.ref b), .unset, .unset, .unset, .unset] [])) _
    refine XS.iload X3.here hx rfl (hb hby at_131) rfl ?_
    show Steps p.tables e below (T3.setTop (mkF m 133 #[.val (.int x0), .val (.long x1), .second, .val (.long x3), .second, .val (.long x5), .second, .val (.long x7), .second, .val (.int x9), .val (.int (1 : Int32)), .val (.long x11), .second, .val (.long x13), .second, .val (.long x15), .second, .val (.long x17), .second, .val (.ref b), .unset, .unset, .unset, .unset] [(.int (1 : Int32))])) _
    refine XS.iconst X3.here hx rfl (hb hby at_133) ?_
    show Steps p.tables e below (T3.setTop (mkF m 134 #[.val (.int x0), .val (.long x1), .second, .val (.long x3), .second, .val (.long x5), .second, .val (.long x7), .second, .val (.int x9), .val (.int (1 : Int32)), .val (.long x11), .second, .val (.long x13), .second, .val (.long x15), .second, .val (.long x17), .second, .val (.ref b), .unset, .unset, .unset, .unset] [(.int (1 : Int32)), (.int (1 : Int32))])) _
    refine XS.icmpYes X3.here hx rfl (pc0 := 134) (pc' := 143) rfl (hb hby at_134) rfl (flt (by decide)).2.2.2 (by decide) (by decide) ?_
    exact k
  · obtain ⟨T1, h1, k1, X1, e1, E1, A1, st1⟩ := newP X0 hx hZ (hw _ (List.mem_of_getElem? (i := 0) rfl)) e0 (g := (mkF m 116 #[.val (.int x0), .val (.long x1), .second, .val (.long x3), .second, .val (.long x5), .second, .val (.long x7), .second, .val (.int x9), .val (.int (2 : Int32)), .val (.long x11), .second, .val (.long x13), .second, .val (.long x15), .second, .val (.long x17), .second, .unset, .unset, .unset, .unset, .unset] [(.int (2 : Int32))])) rfl (hb hby at_116) rfl (by decide) (cap := 2) (by decide) (by decide) (by decide) (by decide)
    obtain ⟨b, g1⟩ : ∃ z, z = h0.size := ⟨_, rfl⟩
    rw [← g1] at A1 st1
    have K0 : Keep h0 h1 [] := (Keep.refl h0 []).ext E1
    have gb : n0 ≤ b := Nat.le_trans Z0 (Nat.le_of_eq g1.symm)
    have V_b : Arv Z h1 b k1 .long (2 : Int32) [(.long (0 : Int64)), (.long (0 : Int64))] (.long (0 : Int64)) := (Arv.new A1 (by decide)).pad (pad_rep [] (.long (0 : Int64)) 2)
    obtain ⟨cl2, Ar2, qq2, S2, M2, H2, G2⟩ := id V_b
    obtain ⟨T3, h3, X3, e3, W3, st3⟩ := stJ X1 hx hZ e1 Ar2 (j := (0 : Int32)) (inb_of S2 ⟨(by decide : ¬ ((0 : Int32) < (0 : Int32))), (by decide : (0 : Int32) < (2 : Int32))⟩) (g := (mkF m 130 #[.val (.int x0), .val (.long x1), .second, .val (.long x3), .second, .val (.long x5), .second, .val (.long x7), .second, .val (.int x9), .val (.int (2 : Int32)), .val (.long x11), .second, .val (.long x13), .second, .val (.long x15), .second, .val (.long x17), .second, .val (.ref b), .unset, .unset, .unset, .unset] [(.long x5), (.int (0 : Int32)), (.ref b)])) rfl rfl (hb hby at_130)
    have V_b_3 : Arv Z h3 b k1 .long (2 : Int32) [(.long x5), (.long (0 : Int64))] (.long (0 : Int64)) := Arv.set Ar2 qq2 S2 M2 H2 G2 rfl W3 0 rfl (Nat.le_of_ble_eq_true rfl)
    have N3 := Fr.snoc X3 N0 gb
    have K3 : Keep h0 h3 [] := K0.wr W3 (Or.inr (Nat.le_of_eq g1.symm))
    obtain ⟨cl4, Ar4, qq4, S4, M4, H4, G4⟩ := id V_b_3
    obtain ⟨T5, h5, X5, e5, W5, st5⟩ := stJ X3 hx hZ e3 Ar4 (j := (1 : Int32)) (inb_of S4 ⟨(by decide : ¬ ((1 : Int32) < (0 : Int32))), (by decide : (1 : Int32) < (2 : Int32))⟩) (g := (mkF m 142 #[.val (.int x0), .val (.long x1), .second, .val (.long x3), .second, .val (.long x5), .second, .val (.long x7), .second, .val (.int x9), .val (.int (2 : Int32)), .val (.long x11), .second, .val (.long x13), .second, .val (.long x15), .second, .val (.long x17), .second, .val (.ref b), .unset, .unset, .unset, .unset] [(.long x7), (.int (1 : Int32)), (.ref b)])) rfl rfl (hb hby at_142)
    have V_b_5 : Arv Z h5 b k1 .long (2 : Int32) [(.long x5), (.long x7)] (.long (0 : Int64)) := Arv.set Ar4 qq4 S4 M4 H4 G4 rfl W5 1 rfl (Nat.le_of_ble_eq_true rfl)
    have N5 := Fr.snoc X5 N3 gb
    have K5 : Keep h0 h5 [] := K3.wr W5 (Or.inr (Nat.le_of_eq g1.symm))
    refine ⟨T5, h5, _, b, X5, e5, N5, K5, g1, ⟨_, V_b_5⟩, fun t k => ?_⟩
    show Steps p.tables e below (T0.setTop (mkF m 114 #[.val (.int x0), .val (.long x1), .second, .val (.long x3), .second, .val (.long x5), .second, .val (.long x7), .second, .val (.int x9), .val (.int (2 : Int32)), .val (.long x11), .second, .val (.long x13), .second, .val (.long x15), .second, .val (.long x17), .second, .unset, .unset, .unset, .unset, .unset] [])) _
    refine XS.iload X0.here hx rfl (hb hby at_114) rfl ?_
    show Steps p.tables e below (T0.setTop (mkF m 116 #[.val (.int x0), .val (.long x1), .second, .val (.long x3), .second, .val (.long x5), .second, .val (.long x7), .second, .val (.int x9), .val (.int (2 : Int32)), .val (.long x11), .second, .val (.long x13), .second, .val (.long x15), .second, .val (.long x17), .second, .unset, .unset, .unset, .unset, .unset] [(.int (2 : Int32))])) _
    refine st1 _ ?_
    show Steps p.tables e below (T1.setTop (mkF m 118 #[.val (.int x0), .val (.long x1), .second, .val (.long x3), .second, .val (.long x5), .second, .val (.long x7), .second, .val (.int x9), .val (.int (2 : Int32)), .val (.long x11), .second, .val (.long x13), .second, .val (.long x15), .second, .val (.long x17), .second, .unset, .unset, .unset, .unset, .unset] [(.ref b)])) _
    refine XS.astore X1.here hx rfl (hb hby at_118) rfl rfl (l' := #[.val (.int x0), .val (.long x1), .second, .val (.long x3), .second, .val (.long x5), .second, .val (.long x7), .second, .val (.int x9), .val (.int (2 : Int32)), .val (.long x11), .second, .val (.long x13), .second, .val (.long x15), .second, .val (.long x17), .second, .val (.ref b), .unset, .unset, .unset, .unset]) rfl ?_
    show Steps p.tables e below (T1.setTop (mkF m 120 #[.val (.int x0), .val (.long x1), .second, .val (.long x3), .second, .val (.long x5), .second, .val (.long x7), .second, .val (.int x9), .val (.int (2 : Int32)), .val (.long x11), .second, .val (.long x13), .second, .val (.long x15), .second, .val (.long x17), .second, .val (.ref b), .unset, .unset, .unset, .unset] [])) _
    refine XS.iload X1.here hx rfl (hb hby at_120) rfl ?_
    show Steps p.tables e below (T1.setTop (mkF m 122 #[.val (.int x0), .val (.long x1), .second, .val (.long x3), .second, .val (.long x5), .second, .val (.long x7), .second, .val (.int x9), .val (.int (2 : Int32)), .val (.long x11), .second, .val (.long x13), .second, .val (.long x15), .second, .val (.long x17), .second, .val (.ref b), .unset, .unset, .unset, .unset] [(.int (2 : Int32))])) _
    refine XS.ifNo X1.here hx rfl (hb hby at_122) rfl ((if0 _ _).trans (tlt (by decide)).2.2.2) ?_
    show Steps p.tables e below (T1.setTop (mkF m 125 #[.val (.int x0), .val (.long x1), .second, .val (.long x3), .second, .val (.long x5), .second, .val (.long x7), .second, .val (.int x9), .val (.int (2 : Int32)), .val (.long x11), .second, .val (.long x13), .second, .val (.long x15), .second, .val (.long x17), .second, .val (.ref b), .unset, .unset, .unset, .unset] [])) _
    refine XS.aload X1.here hx rfl (hb hby at_125) rfl rfl ?_
    show Steps p.tables e below (T1.setTop (mkF m 127 #[.val (.int x0), .val (.long x1), .second, .val (.long x3), .second, .val (.long x5), .second, .val (.long x7), .second, .val (.int x9), .val (.int (2 : Int32)), .val (.long x11), .second, .val (.long x13), .second, .val (.long x15), .second, .val (.long x17), .second, .val (.ref b), .unset, .unset, .unset, .unset] [(.ref b)])) _
    refine XS.iconst X1.here hx rfl (hb hby at_127) ?_
    show Steps p.tables e below (T1.setTop (mkF m 128 #[.val (.int x0), .val (.long x1), .second, .val (.long x3), .second, .val (.long x5), .second, .val (.long x7), .second, .val (.int x9), .val (.int (2 : Int32)), .val (.long x11), .second, .val (.long x13), .second, .val (.long x15), .second, .val (.long x17), .second, .val (.ref b), .unset, .unset, .unset, .unset] [(.int (0 : Int32)), (.ref b)])) _
    refine XS.lload X1.here hx rfl (hb hby at_128) rfl ?_
    show Steps p.tables e below (T1.setTop (mkF m 130 #[.val (.int x0), .val (.long x1), .second, .val (.long x3), .second, .val (.long x5), .second, .val (.long x7), .second, .val (.int x9), .val (.int (2 : Int32)), .val (.long x11), .second, .val (.long x13), .second, .val (.long x15), .second, .val (.long x17), .second, .val (.ref b), .unset, .unset, .unset, .unset] [(.long x5), (.int (0 : Int32)), (.ref b)])) _
    refine st3 _ ?_
    show Steps p.tables e below (T3.setTop (mkF m 131 #[.val (.int x0), .val (.long x1), .second, .val (.long x3), .second, .val (.long x5), .second, .val (.long x7), .second, .val (.int x9), .val (.int (2 : Int32)), .val (.long x11), .second, .val (.long x13), .second, .val (.long x15), .second, .val (.long x17), .second, .val (.ref b), .unset, .unset, .unset, .unset] [])) _
    refine XS.iload X3.here hx rfl (hb hby at_131) rfl ?_
    show Steps p.tables e below (T3.setTop (mkF m 133 #[.val (.int x0), .val (.long x1), .second, .val (.long x3), .second, .val (.long x5), .second, .val (.long x7), .second, .val (.int x9), .val (.int (2 : Int32)), .val (.long x11), .second, .val (.long x13), .second, .val (.long x15), .second, .val (.long x17), .second, .val (.ref b), .unset, .unset, .unset, .unset] [(.int (2 : Int32))])) _
    refine XS.iconst X3.here hx rfl (hb hby at_133) ?_
    show Steps p.tables e below (T3.setTop (mkF m 134 #[.val (.int x0), .val (.long x1), .second, .val (.long x3), .second, .val (.long x5), .second, .val (.long x7), .second, .val (.int x9), .val (.int (2 : Int32)), .val (.long x11), .second, .val (.long x13), .second, .val (.long x15), .second, .val (.long x17), .second, .val (.ref b), .unset, .unset, .unset, .unset] [(.int (1 : Int32)), (.int (2 : Int32))])) _
    refine XS.icmpNo X3.here hx rfl (hb hby at_134) rfl (tlt (by decide)).2.2.2 ?_
    show Steps p.tables e below (T3.setTop (mkF m 137 #[.val (.int x0), .val (.long x1), .second, .val (.long x3), .second, .val (.long x5), .second, .val (.long x7), .second, .val (.int x9), .val (.int (2 : Int32)), .val (.long x11), .second, .val (.long x13), .second, .val (.long x15), .second, .val (.long x17), .second, .val (.ref b), .unset, .unset, .unset, .unset] [])) _
    refine XS.aload X3.here hx rfl (hb hby at_137) rfl rfl ?_
    show Steps p.tables e below (T3.setTop (mkF m 139 #[.val (.int x0), .val (.long x1), .second, .val (.long x3), .second, .val (.long x5), .second, .val (.long x7), .second, .val (.int x9), .val (.int (2 : Int32)), .val (.long x11), .second, .val (.long x13), .second, .val (.long x15), .second, .val (.long x17), .second, .val (.ref b), .unset, .unset, .unset, .unset] [(.ref b)])) _
    refine XS.iconst X3.here hx rfl (hb hby at_139) ?_
    show Steps p.tables e below (T3.setTop (mkF m 140 #[.val (.int x0), .val (.long x1), .second, .val (.long x3), .second, .val (.long x5), .second, .val (.long x7), .second, .val (.int x9), .val (.int (2 : Int32)), .val (.long x11), .second, .val (.long x13), .second, .val (.long x15), .second, .val (.long x17), .second, .val (.ref b), .unset, .unset, .unset, .unset] [(.int (1 : Int32)), (.ref b)])) _
    refine XS.lload X3.here hx rfl (hb hby at_140) rfl ?_
    show Steps p.tables e below (T3.setTop (mkF m 142 #[.val (.int x0), .val (.long x1), .second, .val (.long x3), .second, .val (.long x5), .second, .val (.long x7), .second, .val (.int x9), .val (.int (2 : Int32)), .val (.long x11), .second, .val (.long x13), .second, .val (.long x15), .second, .val (.long x17), .second, .val (.ref b), .unset, .unset, .unset, .unset] [(.long x7), (.int (1 : Int32)), (.ref b)])) _
    refine st5 _ ?_
    exact k
set_option maxRecDepth 65536 in
set_option maxHeartbeats 40000000 in
theorem mkB {p : Program} {l : Launch} {e : Env} {s : State} {m : MethodId} {args : Array Value} {below : List Frame} {meth : Method} {c : Code} {T0 : State} {locs : List Loc} {Z : State} {a0 : Array Value} {h0 : Heap} (x0 : Int32) (x1 : Int64) (x3 : Int64) (x5 : Int64) (x7 : Int64) (x9 : Int32) (x10 : Int32) (x11 : Int64) (x13 : Int64) (x15 : Int64) (x17 : Int64) (x19 : Addr) (n0 : Nat) (X0 : Stand p l e room_1 s m args below meth c T0 locs 1 2) (hx : p.tables.exec = Jvm.exec) (hZ : Z.Warmed39 s.vm) (hw : ∀ d ∈ tables_1, d.before a0 Z = true) (hby : c.code = code) (hml : c.maxLocals = 24) (hown : s.vm.findClass "com/example/prune/prune/mdp/WordsIsSubsetPinLaw" = some m.cls) (e0 : T0.heap = h0) (Z0 : n0 ≤ h0.size) (N0 : Fr n0 locs) (hz : x9 = 0 ∨ x9 = 1 ∨ x9 = 2) :
    ∃ (T' : State) (h' : Heap) (locs' : List Loc) (b : Addr), Stand p l e room_1 s m args below meth c T' locs' 2 4 ∧ T'.heap = h' ∧ Fr n0 locs' ∧ Keep h0 h' [] ∧ b = h0.size ∧ own_A Z h' b (own_lst x9 x15 x17) ∧
      ∀ t, Steps p.tables e below (T'.setTop (mkF m 172 #[.val (.int x0), .val (.long x1), .second, .val (.long x3), .second, .val (.long x5), .second, .val (.long x7), .second, .val (.int x9), .val (.int x10), .val (.long x11), .second, .val (.long x13), .second, .val (.long x15), .second, .val (.long x17), .second, .val (.ref x19), .val (.ref b), .unset, .unset, .unset] [])) t → Steps p.tables e below (T0.setTop (mkF m 143 #[.val (.int x0), .val (.long x1), .second, .val (.long x3), .second, .val (.long x5), .second, .val (.long x7), .second, .val (.int x9), .val (.int x10), .val (.long x11), .second, .val (.long x13), .second, .val (.long x15), .second, .val (.long x17), .second, .val (.ref x19), .unset, .unset, .unset, .unset] [])) t := by
  rcases hz with rfl | rfl | rfl
  · obtain ⟨T1, h1, k1, X1, e1, E1, A1, st1⟩ := newP X0 hx hZ (hw _ (List.mem_of_getElem? (i := 0) rfl)) e0 (g := (mkF m 145 #[.val (.int x0), .val (.long x1), .second, .val (.long x3), .second, .val (.long x5), .second, .val (.long x7), .second, .val (.int (0 : Int32)), .val (.int x10), .val (.long x11), .second, .val (.long x13), .second, .val (.long x15), .second, .val (.long x17), .second, .val (.ref x19), .unset, .unset, .unset, .unset] [(.int (0 : Int32))])) rfl (hb hby at_145) rfl (by decide) (cap := 2) (by decide) (by decide) (by decide) (by decide)
    obtain ⟨b, g1⟩ : ∃ z, z = h0.size := ⟨_, rfl⟩
    rw [← g1] at A1 st1
    have K0 : Keep h0 h1 [] := (Keep.refl h0 []).ext E1
    have gb : n0 ≤ b := Nat.le_trans Z0 (Nat.le_of_eq g1.symm)
    have V0 : Arv Z h1 b k1 .long (0 : Int32) [] (.long (0 : Int64)) := Arv.new A1 (by decide)
    refine ⟨T1, h1, _, b, X1, e1, N0, K0, g1, ⟨_, V0⟩, fun t k => ?_⟩
    show Steps p.tables e below (T0.setTop (mkF m 143 #[.val (.int x0), .val (.long x1), .second, .val (.long x3), .second, .val (.long x5), .second, .val (.long x7), .second, .val (.int (0 : Int32)), .val (.int x10), .val (.long x11), .second, .val (.long x13), .second, .val (.long x15), .second, .val (.long x17), .second, .val (.ref x19), .unset, .unset, .unset, .unset] [])) _
    refine XS.iload X0.here hx rfl (hb hby at_143) rfl ?_
    show Steps p.tables e below (T0.setTop (mkF m 145 #[.val (.int x0), .val (.long x1), .second, .val (.long x3), .second, .val (.long x5), .second, .val (.long x7), .second, .val (.int (0 : Int32)), .val (.int x10), .val (.long x11), .second, .val (.long x13), .second, .val (.long x15), .second, .val (.long x17), .second, .val (.ref x19), .unset, .unset, .unset, .unset] [(.int (0 : Int32))])) _
    refine st1 _ ?_
    show Steps p.tables e below (T1.setTop (mkF m 147 #[.val (.int x0), .val (.long x1), .second, .val (.long x3), .second, .val (.long x5), .second, .val (.long x7), .second, .val (.int (0 : Int32)), .val (.int x10), .val (.long x11), .second, .val (.long x13), .second, .val (.long x15), .second, .val (.long x17), .second, .val (.ref x19), .unset, .unset, .unset, .unset] [(.ref b)])) _
    refine XS.astore X1.here hx rfl (hb hby at_147) rfl rfl (l' := #[.val (.int x0), .val (.long x1), .second, .val (.long x3), .second, .val (.long x5), .second, .val (.long x7), .second, .val (.int (0 : Int32)), .val (.int x10), .val (.long x11), .second, .val (.long x13), .second, .val (.long x15), .second, .val (.long x17), .second, .val (.ref x19), .val (.ref b), .unset, .unset, .unset]) rfl ?_
    show Steps p.tables e below (T1.setTop (mkF m 149 #[.val (.int x0), .val (.long x1), .second, .val (.long x3), .second, .val (.long x5), .second, .val (.long x7), .second, .val (.int (0 : Int32)), .val (.int x10), .val (.long x11), .second, .val (.long x13), .second, .val (.long x15), .second, .val (.long x17), .second, .val (.ref x19), .val (.ref b), .unset, .unset, .unset] [])) _
    refine XS.iload X1.here hx rfl (hb hby at_149) rfl ?_
    show Steps p.tables e below (T1.setTop (mkF m 151 #[.val (.int x0), .val (.long x1), .second, .val (.long x3), .second, .val (.long x5), .second, .val (.long x7), .second, .val (.int (0 : Int32)), .val (.int x10), .val (.long x11), .second, .val (.long x13), .second, .val (.long x15), .second, .val (.long x17), .second, .val (.ref x19), .val (.ref b), .unset, .unset, .unset] [(.int (0 : Int32))])) _
    refine XS.ifYes X1.here hx rfl (pc0 := 151) (pc' := 160) rfl (hb hby at_151) rfl ((if0 _ _).trans (flt (by decide)).2.2.2) (by decide) (by decide) ?_
    show Steps p.tables e below (T1.setTop (mkF m 160 #[.val (.int x0), .val (.long x1), .second, .val (.long x3), .second, .val (.long x5), .second, .val (.long x7), .second, .val (.int (0 : Int32)), .val (.int x10), .val (.long x11), .second, .val (.long x13), .second, .val (.long x15), .second, .val (.long x17), .second, .val (.ref x19), .val (.ref b), .unset, .unset, .unset] [])) _
    refine XS.iload X1.here hx rfl (hb hby at_160) rfl ?_
    show Steps p.tables e below (T1.setTop (mkF m 162 #[.val (.int x0), .val (.long x1), .second, .val (.long x3), .second, .val (.long x5), .second, .val (.long x7), .second, .val (.int (0 : Int32)), .val (.int x10), .val (.long x11), .second, .val (.long x13), .second, .val (.long x15), .second, .val (.long x17), .second, .val (.ref x19), .val (.ref b), .unset, .unset, .unset] [(.int (0 : Int32))])) _
    refine XS.iconst X1.here hx rfl (hb hby at_162) ?_
    show Steps p.tables e below (T1.setTop (mkF m 163 #[.val (.int x0), .val (.long x1), .second, .val (.long x3), .second, .val (.long x5), .second, .val (.long x7), .second, .val (.int (0 : Int32)), .val (.int x10), .val (.long x11), .second, .val (.long x13), .second, .val (.long x15), .second, .val (.long x17), .second, .val (.ref x19), .val (.ref b), .unset, .unset, .unset] [(.int (1 : Int32)), (.int (0 : Int32))])) _
    refine XS.icmpYes X1.here hx rfl (pc0 := 163) (pc' := 172) rfl (hb hby at_163) rfl (flt (by decide)).2.2.2 (by decide) (by decide) ?_
    exact k
  · obtain ⟨T1, h1, k1, X1, e1, E1, A1, st1⟩ := newP X0 hx hZ (hw _ (List.mem_of_getElem? (i := 0) rfl)) e0 (g := (mkF m 145 #[.val (.int x0), .val (.long x1), .second, .val (.long x3), .second, .val (.long x5), .second, .val (.long x7), .second, .val (.int (1 : Int32)), .val (.int x10), .val (.long x11), .second, .val (.long x13), .second, .val (.long x15), .second, .val (.long x17), .second, .val (.ref x19), .unset, .unset, .unset, .unset] [(.int (1 : Int32))])) rfl (hb hby at_145) rfl (by decide) (cap := 2) (by decide) (by decide) (by decide) (by decide)
    obtain ⟨b, g1⟩ : ∃ z, z = h0.size := ⟨_, rfl⟩
    rw [← g1] at A1 st1
    have K0 : Keep h0 h1 [] := (Keep.refl h0 []).ext E1
    have gb : n0 ≤ b := Nat.le_trans Z0 (Nat.le_of_eq g1.symm)
    have V_b : Arv Z h1 b k1 .long (1 : Int32) [(.long (0 : Int64))] (.long (0 : Int64)) := (Arv.new A1 (by decide)).pad (pad_rep [] (.long (0 : Int64)) 1)
    obtain ⟨cl2, Ar2, qq2, S2, M2, H2, G2⟩ := id V_b
    obtain ⟨T3, h3, X3, e3, W3, st3⟩ := stJ X1 hx hZ e1 Ar2 (j := (0 : Int32)) (inb_of S2 ⟨(by decide : ¬ ((0 : Int32) < (0 : Int32))), (by decide : (0 : Int32) < (1 : Int32))⟩) (g := (mkF m 159 #[.val (.int x0), .val (.long x1), .second, .val (.long x3), .second, .val (.long x5), .second, .val (.long x7), .second, .val (.int (1 : Int32)), .val (.int x10), .val (.long x11), .second, .val (.long x13), .second, .val (.long x15), .second, .val (.long x17), .second, .val (.ref x19), .val (.ref b), .unset, .unset, .unset] [(.long x15), (.int (0 : Int32)), (.ref b)])) rfl rfl (hb hby at_159)
    have V_b_3 : Arv Z h3 b k1 .long (1 : Int32) [(.long x15)] (.long (0 : Int64)) := Arv.set Ar2 qq2 S2 M2 H2 G2 rfl W3 0 rfl (Nat.le_of_ble_eq_true rfl)
    have N3 := Fr.snoc X3 N0 gb
    have K3 : Keep h0 h3 [] := K0.wr W3 (Or.inr (Nat.le_of_eq g1.symm))
    refine ⟨T3, h3, _, b, X3, e3, N3, K3, g1, ⟨_, V_b_3⟩, fun t k => ?_⟩
    show Steps p.tables e below (T0.setTop (mkF m 143 #[.val (.int x0), .val (.long x1), .second, .val (.long x3), .second, .val (.long x5), .second, .val (.long x7), .second, .val (.int (1 : Int32)), .val (.int x10), .val (.long x11), .second, .val (.long x13), .second, .val (.long x15), .second, .val (.long x17), .second, .val (.ref x19), .unset, .unset, .unset, .unset] [])) _
    refine XS.iload X0.here hx rfl (hb hby at_143) rfl ?_
    show Steps p.tables e below (T0.setTop (mkF m 145 #[.val (.int x0), .val (.long x1), .second, .val (.long x3), .second, .val (.long x5), .second, .val (.long x7), .second, .val (.int (1 : Int32)), .val (.int x10), .val (.long x11), .second, .val (.long x13), .second, .val (.long x15), .second, .val (.long x17), .second, .val (.ref x19), .unset, .unset, .unset, .unset] [(.int (1 : Int32))])) _
    refine st1 _ ?_
    show Steps p.tables e below (T1.setTop (mkF m 147 #[.val (.int x0), .val (.long x1), .second, .val (.long x3), .second, .val (.long x5), .second, .val (.long x7), .second, .val (.int (1 : Int32)), .val (.int x10), .val (.long x11), .second, .val (.long x13), .second, .val (.long x15), .second, .val (.long x17), .second, .val (.ref x19), .unset, .unset, .unset, .unset] [(.ref b)])) _
    refine XS.astore X1.here hx rfl (hb hby at_147) rfl rfl (l' := #[.val (.int x0), .val (.long x1), .second, .val (.long x3), .second, .val (.long x5), .second, .val (.long x7), .second, .val (.int (1 : Int32)), .val (.int x10), .val (.long x11), .second, .val (.long x13), .second, .val (.long x15), .second, .val (.long x17), .second, .val (.ref x19), .val (.ref b), .unset, .unset, .unset]) rfl ?_
    show Steps p.tables e below (T1.setTop (mkF m 149 #[.val (.int x0), .val (.long x1), .second, .val (.long x3), .second, .val (.long x5), .second, .val (.long x7), .second, .val (.int (1 : Int32)), .val (.int x10), .val (.long x11), .second, .val (.long x13), .second, .val (.long x15), .second, .val (.long x17), .second, .val (.ref x19), .val (.ref b), .unset, .unset, .unset] [])) _
    refine XS.iload X1.here hx rfl (hb hby at_149) rfl ?_
    show Steps p.tables e below (T1.setTop (mkF m 151 #[.val (.int x0), .val (.long x1), .second, .val (.long x3), .second, .val (.long x5), .second, .val (.long x7), .second, .val (.int (1 : Int32)), .val (.int x10), .val (.long x11), .second, .val (.long x13), .second, .val (.long x15), .second, .val (.long x17), .second, .val (.ref x19), .val (.ref b), .unset, .unset, .unset] [(.int (1 : Int32))])) _
    refine XS.ifNo X1.here hx rfl (hb hby at_151) rfl ((if0 _ _).trans (tlt (by decide)).2.2.2) ?_
    show Steps p.tables e below (T1.setTop (mkF m 154 #[.val (.int x0), .val (.long x1), .second, .val (.long x3), .second, .val (.long x5), .second, .val (.long x7), .second, .val (.int (1 : Int32)), .val (.int x10), .val (.long x11), .second, .val (.long x13), .second, .val (.long x15), .second, .val (.long x17), .second, .val (.ref x19), .val (.ref b), .unset, .unset, .unset] [])) _
    refine XS.aload X1.here hx rfl (hb hby at_154) rfl rfl ?_
    show Steps p.tables e below (T1.setTop (mkF m 156 #[.val (.int x0), .val (.long x1), .second, .val (.long x3), .second, .val (.long x5), .second, .val (.long x7), .second, .val (.int (1 : Int32)), .val (.int x10), .val (.long x11), .second, .val (.long x13), .second, .val (.long x15), .second, .val (.long x17), .second, .val (.ref x19), .val (.ref b), .unset, .unset, .unset] [(.ref b)])) _
    refine XS.iconst X1.here hx rfl (hb hby at_156) ?_
    show Steps p.tables e below (T1.setTop (mkF m 157 #[.val (.int x0), .val (.long x1), .second, .val (.long x3), .second, .val (.long x5), .second, .val (.long x7), .second, .val (.int (1 : Int32)), .val (.int x10), .val (.long x11), .second, .val (.long x13), .second, .val (.long x15), .second, .val (.long x17), .second, .val (.ref x19), .val (.ref b), .unset, .unset, .unset] [(.int (0 : Int32)), (.ref b)])) _
    refine XS.lload X1.here hx rfl (hb hby at_157) rfl ?_
    show Steps p.tables e below (T1.setTop (mkF m 159 #[.val (.int x0), .val (.long x1), .second, .val (.long x3), .second, .val (.long x5), .second, .val (.long x7), .second, .val (.int (1 : Int32)), .val (.int x10), .val (.long x11), .second, .val (.long x13), .second, .val (.long x15), .second, .val (.long x17), .second, .val (.ref x19), .val (.ref b), .unset, .unset, .unset] [(.long x15), (.int (0 : Int32)), (.ref b)])) _
    refine st3 _ ?_
    show Steps p.tables e below (T3.setTop (mkF m 160 #[.val (.int x0), .val (.long x1), .second, .val (.long x3), .second, .val (.long x5), .second, .val (.long x7), .second, .val (.int (1 : Int32)), .val (.int x10), .val (.long x11), .second, .val (.long x13), .second, .val (.long x15), .second, .val (.long x17), .second, .val (.ref x19), .val (.ref b), .unset, .unset, .unset] [])) _
    refine XS.iload X3.here hx rfl (hb hby at_160) rfl ?_
    show Steps p.tables e below (T3.setTop (mkF m 162 #[.val (.int x0), .val (.long x1), .second, .val (.long x3), .second, .val (.long x5), .second, .val (.long x7), .second, .val (.int (1 : Int32)), .val (.int x10), .val (.long x11), .second, .val (.long x13), .second, .val (.long x15), .second, .val (.long x17), .second, .val (.ref x19), .val (.ref b), .unset, .unset, .unset] [(.int (1 : Int32))])) _
    refine XS.iconst X3.here hx rfl (hb hby at_162) ?_
    show Steps p.tables e below (T3.setTop (mkF m 163 #[.val (.int x0), .val (.long x1), .second, .val (.long x3), .second, .val (.long x5), .second, .val (.long x7), .second, .val (.int (1 : Int32)), .val (.int x10), .val (.long x11), .second, .val (.long x13), .second, .val (.long x15), .second, .val (.long x17), .second, .val (.ref x19), .val (.ref b), .unset, .unset, .unset] [(.int (1 : Int32)), (.int (1 : Int32))])) _
    refine XS.icmpYes X3.here hx rfl (pc0 := 163) (pc' := 172) rfl (hb hby at_163) rfl (flt (by decide)).2.2.2 (by decide) (by decide) ?_
    exact k
  · obtain ⟨T1, h1, k1, X1, e1, E1, A1, st1⟩ := newP X0 hx hZ (hw _ (List.mem_of_getElem? (i := 0) rfl)) e0 (g := (mkF m 145 #[.val (.int x0), .val (.long x1), .second, .val (.long x3), .second, .val (.long x5), .second, .val (.long x7), .second, .val (.int (2 : Int32)), .val (.int x10), .val (.long x11), .second, .val (.long x13), .second, .val (.long x15), .second, .val (.long x17), .second, .val (.ref x19), .unset, .unset, .unset, .unset] [(.int (2 : Int32))])) rfl (hb hby at_145) rfl (by decide) (cap := 2) (by decide) (by decide) (by decide) (by decide)
    obtain ⟨b, g1⟩ : ∃ z, z = h0.size := ⟨_, rfl⟩
    rw [← g1] at A1 st1
    have K0 : Keep h0 h1 [] := (Keep.refl h0 []).ext E1
    have gb : n0 ≤ b := Nat.le_trans Z0 (Nat.le_of_eq g1.symm)
    have V_b : Arv Z h1 b k1 .long (2 : Int32) [(.long (0 : Int64)), (.long (0 : Int64))] (.long (0 : Int64)) := (Arv.new A1 (by decide)).pad (pad_rep [] (.long (0 : Int64)) 2)
    obtain ⟨cl2, Ar2, qq2, S2, M2, H2, G2⟩ := id V_b
    obtain ⟨T3, h3, X3, e3, W3, st3⟩ := stJ X1 hx hZ e1 Ar2 (j := (0 : Int32)) (inb_of S2 ⟨(by decide : ¬ ((0 : Int32) < (0 : Int32))), (by decide : (0 : Int32) < (2 : Int32))⟩) (g := (mkF m 159 #[.val (.int x0), .val (.long x1), .second, .val (.long x3), .second, .val (.long x5), .second, .val (.long x7), .second, .val (.int (2 : Int32)), .val (.int x10), .val (.long x11), .second, .val (.long x13), .second, .val (.long x15), .second, .val (.long x17), .second, .val (.ref x19), .val (.ref b), .unset, .unset, .unset] [(.long x15), (.int (0 : Int32)), (.ref b)])) rfl rfl (hb hby at_159)
    have V_b_3 : Arv Z h3 b k1 .long (2 : Int32) [(.long x15), (.long (0 : Int64))] (.long (0 : Int64)) := Arv.set Ar2 qq2 S2 M2 H2 G2 rfl W3 0 rfl (Nat.le_of_ble_eq_true rfl)
    have N3 := Fr.snoc X3 N0 gb
    have K3 : Keep h0 h3 [] := K0.wr W3 (Or.inr (Nat.le_of_eq g1.symm))
    obtain ⟨cl4, Ar4, qq4, S4, M4, H4, G4⟩ := id V_b_3
    obtain ⟨T5, h5, X5, e5, W5, st5⟩ := stJ X3 hx hZ e3 Ar4 (j := (1 : Int32)) (inb_of S4 ⟨(by decide : ¬ ((1 : Int32) < (0 : Int32))), (by decide : (1 : Int32) < (2 : Int32))⟩) (g := (mkF m 171 #[.val (.int x0), .val (.long x1), .second, .val (.long x3), .second, .val (.long x5), .second, .val (.long x7), .second, .val (.int (2 : Int32)), .val (.int x10), .val (.long x11), .second, .val (.long x13), .second, .val (.long x15), .second, .val (.long x17), .second, .val (.ref x19), .val (.ref b), .unset, .unset, .unset] [(.long x17), (.int (1 : Int32)), (.ref b)])) rfl rfl (hb hby at_171)
    have V_b_5 : Arv Z h5 b k1 .long (2 : Int32) [(.long x15), (.long x17)] (.long (0 : Int64)) := Arv.set Ar4 qq4 S4 M4 H4 G4 rfl W5 1 rfl (Nat.le_of_ble_eq_true rfl)
    have N5 := Fr.snoc X5 N3 gb
    have K5 : Keep h0 h5 [] := K3.wr W5 (Or.inr (Nat.le_of_eq g1.symm))
    refine ⟨T5, h5, _, b, X5, e5, N5, K5, g1, ⟨_, V_b_5⟩, fun t k => ?_⟩
    show Steps p.tables e below (T0.setTop (mkF m 143 #[.val (.int x0), .val (.long x1), .second, .val (.long x3), .second, .val (.long x5), .second, .val (.long x7), .second, .val (.int (2 : Int32)), .val (.int x10), .val (.long x11), .second, .val (.long x13), .second, .val (.long x15), .second, .val (.long x17), .second, .val (.ref x19), .unset, .unset, .unset, .unset] [])) _
    refine XS.iload X0.here hx rfl (hb hby at_143) rfl ?_
    show Steps p.tables e below (T0.setTop (mkF m 145 #[.val (.int x0), .val (.long x1), .second, .val (.long x3), .second, .val (.long x5), .second, .val (.long x7), .second, .val (.int (2 : Int32)), .val (.int x10), .val (.long x11), .second, .val (.long x13), .second, .val (.long x15), .second, .val (.long x17), .second, .val (.ref x19), .unset, .unset, .unset, .unset] [(.int (2 : Int32))])) _
    refine st1 _ ?_
    show Steps p.tables e below (T1.setTop (mkF m 147 #[.val (.int x0), .val (.long x1), .second, .val (.long x3), .second, .val (.long x5), .second, .val (.long x7), .second, .val (.int (2 : Int32)), .val (.int x10), .val (.long x11), .second, .val (.long x13), .second, .val (.long x15), .second, .val (.long x17), .second, .val (.ref x19), .unset, .unset, .unset, .unset] [(.ref b)])) _
    refine XS.astore X1.here hx rfl (hb hby at_147) rfl rfl (l' := #[.val (.int x0), .val (.long x1), .second, .val (.long x3), .second, .val (.long x5), .second, .val (.long x7), .second, .val (.int (2 : Int32)), .val (.int x10), .val (.long x11), .second, .val (.long x13), .second, .val (.long x15), .second, .val (.long x17), .second, .val (.ref x19), .val (.ref b), .unset, .unset, .unset]) rfl ?_
    show Steps p.tables e below (T1.setTop (mkF m 149 #[.val (.int x0), .val (.long x1), .second, .val (.long x3), .second, .val (.long x5), .second, .val (.long x7), .second, .val (.int (2 : Int32)), .val (.int x10), .val (.long x11), .second, .val (.long x13), .second, .val (.long x15), .second, .val (.long x17), .second, .val (.ref x19), .val (.ref b), .unset, .unset, .unset] [])) _
    refine XS.iload X1.here hx rfl (hb hby at_149) rfl ?_
    show Steps p.tables e below (T1.setTop (mkF m 151 #[.val (.int x0), .val (.long x1), .second, .val (.long x3), .second, .val (.long x5), .second, .val (.long x7), .second, .val (.int (2 : Int32)), .val (.int x10), .val (.long x11), .second, .val (.long x13), .second, .val (.long x15), .second, .val (.long x17), .second, .val (.ref x19), .val (.ref b), .unset, .unset, .unset] [(.int (2 : Int32))])) _
    refine XS.ifNo X1.here hx rfl (hb hby at_151) rfl ((if0 _ _).trans (tlt (by decide)).2.2.2) ?_
    show Steps p.tables e below (T1.setTop (mkF m 154 #[.val (.int x0), .val (.long x1), .second, .val (.long x3), .second, .val (.long x5), .second, .val (.long x7), .second, .val (.int (2 : Int32)), .val (.int x10), .val (.long x11), .second, .val (.long x13), .second, .val (.long x15), .second, .val (.long x17), .second, .val (.ref x19), .val (.ref b), .unset, .unset, .unset] [])) _
    refine XS.aload X1.here hx rfl (hb hby at_154) rfl rfl ?_
    show Steps p.tables e below (T1.setTop (mkF m 156 #[.val (.int x0), .val (.long x1), .second, .val (.long x3), .second, .val (.long x5), .second, .val (.long x7), .second, .val (.int (2 : Int32)), .val (.int x10), .val (.long x11), .second, .val (.long x13), .second, .val (.long x15), .second, .val (.long x17), .second, .val (.ref x19), .val (.ref b), .unset, .unset, .unset] [(.ref b)])) _
    refine XS.iconst X1.here hx rfl (hb hby at_156) ?_
    show Steps p.tables e below (T1.setTop (mkF m 157 #[.val (.int x0), .val (.long x1), .second, .val (.long x3), .second, .val (.long x5), .second, .val (.long x7), .second, .val (.int (2 : Int32)), .val (.int x10), .val (.long x11), .second, .val (.long x13), .second, .val (.long x15), .second, .val (.long x17), .second, .val (.ref x19), .val (.ref b), .unset, .unset, .unset] [(.int (0 : Int32)), (.ref b)])) _
    refine XS.lload X1.here hx rfl (hb hby at_157) rfl ?_
    show Steps p.tables e below (T1.setTop (mkF m 159 #[.val (.int x0), .val (.long x1), .second, .val (.long x3), .second, .val (.long x5), .second, .val (.long x7), .second, .val (.int (2 : Int32)), .val (.int x10), .val (.long x11), .second, .val (.long x13), .second, .val (.long x15), .second, .val (.long x17), .second, .val (.ref x19), .val (.ref b), .unset, .unset, .unset] [(.long x15), (.int (0 : Int32)), (.ref b)])) _
    refine st3 _ ?_
    show Steps p.tables e below (T3.setTop (mkF m 160 #[.val (.int x0), .val (.long x1), .second, .val (.long x3), .second, .val (.long x5), .second, .val (.long x7), .second, .val (.int (2 : Int32)), .val (.int x10), .val (.long x11), .second, .val (.long x13), .second, .val (.long x15), .second, .val (.long x17), .second, .val (.ref x19), .val (.ref b), .unset, .unset, .unset] [])) _
    refine XS.iload X3.here hx rfl (hb hby at_160) rfl ?_
    show Steps p.tables e below (T3.setTop (mkF m 162 #[.val (.int x0), .val (.long x1), .second, .val (.long x3), .second, .val (.long x5), .second, .val (.long x7), .second, .val (.int (2 : Int32)), .val (.int x10), .val (.long x11), .second, .val (.long x13), .second, .val (.long x15), .second, .val (.long x17), .second, .val (.ref x19), .val (.ref b), .unset, .unset, .unset] [(.int (2 : Int32))])) _
    refine XS.iconst X3.here hx rfl (hb hby at_162) ?_
    show Steps p.tables e below (T3.setTop (mkF m 163 #[.val (.int x0), .val (.long x1), .second, .val (.long x3), .second, .val (.long x5), .second, .val (.long x7), .second, .val (.int (2 : Int32)), .val (.int x10), .val (.long x11), .second, .val (.long x13), .second, .val (.long x15), .second, .val (.long x17), .second, .val (.ref x19), .val (.ref b), .unset, .unset, .unset] [(.int (1 : Int32)), (.int (2 : Int32))])) _
    refine XS.icmpNo X3.here hx rfl (hb hby at_163) rfl (tlt (by decide)).2.2.2 ?_
    show Steps p.tables e below (T3.setTop (mkF m 166 #[.val (.int x0), .val (.long x1), .second, .val (.long x3), .second, .val (.long x5), .second, .val (.long x7), .second, .val (.int (2 : Int32)), .val (.int x10), .val (.long x11), .second, .val (.long x13), .second, .val (.long x15), .second, .val (.long x17), .second, .val (.ref x19), .val (.ref b), .unset, .unset, .unset] [])) _
    refine XS.aload X3.here hx rfl (hb hby at_166) rfl rfl ?_
    show Steps p.tables e below (T3.setTop (mkF m 168 #[.val (.int x0), .val (.long x1), .second, .val (.long x3), .second, .val (.long x5), .second, .val (.long x7), .second, .val (.int (2 : Int32)), .val (.int x10), .val (.long x11), .second, .val (.long x13), .second, .val (.long x15), .second, .val (.long x17), .second, .val (.ref x19), .val (.ref b), .unset, .unset, .unset] [(.ref b)])) _
    refine XS.iconst X3.here hx rfl (hb hby at_168) ?_
    show Steps p.tables e below (T3.setTop (mkF m 169 #[.val (.int x0), .val (.long x1), .second, .val (.long x3), .second, .val (.long x5), .second, .val (.long x7), .second, .val (.int (2 : Int32)), .val (.int x10), .val (.long x11), .second, .val (.long x13), .second, .val (.long x15), .second, .val (.long x17), .second, .val (.ref x19), .val (.ref b), .unset, .unset, .unset] [(.int (1 : Int32)), (.ref b)])) _
    refine XS.lload X3.here hx rfl (hb hby at_169) rfl ?_
    show Steps p.tables e below (T3.setTop (mkF m 171 #[.val (.int x0), .val (.long x1), .second, .val (.long x3), .second, .val (.long x5), .second, .val (.long x7), .second, .val (.int (2 : Int32)), .val (.int x10), .val (.long x11), .second, .val (.long x13), .second, .val (.long x15), .second, .val (.long x17), .second, .val (.ref x19), .val (.ref b), .unset, .unset, .unset] [(.long x17), (.int (1 : Int32)), (.ref b)])) _
    refine st5 _ ?_
    exact k
theorem pd_0_0 : parseMethodDescriptor "([J[J)Z" = some ⟨[(.array .long), (.array .long)], some .boolean⟩ := by decide +kernel
theorem pn_0 : plainName "com/example/prune/prune/mdp/WordsIsSubsetPinLaw" = true := by first | (simp [plainName, overriddenIn]; done) | decide +kernel
theorem ef_0 (m : MethodId) (x0 : Int32) (x1 : Int64) (x2 : Int64) (x3 : Int64) (x4 : Int64) : entryFrame m #[(.int x0), (.long x1), (.long x2), (.long x3), (.long x4)] maxLocals = mkF m 0 #[.val (.int x0), .val (.long x1), .second, .val (.long x2), .second, .val (.long x3), .second, .val (.long x4), .second, .unset, .unset, .unset, .unset, .unset, .unset, .unset, .unset, .unset, .unset, .unset, .unset, .unset, .unset, .unset] [] := by first | (simp [entryFrame, mkF, argsToLocals, Value.category, maxLocals]; done) | rfl
def Q0 (Z : State) (p1 : Int32) (q1 : Int64) (q2 : Int64) (q3 : Int64) (q4 : Int64) (h0 : Heap) (n0 : Nat) (v : Option Value) (h : Heap) (L : List Loc) : Prop := v = some (.int 1) ∧ Fr n0 L
set_option maxRecDepth 65536 in
set_option maxHeartbeats 40000000 in
theorem rm0_0 (l : Launch) (Z : State) (a0 : Array Value) (hw : ∀ d ∈ tables_1, d.before a0 Z = true) (ws : List Jvm.Cond) (p1 : Int32) (q1 : Int64) (q2 : Int64) (q3 : Int64) (q4 : Int64) (h0 : Heap) (n0 : Nat) (Z0 : n0 ≤ h0.size) (hb5 : ((p1.toUInt32 >>> ((5 : Int32) &&& 31).toUInt32).toInt32 &&& (1 : Int32)) = (0 : Int32)) :
    MetFree l x (head1 (Jvm.Cond.code x code maxLocals ret :: ws) room_1) (fun a U => a = #[(.int p1), (.long q1), (.long q2), (.long q3), (.long q4)] ∧ Z.Warmed39 U.vm ∧ U.heap = h0) (fun _ _ _ _ _ => True) (fun _ U o U' => ∃ v L, o = .returned v ∧ Q0 Z p1 q1 q2 q3 q4 h0 n0 v U'.heap L ∧ FrameEnd U o U' L room_1.cells room_1.slots) := by
  refine MetFree.of_bodySF (plainFor_of_name pn_0) hisR ?_
  intro p e s m args below meth c s₁ Bd hml0 hP hK
  obtain ⟨rfl, hZ, hh⟩ := hP
  have hx := Bd.exec
  have hby := Bd.bytes
  have hml : c.maxLocals = 24 := hml0
  have hown : s.vm.findClass "com/example/prune/prune/mdp/WordsIsSubsetPinLaw" = some m.cls := findClass_of_methodNamed Bd.named
  have hnm := (name_of_methodNamed Bd.named Bd.method).1
  have X0 : Stand p l e room_1 s m #[(.int p1), (.long q1), (.long q2), (.long q3), (.long q4)] below meth c s₁ [] 0 0 := Stand.of_body Bd
  have e0 : s₁.heap = h0 := by rw [← hh, Bd.state]; rfl
  have N0 := Fr.nil n0
  have pre0 : ∀ t, Steps p.tables e below (s₁.setTop (mkF m 0 #[.val (.int p1), .val (.long q1), .second, .val (.long q2), .second, .val (.long q3), .second, .val (.long q4), .second, .unset, .unset, .unset, .unset, .unset, .unset, .unset, .unset, .unset, .unset, .unset, .unset, .unset, .unset, .unset] [])) t → Steps p.tables e below (s₁.setTop (entryFrame m #[(.int p1), (.long q1), (.long q2), (.long q3), (.long q4)] maxLocals)) t := fun t k => castTop (ef_0 m p1 q1 q2 q3 q4) k
  obtain ⟨v1, hv1⟩ : ∃ z : Int32, z = ((p1 &&& (3 : Int32)) % (3 : Int32)) := ⟨_, rfl⟩
  obtain ⟨v2, hv2⟩ : ∃ z : Int32, z = ((((p1.toUInt32 >>> ((2 : Int32) &&& 31).toUInt32).toInt32) &&& (3 : Int32)) % (3 : Int32)) := ⟨_, rfl⟩
  obtain ⟨v4, hv4⟩ : ∃ z : Int64, z = if ((0 : Int32) < v2) then q3 else (0 : Int64) := ⟨_, rfl⟩
  obtain ⟨v6, hv6⟩ : ∃ z : Int64, z = if ((1 : Int32) < v2) then q4 else (0 : Int64) := ⟨_, rfl⟩
  obtain ⟨v8, hv8⟩ : ∃ z : Int64, z = (q1 &&& v4) := ⟨_, rfl⟩
  obtain ⟨v9, hv9⟩ : ∃ z : Int64, z = (q2 &&& v6) := ⟨_, rfl⟩
  obtain ⟨v10, hv10⟩ : ∃ z : Int64, z = if ((((p1.toUInt32 >>> ((4 : Int32) &&& 31).toUInt32).toInt32) &&& (1 : Int32)) = (0 : Int32)) then q1 else v8 := ⟨_, rfl⟩
  obtain ⟨v11, hv11⟩ : ∃ z : Int64, z = if ((((p1.toUInt32 >>> ((4 : Int32) &&& 31).toUInt32).toInt32) &&& (1 : Int32)) = (0 : Int32)) then q2 else v9 := ⟨_, rfl⟩
  have hz9 := own_rng3 _ v1 hv1
  have hz10 := own_rng3 _ v2 hv2
  obtain ⟨TA, hA, LA, b1, XA, eA, NA, KA, gA, VA, stA⟩ := mkA0 p1 q1 q2 q3 q4 v1 v2 v4 v6 v10 v11 n0 X0 hx hZ hw hby hml hown e0 Z0 N0 hz10
  obtain ⟨TB, hB, LB, b2, XB, eB, NB, KB, gB, VB, stB⟩ := mkB p1 q1 q2 q3 q4 v1 v2 v4 v6 v10 v11 b1 n0 XA hx hZ hw hby hml hown eA (Nat.le_trans Z0 KA.1) NA hz9
  have VA2 : own_A Z hB b1 (own_lst v2 q3 q4) := own_A.keep VA KB nin0
  obtain ⟨v14, hv14⟩ : ∃ z : Int32, z = if ((v10 &&& v4) = v10) then (1 : Int32) else (0 : Int32) := ⟨_, rfl⟩
  obtain ⟨v15, hv15⟩ : ∃ z : Int32, z = if (v1 < (1 : Int32)) then (1 : Int32) else v14 := ⟨_, rfl⟩
  obtain ⟨v18, hv18⟩ : ∃ z : Int32, z = if ((v11 &&& v6) = v11) then (1 : Int32) else (0 : Int32) := ⟨_, rfl⟩
  obtain ⟨v19, hv19⟩ : ∃ z : Int32, z = if (v1 < (2 : Int32)) then (1 : Int32) else v18 := ⟨_, rfl⟩
  obtain ⟨v22, hv22⟩ : ∃ z : Int32, z = if (v19 = (0 : Int32)) then (0 : Int32) else (1 : Int32) := ⟨_, rfl⟩
  obtain ⟨v23, hv23⟩ : ∃ z : Int32, z = if (v15 = (0 : Int32)) then (0 : Int32) else v22 := ⟨_, rfl⟩
  obtain ⟨_, _, ⟨T24, L24, k24, n24⟩, -, X24, ⟨Lc24, hQ24, l24, y24, z24⟩, st24⟩ := Jvm.LawKit.callS XB hx (y := (⟨"com/example/prune/prune/mdp/Words", "isSubset", "([J[J)Z"⟩ : MethodName)) hown (mvT hZ (hw _ (List.mem_of_getElem? (i := 1) rfl))) (mvT hZ (hw _ (List.mem_of_getElem? (i := 2) rfl))) (mvT hZ (hw _ (List.mem_of_getElem? (i := 3) rfl))) (mvT hZ (hw _ (List.mem_of_getElem? (i := 4) rfl))) (by decide) (backOf (W := 0) (rm1 l Z a0 hw [] b2 b1 (own_lst v1 v10 v11) (own_lst v2 q3 q4) hB n0 (Nat.le_trans (Nat.le_trans Z0 KA.1) KB.1) (own_lst2 _ _ _) (own_lst2 _ _ _) VB VA2) hZ (hw _ (List.mem_of_getElem? (i := 4) rfl)) (hw _ (List.mem_of_getElem? (i := 3) rfl)) (by decide) (by decide)) (g := (mkF m 241 #[.val (.int p1), .val (.long q1), .second, .val (.long q2), .second, .val (.long q3), .second, .val (.long q4), .second, .val (.int v1), .val (.int v2), .val (.long v4), .second, .val (.long v6), .second, .val (.long v10), .second, .val (.long v11), .second, .val (.ref b1), .val (.ref b2), .val (.int v15), .val (.int v19), .val (.int v23)] [(.ref b1), (.ref b2)])) rfl (by rw [hml]; rfl) (argsL := [(.ref b2), (.ref b1)]) (rest := []) (lenOf pd_0_0 rfl) rfl (by show 2 * 0 + _ ≤ _; exact Nat.le_of_eq rfl) (hb hby at_241) (fun _ _ => ⟨rfl, eB, (by decide : 2 + 0 ≤ _), (by decide : 4 + 0 ≤ _)⟩)
  dsimp only [Pt.U, Pt.locs, Pt.cells, Pt.slots] at X24 l24 y24 z24 st24 hQ24
  subst l24 y24 z24
  obtain ⟨rfl, N24q, e24⟩ := hQ24
  have N24 := Fr.app NB N24q
  have hfin : own_sub (own_lst v1 v10 v11) (own_lst v2 q3 q4) = v23 := by
    rw [hv23, hv22, hv19, hv18, hv15, hv14]
    exact own_fin v1 v2 v10 v11 q3 q4 v4 v6 hz9 hz10 hv4 hv6
  obtain ⟨fs, hr, hrun, hended, hW, hsame⟩ := X24.leave (v := some (.int (1 : Int32))) (fun h => by rw [Bd.returns] at h; cases h)
  refine ⟨_, _, pre0 _ ?_, hrun, hended, _, _, rfl, ?_, ⟨_, rfl⟩, hW, hsame.mono (by decide) (by decide)⟩
  · show Steps p.tables e below (s₁.setTop (mkF m 0 #[.val (.int p1), .val (.long q1), .second, .val (.long q2), .second, .val (.long q3), .second, .val (.long q4), .second, .unset, .unset, .unset, .unset, .unset, .unset, .unset, .unset, .unset, .unset, .unset, .unset, .unset, .unset, .unset] [])) _
    refine XS.iloadN X0.here hx rfl (hb hby at_0) rfl ?_
    show Steps p.tables e below (s₁.setTop (mkF m 1 #[.val (.int p1), .val (.long q1), .second, .val (.long q2), .second, .val (.long q3), .second, .val (.long q4), .second, .unset, .unset, .unset, .unset, .unset, .unset, .unset, .unset, .unset, .unset, .unset, .unset, .unset, .unset, .unset] [(.int p1)])) _
    refine XS.iconst X0.here hx rfl (hb hby at_1) ?_
    show Steps p.tables e below (s₁.setTop (mkF m 2 #[.val (.int p1), .val (.long q1), .second, .val (.long q2), .second, .val (.long q3), .second, .val (.long q4), .second, .unset, .unset, .unset, .unset, .unset, .unset, .unset, .unset, .unset, .unset, .unset, .unset, .unset, .unset, .unset] [(.int (3 : Int32)), (.int p1)])) _
    refine XS.iand X0.here hx rfl (hb hby at_2) rfl ?_
    show Steps p.tables e below (s₁.setTop (mkF m 3 #[.val (.int p1), .val (.long q1), .second, .val (.long q2), .second, .val (.long q3), .second, .val (.long q4), .second, .unset, .unset, .unset, .unset, .unset, .unset, .unset, .unset, .unset, .unset, .unset, .unset, .unset, .unset, .unset] [(.int (p1 &&& (3 : Int32)))])) _
    refine XS.iconst X0.here hx rfl (hb hby at_3) ?_
    show Steps p.tables e below (s₁.setTop (mkF m 4 #[.val (.int p1), .val (.long q1), .second, .val (.long q2), .second, .val (.long q3), .second, .val (.long q4), .second, .unset, .unset, .unset, .unset, .unset, .unset, .unset, .unset, .unset, .unset, .unset, .unset, .unset, .unset, .unset] [(.int (3 : Int32)), (.int (p1 &&& (3 : Int32)))])) _
    refine Jvm.RoadKit.iremM X0 hx rfl (hb hby at_4) rfl (by decide) ?_
    show Steps p.tables e below (s₁.setTop (mkF m 5 #[.val (.int p1), .val (.long q1), .second, .val (.long q2), .second, .val (.long q3), .second, .val (.long q4), .second, .unset, .unset, .unset, .unset, .unset, .unset, .unset, .unset, .unset, .unset, .unset, .unset, .unset, .unset, .unset] [(.int ((p1 &&& (3 : Int32)) % (3 : Int32)))])) _
    refine XS.istore X0.here hx rfl (hb hby at_5) rfl (l' := #[.val (.int p1), .val (.long q1), .second, .val (.long q2), .second, .val (.long q3), .second, .val (.long q4), .second, .val (.int ((p1 &&& (3 : Int32)) % (3 : Int32))), .unset, .unset, .unset, .unset, .unset, .unset, .unset, .unset, .unset, .unset, .unset, .unset, .unset, .unset]) rfl ?_
    refine castTop (g' := (mkF m 7 #[.val (.int p1), .val (.long q1), .second, .val (.long q2), .second, .val (.long q3), .second, .val (.long q4), .second, .val (.int v1), .unset, .unset, .unset, .unset, .unset, .unset, .unset, .unset, .unset, .unset, .unset, .unset, .unset, .unset] [])) (by rw [hv1]) ?_
    show Steps p.tables e below (s₁.setTop (mkF m 7 #[.val (.int p1), .val (.long q1), .second, .val (.long q2), .second, .val (.long q3), .second, .val (.long q4), .second, .val (.int v1), .unset, .unset, .unset, .unset, .unset, .unset, .unset, .unset, .unset, .unset, .unset, .unset, .unset, .unset] [])) _
    refine XS.iloadN X0.here hx rfl (hb hby at_7) rfl ?_
    show Steps p.tables e below (s₁.setTop (mkF m 8 #[.val (.int p1), .val (.long q1), .second, .val (.long q2), .second, .val (.long q3), .second, .val (.long q4), .second, .val (.int v1), .unset, .unset, .unset, .unset, .unset, .unset, .unset, .unset, .unset, .unset, .unset, .unset, .unset, .unset] [(.int p1)])) _
    refine XS.iconst X0.here hx rfl (hb hby at_8) ?_
    show Steps p.tables e below (s₁.setTop (mkF m 9 #[.val (.int p1), .val (.long q1), .second, .val (.long q2), .second, .val (.long q3), .second, .val (.long q4), .second, .val (.int v1), .unset, .unset, .unset, .unset, .unset, .unset, .unset, .unset, .unset, .unset, .unset, .unset, .unset, .unset] [(.int (2 : Int32)), (.int p1)])) _
    refine XS.iushr X0.here hx rfl (hb hby at_9) rfl ?_
    show Steps p.tables e below (s₁.setTop (mkF m 10 #[.val (.int p1), .val (.long q1), .second, .val (.long q2), .second, .val (.long q3), .second, .val (.long q4), .second, .val (.int v1), .unset, .unset, .unset, .unset, .unset, .unset, .unset, .unset, .unset, .unset, .unset, .unset, .unset, .unset] [(.int ((p1.toUInt32 >>> ((2 : Int32) &&& 31).toUInt32).toInt32))])) _
    refine XS.iconst X0.here hx rfl (hb hby at_10) ?_
    show Steps p.tables e below (s₁.setTop (mkF m 11 #[.val (.int p1), .val (.long q1), .second, .val (.long q2), .second, .val (.long q3), .second, .val (.long q4), .second, .val (.int v1), .unset, .unset, .unset, .unset, .unset, .unset, .unset, .unset, .unset, .unset, .unset, .unset, .unset, .unset] [(.int (3 : Int32)), (.int ((p1.toUInt32 >>> ((2 : Int32) &&& 31).toUInt32).toInt32))])) _
    refine XS.iand X0.here hx rfl (hb hby at_11) rfl ?_
    show Steps p.tables e below (s₁.setTop (mkF m 12 #[.val (.int p1), .val (.long q1), .second, .val (.long q2), .second, .val (.long q3), .second, .val (.long q4), .second, .val (.int v1), .unset, .unset, .unset, .unset, .unset, .unset, .unset, .unset, .unset, .unset, .unset, .unset, .unset, .unset] [(.int (((p1.toUInt32 >>> ((2 : Int32) &&& 31).toUInt32).toInt32) &&& (3 : Int32)))])) _
    refine XS.iconst X0.here hx rfl (hb hby at_12) ?_
    show Steps p.tables e below (s₁.setTop (mkF m 13 #[.val (.int p1), .val (.long q1), .second, .val (.long q2), .second, .val (.long q3), .second, .val (.long q4), .second, .val (.int v1), .unset, .unset, .unset, .unset, .unset, .unset, .unset, .unset, .unset, .unset, .unset, .unset, .unset, .unset] [(.int (3 : Int32)), (.int (((p1.toUInt32 >>> ((2 : Int32) &&& 31).toUInt32).toInt32) &&& (3 : Int32)))])) _
    refine Jvm.RoadKit.iremM X0 hx rfl (hb hby at_13) rfl (by decide) ?_
    show Steps p.tables e below (s₁.setTop (mkF m 14 #[.val (.int p1), .val (.long q1), .second, .val (.long q2), .second, .val (.long q3), .second, .val (.long q4), .second, .val (.int v1), .unset, .unset, .unset, .unset, .unset, .unset, .unset, .unset, .unset, .unset, .unset, .unset, .unset, .unset] [(.int ((((p1.toUInt32 >>> ((2 : Int32) &&& 31).toUInt32).toInt32) &&& (3 : Int32)) % (3 : Int32)))])) _
    refine XS.istore X0.here hx rfl (hb hby at_14) rfl (l' := #[.val (.int p1), .val (.long q1), .second, .val (.long q2), .second, .val (.long q3), .second, .val (.long q4), .second, .val (.int v1), .val (.int ((((p1.toUInt32 >>> ((2 : Int32) &&& 31).toUInt32).toInt32) &&& (3 : Int32)) % (3 : Int32))), .unset, .unset, .unset, .unset, .unset, .unset, .unset, .unset, .unset, .unset, .unset, .unset, .unset]) rfl ?_
    refine castTop (g' := (mkF m 16 #[.val (.int p1), .val (.long q1), .second, .val (.long q2), .second, .val (.long q3), .second, .val (.long q4), .second, .val (.int v1), .val (.int v2), .unset, .unset, .unset, .unset, .unset, .unset, .unset, .unset, .unset, .unset, .unset, .unset, .unset] [])) (by rw [hv2]) ?_
    show Steps p.tables e below (s₁.setTop (mkF m 16 #[.val (.int p1), .val (.long q1), .second, .val (.long q2), .second, .val (.long q3), .second, .val (.long q4), .second, .val (.int v1), .val (.int v2), .unset, .unset, .unset, .unset, .unset, .unset, .unset, .unset, .unset, .unset, .unset, .unset, .unset] [])) _
    refine XS.iload X0.here hx rfl (hb hby at_16) rfl ?_
    have sg3 : ∀ t, Steps p.tables e below (s₁.setTop (mkF m 27 #[.val (.int p1), .val (.long q1), .second, .val (.long q2), .second, .val (.long q3), .second, .val (.long q4), .second, .val (.int v1), .val (.int v2), .unset, .unset, .unset, .unset, .unset, .unset, .unset, .unset, .unset, .unset, .unset, .unset, .unset] [(.long v4)])) t → Steps p.tables e below (s₁.setTop (mkF m 18 #[.val (.int p1), .val (.long q1), .second, .val (.long q2), .second, .val (.long q3), .second, .val (.long q4), .second, .val (.int v1), .val (.int v2), .unset, .unset, .unset, .unset, .unset, .unset, .unset, .unset, .unset, .unset, .unset, .unset, .unset] [(.int v2)])) t := by
      intro t k
      by_cases hc3 : ((0 : Int32) < v2)
      · rw [show v4 = q3 from by rw [hv4, if_pos hc3]] at k
        show Steps p.tables e below (s₁.setTop (mkF m 18 #[.val (.int p1), .val (.long q1), .second, .val (.long q2), .second, .val (.long q3), .second, .val (.long q4), .second, .val (.int v1), .val (.int v2), .unset, .unset, .unset, .unset, .unset, .unset, .unset, .unset, .unset, .unset, .unset, .unset, .unset] [(.int v2)])) _
        refine XS.ifNo X0.here hx rfl (hb hby at_18) rfl ((if0 _ _).trans (tlt hc3).2.2.2) ?_
        show Steps p.tables e below (s₁.setTop (mkF m 21 #[.val (.int p1), .val (.long q1), .second, .val (.long q2), .second, .val (.long q3), .second, .val (.long q4), .second, .val (.int v1), .val (.int v2), .unset, .unset, .unset, .unset, .unset, .unset, .unset, .unset, .unset, .unset, .unset, .unset, .unset] [])) _
        refine XS.lload X0.here hx rfl (hb hby at_21) rfl ?_
        show Steps p.tables e below (s₁.setTop (mkF m 23 #[.val (.int p1), .val (.long q1), .second, .val (.long q2), .second, .val (.long q3), .second, .val (.long q4), .second, .val (.int v1), .val (.int v2), .unset, .unset, .unset, .unset, .unset, .unset, .unset, .unset, .unset, .unset, .unset, .unset, .unset] [(.long q3)])) _
        refine XS.goto X0.here hx rfl (pc0 := 23) (pc' := 27) rfl (hb hby at_23) (by decide) (by decide) ?_
        exact k
      · rw [show v4 = (0 : Int64) from by rw [hv4, if_neg hc3]] at k
        show Steps p.tables e below (s₁.setTop (mkF m 18 #[.val (.int p1), .val (.long q1), .second, .val (.long q2), .second, .val (.long q3), .second, .val (.long q4), .second, .val (.int v1), .val (.int v2), .unset, .unset, .unset, .unset, .unset, .unset, .unset, .unset, .unset, .unset, .unset, .unset, .unset] [(.int v2)])) _
        refine XS.ifYes X0.here hx rfl (pc0 := 18) (pc' := 26) rfl (hb hby at_18) rfl ((if0 _ _).trans (flt hc3).2.2.2) (by decide) (by decide) ?_
        show Steps p.tables e below (s₁.setTop (mkF m 26 #[.val (.int p1), .val (.long q1), .second, .val (.long q2), .second, .val (.long q3), .second, .val (.long q4), .second, .val (.int v1), .val (.int v2), .unset, .unset, .unset, .unset, .unset, .unset, .unset, .unset, .unset, .unset, .unset, .unset, .unset] [])) _
        refine XS.lconst X0.here hx rfl (hb hby at_26) ?_
        exact k
    refine sg3 _ ?_
    show Steps p.tables e below (s₁.setTop (mkF m 27 #[.val (.int p1), .val (.long q1), .second, .val (.long q2), .second, .val (.long q3), .second, .val (.long q4), .second, .val (.int v1), .val (.int v2), .unset, .unset, .unset, .unset, .unset, .unset, .unset, .unset, .unset, .unset, .unset, .unset, .unset] [(.long v4)])) _
    refine XS.lstore X0.here hx rfl (hb hby at_27) rfl (l' := #[.val (.int p1), .val (.long q1), .second, .val (.long q2), .second, .val (.long q3), .second, .val (.long q4), .second, .val (.int v1), .val (.int v2), .val (.long v4), .second, .unset, .unset, .unset, .unset, .unset, .unset, .unset, .unset, .unset, .unset, .unset]) rfl ?_
    show Steps p.tables e below (s₁.setTop (mkF m 29 #[.val (.int p1), .val (.long q1), .second, .val (.long q2), .second, .val (.long q3), .second, .val (.long q4), .second, .val (.int v1), .val (.int v2), .val (.long v4), .second, .unset, .unset, .unset, .unset, .unset, .unset, .unset, .unset, .unset, .unset, .unset] [])) _
    refine XS.iload X0.here hx rfl (hb hby at_29) rfl ?_
    show Steps p.tables e below (s₁.setTop (mkF m 31 #[.val (.int p1), .val (.long q1), .second, .val (.long q2), .second, .val (.long q3), .second, .val (.long q4), .second, .val (.int v1), .val (.int v2), .val (.long v4), .second, .unset, .unset, .unset, .unset, .unset, .unset, .unset, .unset, .unset, .unset, .unset] [(.int v2)])) _
    refine XS.iconst X0.here hx rfl (hb hby at_31) ?_
    have sg5 : ∀ t, Steps p.tables e below (s₁.setTop (mkF m 41 #[.val (.int p1), .val (.long q1), .second, .val (.long q2), .second, .val (.long q3), .second, .val (.long q4), .second, .val (.int v1), .val (.int v2), .val (.long v4), .second, .unset, .unset, .unset, .unset, .unset, .unset, .unset, .unset, .unset, .unset, .unset] [(.long v6)])) t → Steps p.tables e below (s₁.setTop (mkF m 32 #[.val (.int p1), .val (.long q1), .second, .val (.long q2), .second, .val (.long q3), .second, .val (.long q4), .second, .val (.int v1), .val (.int v2), .val (.long v4), .second, .unset, .unset, .unset, .unset, .unset, .unset, .unset, .unset, .unset, .unset, .unset] [(.int (1 : Int32)), (.int v2)])) t := by
      intro t k
      by_cases hc5 : ((1 : Int32) < v2)
      · rw [show v6 = q4 from by rw [hv6, if_pos hc5]] at k
        show Steps p.tables e below (s₁.setTop (mkF m 32 #[.val (.int p1), .val (.long q1), .second, .val (.long q2), .second, .val (.long q3), .second, .val (.long q4), .second, .val (.int v1), .val (.int v2), .val (.long v4), .second, .unset, .unset, .unset, .unset, .unset, .unset, .unset, .unset, .unset, .unset, .unset] [(.int (1 : Int32)), (.int v2)])) _
        refine XS.icmpNo X0.here hx rfl (hb hby at_32) rfl (tlt hc5).2.2.2 ?_
        show Steps p.tables e below (s₁.setTop (mkF m 35 #[.val (.int p1), .val (.long q1), .second, .val (.long q2), .second, .val (.long q3), .second, .val (.long q4), .second, .val (.int v1), .val (.int v2), .val (.long v4), .second, .unset, .unset, .unset, .unset, .unset, .unset, .unset, .unset, .unset, .unset, .unset] [])) _
        refine XS.lload X0.here hx rfl (hb hby at_35) rfl ?_
        show Steps p.tables e below (s₁.setTop (mkF m 37 #[.val (.int p1), .val (.long q1), .second, .val (.long q2), .second, .val (.long q3), .second, .val (.long q4), .second, .val (.int v1), .val (.int v2), .val (.long v4), .second, .unset, .unset, .unset, .unset, .unset, .unset, .unset, .unset, .unset, .unset, .unset] [(.long q4)])) _
        refine XS.goto X0.here hx rfl (pc0 := 37) (pc' := 41) rfl (hb hby at_37) (by decide) (by decide) ?_
        exact k
      · rw [show v6 = (0 : Int64) from by rw [hv6, if_neg hc5]] at k
        show Steps p.tables e below (s₁.setTop (mkF m 32 #[.val (.int p1), .val (.long q1), .second, .val (.long q2), .second, .val (.long q3), .second, .val (.long q4), .second, .val (.int v1), .val (.int v2), .val (.long v4), .second, .unset, .unset, .unset, .unset, .unset, .unset, .unset, .unset, .unset, .unset, .unset] [(.int (1 : Int32)), (.int v2)])) _
        refine XS.icmpYes X0.here hx rfl (pc0 := 32) (pc' := 40) rfl (hb hby at_32) rfl (flt hc5).2.2.2 (by decide) (by decide) ?_
        show Steps p.tables e below (s₁.setTop (mkF m 40 #[.val (.int p1), .val (.long q1), .second, .val (.long q2), .second, .val (.long q3), .second, .val (.long q4), .second, .val (.int v1), .val (.int v2), .val (.long v4), .second, .unset, .unset, .unset, .unset, .unset, .unset, .unset, .unset, .unset, .unset, .unset] [])) _
        refine XS.lconst X0.here hx rfl (hb hby at_40) ?_
        exact k
    refine sg5 _ ?_
    show Steps p.tables e below (s₁.setTop (mkF m 41 #[.val (.int p1), .val (.long q1), .second, .val (.long q2), .second, .val (.long q3), .second, .val (.long q4), .second, .val (.int v1), .val (.int v2), .val (.long v4), .second, .unset, .unset, .unset, .unset, .unset, .unset, .unset, .unset, .unset, .unset, .unset] [(.long v6)])) _
    refine XS.lstore X0.here hx rfl (hb hby at_41) rfl (l' := #[.val (.int p1), .val (.long q1), .second, .val (.long q2), .second, .val (.long q3), .second, .val (.long q4), .second, .val (.int v1), .val (.int v2), .val (.long v4), .second, .val (.long v6), .second, .unset, .unset, .unset, .unset, .unset, .unset, .unset, .unset, .unset]) rfl ?_
    show Steps p.tables e below (s₁.setTop (mkF m 43 #[.val (.int p1), .val (.long q1), .second, .val (.long q2), .second, .val (.long q3), .second, .val (.long q4), .second, .val (.int v1), .val (.int v2), .val (.long v4), .second, .val (.long v6), .second, .unset, .unset, .unset, .unset, .unset, .unset, .unset, .unset, .unset] [])) _
    refine XS.lloadN X0.here hx rfl (hb hby at_43) rfl ?_
    show Steps p.tables e below (s₁.setTop (mkF m 44 #[.val (.int p1), .val (.long q1), .second, .val (.long q2), .second, .val (.long q3), .second, .val (.long q4), .second, .val (.int v1), .val (.int v2), .val (.long v4), .second, .val (.long v6), .second, .unset, .unset, .unset, .unset, .unset, .unset, .unset, .unset, .unset] [(.long q1)])) _
    refine XS.lstore X0.here hx rfl (hb hby at_44) rfl (l' := #[.val (.int p1), .val (.long q1), .second, .val (.long q2), .second, .val (.long q3), .second, .val (.long q4), .second, .val (.int v1), .val (.int v2), .val (.long v4), .second, .val (.long v6), .second, .val (.long q1), .second, .unset, .unset, .unset, .unset, .unset, .unset, .unset]) rfl ?_
    show Steps p.tables e below (s₁.setTop (mkF m 46 #[.val (.int p1), .val (.long q1), .second, .val (.long q2), .second, .val (.long q3), .second, .val (.long q4), .second, .val (.int v1), .val (.int v2), .val (.long v4), .second, .val (.long v6), .second, .val (.long q1), .second, .unset, .unset, .unset, .unset, .unset, .unset, .unset] [])) _
    refine XS.lloadN X0.here hx rfl (hb hby at_46) rfl ?_
    show Steps p.tables e below (s₁.setTop (mkF m 47 #[.val (.int p1), .val (.long q1), .second, .val (.long q2), .second, .val (.long q3), .second, .val (.long q4), .second, .val (.int v1), .val (.int v2), .val (.long v4), .second, .val (.long v6), .second, .val (.long q1), .second, .unset, .unset, .unset, .unset, .unset, .unset, .unset] [(.long q2)])) _
    refine XS.lstore X0.here hx rfl (hb hby at_47) rfl (l' := #[.val (.int p1), .val (.long q1), .second, .val (.long q2), .second, .val (.long q3), .second, .val (.long q4), .second, .val (.int v1), .val (.int v2), .val (.long v4), .second, .val (.long v6), .second, .val (.long q1), .second, .val (.long q2), .second, .unset, .unset, .unset, .unset, .unset]) rfl ?_
    show Steps p.tables e below (s₁.setTop (mkF m 49 #[.val (.int p1), .val (.long q1), .second, .val (.long q2), .second, .val (.long q3), .second, .val (.long q4), .second, .val (.int v1), .val (.int v2), .val (.long v4), .second, .val (.long v6), .second, .val (.long q1), .second, .val (.long q2), .second, .unset, .unset, .unset, .unset, .unset] [])) _
    refine XS.iloadN X0.here hx rfl (hb hby at_49) rfl ?_
    show Steps p.tables e below (s₁.setTop (mkF m 50 #[.val (.int p1), .val (.long q1), .second, .val (.long q2), .second, .val (.long q3), .second, .val (.long q4), .second, .val (.int v1), .val (.int v2), .val (.long v4), .second, .val (.long v6), .second, .val (.long q1), .second, .val (.long q2), .second, .unset, .unset, .unset, .unset, .unset] [(.int p1)])) _
    refine XS.iconst X0.here hx rfl (hb hby at_50) ?_
    show Steps p.tables e below (s₁.setTop (mkF m 51 #[.val (.int p1), .val (.long q1), .second, .val (.long q2), .second, .val (.long q3), .second, .val (.long q4), .second, .val (.int v1), .val (.int v2), .val (.long v4), .second, .val (.long v6), .second, .val (.long q1), .second, .val (.long q2), .second, .unset, .unset, .unset, .unset, .unset] [(.int (4 : Int32)), (.int p1)])) _
    refine XS.iushr X0.here hx rfl (hb hby at_51) rfl ?_
    show Steps p.tables e below (s₁.setTop (mkF m 52 #[.val (.int p1), .val (.long q1), .second, .val (.long q2), .second, .val (.long q3), .second, .val (.long q4), .second, .val (.int v1), .val (.int v2), .val (.long v4), .second, .val (.long v6), .second, .val (.long q1), .second, .val (.long q2), .second, .unset, .unset, .unset, .unset, .unset] [(.int ((p1.toUInt32 >>> ((4 : Int32) &&& 31).toUInt32).toInt32))])) _
    refine XS.iconst X0.here hx rfl (hb hby at_52) ?_
    show Steps p.tables e below (s₁.setTop (mkF m 53 #[.val (.int p1), .val (.long q1), .second, .val (.long q2), .second, .val (.long q3), .second, .val (.long q4), .second, .val (.int v1), .val (.int v2), .val (.long v4), .second, .val (.long v6), .second, .val (.long q1), .second, .val (.long q2), .second, .unset, .unset, .unset, .unset, .unset] [(.int (1 : Int32)), (.int ((p1.toUInt32 >>> ((4 : Int32) &&& 31).toUInt32).toInt32))])) _
    refine XS.iand X0.here hx rfl (hb hby at_53) rfl ?_
    have sg7 : ∀ t, Steps p.tables e below (s₁.setTop (mkF m 69 #[.val (.int p1), .val (.long q1), .second, .val (.long q2), .second, .val (.long q3), .second, .val (.long q4), .second, .val (.int v1), .val (.int v2), .val (.long v4), .second, .val (.long v6), .second, .val (.long v10), .second, .val (.long v11), .second, .unset, .unset, .unset, .unset, .unset] [])) t → Steps p.tables e below (s₁.setTop (mkF m 54 #[.val (.int p1), .val (.long q1), .second, .val (.long q2), .second, .val (.long q3), .second, .val (.long q4), .second, .val (.int v1), .val (.int v2), .val (.long v4), .second, .val (.long v6), .second, .val (.long q1), .second, .val (.long q2), .second, .unset, .unset, .unset, .unset, .unset] [(.int (((p1.toUInt32 >>> ((4 : Int32) &&& 31).toUInt32).toInt32) &&& (1 : Int32)))])) t := by
      intro t k
      by_cases hc7 : ((((p1.toUInt32 >>> ((4 : Int32) &&& 31).toUInt32).toInt32) &&& (1 : Int32)) = (0 : Int32))
      · rw [show v10 = q1 from by rw [hv10, if_pos hc7]] at k
        rw [show v11 = q2 from by rw [hv11, if_pos hc7]] at k
        show Steps p.tables e below (s₁.setTop (mkF m 54 #[.val (.int p1), .val (.long q1), .second, .val (.long q2), .second, .val (.long q3), .second, .val (.long q4), .second, .val (.int v1), .val (.int v2), .val (.long v4), .second, .val (.long v6), .second, .val (.long q1), .second, .val (.long q2), .second, .unset, .unset, .unset, .unset, .unset] [(.int (((p1.toUInt32 >>> ((4 : Int32) &&& 31).toUInt32).toInt32) &&& (1 : Int32)))])) _
        refine XS.ifYes X0.here hx rfl (pc0 := 54) (pc' := 69) rfl (hb hby at_54) rfl ((if0 _ _).trans (teq hc7).1) (by decide) (by decide) ?_
        exact k
      · rw [show v10 = v8 from by rw [hv10, if_neg hc7]] at k
        rw [show v11 = v9 from by rw [hv11, if_neg hc7]] at k
        show Steps p.tables e below (s₁.setTop (mkF m 54 #[.val (.int p1), .val (.long q1), .second, .val (.long q2), .second, .val (.long q3), .second, .val (.long q4), .second, .val (.int v1), .val (.int v2), .val (.long v4), .second, .val (.long v6), .second, .val (.long q1), .second, .val (.long q2), .second, .unset, .unset, .unset, .unset, .unset] [(.int (((p1.toUInt32 >>> ((4 : Int32) &&& 31).toUInt32).toInt32) &&& (1 : Int32)))])) _
        refine XS.ifNo X0.here hx rfl (hb hby at_54) rfl ((if0 _ _).trans (feq hc7).1) ?_
        show Steps p.tables e below (s₁.setTop (mkF m 57 #[.val (.int p1), .val (.long q1), .second, .val (.long q2), .second, .val (.long q3), .second, .val (.long q4), .second, .val (.int v1), .val (.int v2), .val (.long v4), .second, .val (.long v6), .second, .val (.long q1), .second, .val (.long q2), .second, .unset, .unset, .unset, .unset, .unset] [])) _
        refine XS.lloadN X0.here hx rfl (hb hby at_57) rfl ?_
        show Steps p.tables e below (s₁.setTop (mkF m 58 #[.val (.int p1), .val (.long q1), .second, .val (.long q2), .second, .val (.long q3), .second, .val (.long q4), .second, .val (.int v1), .val (.int v2), .val (.long v4), .second, .val (.long v6), .second, .val (.long q1), .second, .val (.long q2), .second, .unset, .unset, .unset, .unset, .unset] [(.long q1)])) _
        refine XS.lload X0.here hx rfl (hb hby at_58) rfl ?_
        show Steps p.tables e below (s₁.setTop (mkF m 60 #[.val (.int p1), .val (.long q1), .second, .val (.long q2), .second, .val (.long q3), .second, .val (.long q4), .second, .val (.int v1), .val (.int v2), .val (.long v4), .second, .val (.long v6), .second, .val (.long q1), .second, .val (.long q2), .second, .unset, .unset, .unset, .unset, .unset] [(.long v4), (.long q1)])) _
        refine XS.land X0.here hx rfl (hb hby at_60) rfl ?_
        show Steps p.tables e below (s₁.setTop (mkF m 61 #[.val (.int p1), .val (.long q1), .second, .val (.long q2), .second, .val (.long q3), .second, .val (.long q4), .second, .val (.int v1), .val (.int v2), .val (.long v4), .second, .val (.long v6), .second, .val (.long q1), .second, .val (.long q2), .second, .unset, .unset, .unset, .unset, .unset] [(.long (q1 &&& v4))])) _
        refine XS.lstore X0.here hx rfl (hb hby at_61) rfl (l' := #[.val (.int p1), .val (.long q1), .second, .val (.long q2), .second, .val (.long q3), .second, .val (.long q4), .second, .val (.int v1), .val (.int v2), .val (.long v4), .second, .val (.long v6), .second, .val (.long (q1 &&& v4)), .second, .val (.long q2), .second, .unset, .unset, .unset, .unset, .unset]) rfl ?_
        refine castTop (g' := (mkF m 63 #[.val (.int p1), .val (.long q1), .second, .val (.long q2), .second, .val (.long q3), .second, .val (.long q4), .second, .val (.int v1), .val (.int v2), .val (.long v4), .second, .val (.long v6), .second, .val (.long v8), .second, .val (.long q2), .second, .unset, .unset, .unset, .unset, .unset] [])) (by rw [hv8]) ?_
        show Steps p.tables e below (s₁.setTop (mkF m 63 #[.val (.int p1), .val (.long q1), .second, .val (.long q2), .second, .val (.long q3), .second, .val (.long q4), .second, .val (.int v1), .val (.int v2), .val (.long v4), .second, .val (.long v6), .second, .val (.long v8), .second, .val (.long q2), .second, .unset, .unset, .unset, .unset, .unset] [])) _
        refine XS.lloadN X0.here hx rfl (hb hby at_63) rfl ?_
        show Steps p.tables e below (s₁.setTop (mkF m 64 #[.val (.int p1), .val (.long q1), .second, .val (.long q2), .second, .val (.long q3), .second, .val (.long q4), .second, .val (.int v1), .val (.int v2), .val (.long v4), .second, .val (.long v6), .second, .val (.long v8), .second, .val (.long q2), .second, .unset, .unset, .unset, .unset, .unset] [(.long q2)])) _
        refine XS.lload X0.here hx rfl (hb hby at_64) rfl ?_
        show Steps p.tables e below (s₁.setTop (mkF m 66 #[.val (.int p1), .val (.long q1), .second, .val (.long q2), .second, .val (.long q3), .second, .val (.long q4), .second, .val (.int v1), .val (.int v2), .val (.long v4), .second, .val (.long v6), .second, .val (.long v8), .second, .val (.long q2), .second, .unset, .unset, .unset, .unset, .unset] [(.long v6), (.long q2)])) _
        refine XS.land X0.here hx rfl (hb hby at_66) rfl ?_
        show Steps p.tables e below (s₁.setTop (mkF m 67 #[.val (.int p1), .val (.long q1), .second, .val (.long q2), .second, .val (.long q3), .second, .val (.long q4), .second, .val (.int v1), .val (.int v2), .val (.long v4), .second, .val (.long v6), .second, .val (.long v8), .second, .val (.long q2), .second, .unset, .unset, .unset, .unset, .unset] [(.long (q2 &&& v6))])) _
        refine XS.lstore X0.here hx rfl (hb hby at_67) rfl (l' := #[.val (.int p1), .val (.long q1), .second, .val (.long q2), .second, .val (.long q3), .second, .val (.long q4), .second, .val (.int v1), .val (.int v2), .val (.long v4), .second, .val (.long v6), .second, .val (.long v8), .second, .val (.long (q2 &&& v6)), .second, .unset, .unset, .unset, .unset, .unset]) rfl ?_
        refine castTop (g' := (mkF m 69 #[.val (.int p1), .val (.long q1), .second, .val (.long q2), .second, .val (.long q3), .second, .val (.long q4), .second, .val (.int v1), .val (.int v2), .val (.long v4), .second, .val (.long v6), .second, .val (.long v8), .second, .val (.long v9), .second, .unset, .unset, .unset, .unset, .unset] [])) (by rw [hv9]) ?_
        exact k
    refine sg7 _ ?_
    show Steps p.tables e below (s₁.setTop (mkF m 69 #[.val (.int p1), .val (.long q1), .second, .val (.long q2), .second, .val (.long q3), .second, .val (.long q4), .second, .val (.int v1), .val (.int v2), .val (.long v4), .second, .val (.long v6), .second, .val (.long v10), .second, .val (.long v11), .second, .unset, .unset, .unset, .unset, .unset] [])) _
    refine XS.iloadN X0.here hx rfl (hb hby at_69) rfl ?_
    show Steps p.tables e below (s₁.setTop (mkF m 70 #[.val (.int p1), .val (.long q1), .second, .val (.long q2), .second, .val (.long q3), .second, .val (.long q4), .second, .val (.int v1), .val (.int v2), .val (.long v4), .second, .val (.long v6), .second, .val (.long v10), .second, .val (.long v11), .second, .unset, .unset, .unset, .unset, .unset] [(.int p1)])) _
    refine XS.iconst X0.here hx rfl (hb hby at_70) ?_
    show Steps p.tables e below (s₁.setTop (mkF m 71 #[.val (.int p1), .val (.long q1), .second, .val (.long q2), .second, .val (.long q3), .second, .val (.long q4), .second, .val (.int v1), .val (.int v2), .val (.long v4), .second, .val (.long v6), .second, .val (.long v10), .second, .val (.long v11), .second, .unset, .unset, .unset, .unset, .unset] [(.int (5 : Int32)), (.int p1)])) _
    refine XS.iushr X0.here hx rfl (hb hby at_71) rfl ?_
    show Steps p.tables e below (s₁.setTop (mkF m 72 #[.val (.int p1), .val (.long q1), .second, .val (.long q2), .second, .val (.long q3), .second, .val (.long q4), .second, .val (.int v1), .val (.int v2), .val (.long v4), .second, .val (.long v6), .second, .val (.long v10), .second, .val (.long v11), .second, .unset, .unset, .unset, .unset, .unset] [(.int ((p1.toUInt32 >>> ((5 : Int32) &&& 31).toUInt32).toInt32))])) _
    refine XS.iconst X0.here hx rfl (hb hby at_72) ?_
    show Steps p.tables e below (s₁.setTop (mkF m 73 #[.val (.int p1), .val (.long q1), .second, .val (.long q2), .second, .val (.long q3), .second, .val (.long q4), .second, .val (.int v1), .val (.int v2), .val (.long v4), .second, .val (.long v6), .second, .val (.long v10), .second, .val (.long v11), .second, .unset, .unset, .unset, .unset, .unset] [(.int (1 : Int32)), (.int ((p1.toUInt32 >>> ((5 : Int32) &&& 31).toUInt32).toInt32))])) _
    refine XS.iand X0.here hx rfl (hb hby at_73) rfl ?_
    show Steps p.tables e below (s₁.setTop (mkF m 74 #[.val (.int p1), .val (.long q1), .second, .val (.long q2), .second, .val (.long q3), .second, .val (.long q4), .second, .val (.int v1), .val (.int v2), .val (.long v4), .second, .val (.long v6), .second, .val (.long v10), .second, .val (.long v11), .second, .unset, .unset, .unset, .unset, .unset] [(.int (((p1.toUInt32 >>> ((5 : Int32) &&& 31).toUInt32).toInt32) &&& (1 : Int32)))])) _
    refine XS.ifYes X0.here hx rfl (pc0 := 74) (pc' := 114) rfl (hb hby at_74) rfl ((if0 _ _).trans (teq hb5).1) (by decide) (by decide) ?_
    show Steps p.tables e below (s₁.setTop (mkF m 114 #[.val (.int p1), .val (.long q1), .second, .val (.long q2), .second, .val (.long q3), .second, .val (.long q4), .second, .val (.int v1), .val (.int v2), .val (.long v4), .second, .val (.long v6), .second, .val (.long v10), .second, .val (.long v11), .second, .unset, .unset, .unset, .unset, .unset] [])) _
    refine stA _ ?_
    show Steps p.tables e below (TA.setTop (mkF m 143 #[.val (.int p1), .val (.long q1), .second, .val (.long q2), .second, .val (.long q3), .second, .val (.long q4), .second, .val (.int v1), .val (.int v2), .val (.long v4), .second, .val (.long v6), .second, .val (.long v10), .second, .val (.long v11), .second, .val (.ref b1), .unset, .unset, .unset, .unset] [])) _
    refine stB _ ?_
    show Steps p.tables e below (TB.setTop (mkF m 172 #[.val (.int p1), .val (.long q1), .second, .val (.long q2), .second, .val (.long q3), .second, .val (.long q4), .second, .val (.int v1), .val (.int v2), .val (.long v4), .second, .val (.long v6), .second, .val (.long v10), .second, .val (.long v11), .second, .val (.ref b1), .val (.ref b2), .unset, .unset, .unset] [])) _
    refine XS.iload XB.here hx rfl (hb hby at_172) rfl ?_
    show Steps p.tables e below (TB.setTop (mkF m 174 #[.val (.int p1), .val (.long q1), .second, .val (.long q2), .second, .val (.long q3), .second, .val (.long q4), .second, .val (.int v1), .val (.int v2), .val (.long v4), .second, .val (.long v6), .second, .val (.long v10), .second, .val (.long v11), .second, .val (.ref b1), .val (.ref b2), .unset, .unset, .unset] [(.int v1)])) _
    refine XS.iconst XB.here hx rfl (hb hby at_174) ?_
    have sg12 : ∀ t, Steps p.tables e below (TB.setTop (mkF m 194 #[.val (.int p1), .val (.long q1), .second, .val (.long q2), .second, .val (.long q3), .second, .val (.long q4), .second, .val (.int v1), .val (.int v2), .val (.long v4), .second, .val (.long v6), .second, .val (.long v10), .second, .val (.long v11), .second, .val (.ref b1), .val (.ref b2), .unset, .unset, .unset] [(.int v15)])) t → Steps p.tables e below (TB.setTop (mkF m 175 #[.val (.int p1), .val (.long q1), .second, .val (.long q2), .second, .val (.long q3), .second, .val (.long q4), .second, .val (.int v1), .val (.int v2), .val (.long v4), .second, .val (.long v6), .second, .val (.long v10), .second, .val (.long v11), .second, .val (.ref b1), .val (.ref b2), .unset, .unset, .unset] [(.int (1 : Int32)), (.int v1)])) t := by
      intro t k
      by_cases hc12 : (v1 < (1 : Int32))
      · rw [show v15 = (1 : Int32) from by rw [hv15, if_pos hc12]] at k
        show Steps p.tables e below (TB.setTop (mkF m 175 #[.val (.int p1), .val (.long q1), .second, .val (.long q2), .second, .val (.long q3), .second, .val (.long q4), .second, .val (.int v1), .val (.int v2), .val (.long v4), .second, .val (.long v6), .second, .val (.long v10), .second, .val (.long v11), .second, .val (.ref b1), .val (.ref b2), .unset, .unset, .unset] [(.int (1 : Int32)), (.int v1)])) _
        refine XS.icmpYes XB.here hx rfl (pc0 := 175) (pc' := 189) rfl (hb hby at_175) rfl (tlt hc12).1 (by decide) (by decide) ?_
        show Steps p.tables e below (TB.setTop (mkF m 189 #[.val (.int p1), .val (.long q1), .second, .val (.long q2), .second, .val (.long q3), .second, .val (.long q4), .second, .val (.int v1), .val (.int v2), .val (.long v4), .second, .val (.long v6), .second, .val (.long v10), .second, .val (.long v11), .second, .val (.ref b1), .val (.ref b2), .unset, .unset, .unset] [])) _
        refine XS.iconst XB.here hx rfl (hb hby at_189) ?_
        show Steps p.tables e below (TB.setTop (mkF m 190 #[.val (.int p1), .val (.long q1), .second, .val (.long q2), .second, .val (.long q3), .second, .val (.long q4), .second, .val (.int v1), .val (.int v2), .val (.long v4), .second, .val (.long v6), .second, .val (.long v10), .second, .val (.long v11), .second, .val (.ref b1), .val (.ref b2), .unset, .unset, .unset] [(.int (1 : Int32))])) _
        refine XS.goto XB.here hx rfl (pc0 := 190) (pc' := 194) rfl (hb hby at_190) (by decide) (by decide) ?_
        exact k
      · rw [show v15 = v14 from by rw [hv15, if_neg hc12]] at k
        show Steps p.tables e below (TB.setTop (mkF m 175 #[.val (.int p1), .val (.long q1), .second, .val (.long q2), .second, .val (.long q3), .second, .val (.long q4), .second, .val (.int v1), .val (.int v2), .val (.long v4), .second, .val (.long v6), .second, .val (.long v10), .second, .val (.long v11), .second, .val (.ref b1), .val (.ref b2), .unset, .unset, .unset] [(.int (1 : Int32)), (.int v1)])) _
        refine XS.icmpNo XB.here hx rfl (hb hby at_175) rfl (flt hc12).1 ?_
        show Steps p.tables e below (TB.setTop (mkF m 178 #[.val (.int p1), .val (.long q1), .second, .val (.long q2), .second, .val (.long q3), .second, .val (.long q4), .second, .val (.int v1), .val (.int v2), .val (.long v4), .second, .val (.long v6), .second, .val (.long v10), .second, .val (.long v11), .second, .val (.ref b1), .val (.ref b2), .unset, .unset, .unset] [])) _
        refine XS.lload XB.here hx rfl (hb hby at_178) rfl ?_
        show Steps p.tables e below (TB.setTop (mkF m 180 #[.val (.int p1), .val (.long q1), .second, .val (.long q2), .second, .val (.long q3), .second, .val (.long q4), .second, .val (.int v1), .val (.int v2), .val (.long v4), .second, .val (.long v6), .second, .val (.long v10), .second, .val (.long v11), .second, .val (.ref b1), .val (.ref b2), .unset, .unset, .unset] [(.long v10)])) _
        refine XS.lload XB.here hx rfl (hb hby at_180) rfl ?_
        show Steps p.tables e below (TB.setTop (mkF m 182 #[.val (.int p1), .val (.long q1), .second, .val (.long q2), .second, .val (.long q3), .second, .val (.long q4), .second, .val (.int v1), .val (.int v2), .val (.long v4), .second, .val (.long v6), .second, .val (.long v10), .second, .val (.long v11), .second, .val (.ref b1), .val (.ref b2), .unset, .unset, .unset] [(.long v4), (.long v10)])) _
        refine XS.land XB.here hx rfl (hb hby at_182) rfl ?_
        show Steps p.tables e below (TB.setTop (mkF m 183 #[.val (.int p1), .val (.long q1), .second, .val (.long q2), .second, .val (.long q3), .second, .val (.long q4), .second, .val (.int v1), .val (.int v2), .val (.long v4), .second, .val (.long v6), .second, .val (.long v10), .second, .val (.long v11), .second, .val (.ref b1), .val (.ref b2), .unset, .unset, .unset] [(.long (v10 &&& v4))])) _
        refine XS.lload XB.here hx rfl (hb hby at_183) rfl ?_
        show Steps p.tables e below (TB.setTop (mkF m 185 #[.val (.int p1), .val (.long q1), .second, .val (.long q2), .second, .val (.long q3), .second, .val (.long q4), .second, .val (.int v1), .val (.int v2), .val (.long v4), .second, .val (.long v6), .second, .val (.long v10), .second, .val (.long v11), .second, .val (.ref b1), .val (.ref b2), .unset, .unset, .unset] [(.long v10), (.long (v10 &&& v4))])) _
        refine XS.lcmp XB.here hx rfl (hb hby at_185) rfl ?_
        have sg13 : ∀ t, Steps p.tables e below (TB.setTop (mkF m 194 #[.val (.int p1), .val (.long q1), .second, .val (.long q2), .second, .val (.long q3), .second, .val (.long q4), .second, .val (.int v1), .val (.int v2), .val (.long v4), .second, .val (.long v6), .second, .val (.long v10), .second, .val (.long v11), .second, .val (.ref b1), .val (.ref b2), .unset, .unset, .unset] [(.int v14)])) t → Steps p.tables e below (TB.setTop (mkF m 186 #[.val (.int p1), .val (.long q1), .second, .val (.long q2), .second, .val (.long q3), .second, .val (.long q4), .second, .val (.int v1), .val (.int v2), .val (.long v4), .second, .val (.long v6), .second, .val (.long v10), .second, .val (.long v11), .second, .val (.ref b1), .val (.ref b2), .unset, .unset, .unset] [(.int (lcmpW (v10 &&& v4) v10))])) t := by
          intro t k
          by_cases hc13 : ((v10 &&& v4) = v10)
          · rw [show v14 = (1 : Int32) from by rw [hv14, if_pos hc13]] at k
            show Steps p.tables e below (TB.setTop (mkF m 186 #[.val (.int p1), .val (.long q1), .second, .val (.long q2), .second, .val (.long q3), .second, .val (.long q4), .second, .val (.int v1), .val (.int v2), .val (.long v4), .second, .val (.long v6), .second, .val (.long v10), .second, .val (.long v11), .second, .val (.ref b1), .val (.ref b2), .unset, .unset, .unset] [(.int (lcmpW (v10 &&& v4) v10))])) _
            refine XS.ifNo XB.here hx rfl (hb hby at_186) rfl ((if0 _ _).trans (teq ((lw_eq (v10 &&& v4) v10).mpr hc13)).2) ?_
            show Steps p.tables e below (TB.setTop (mkF m 189 #[.val (.int p1), .val (.long q1), .second, .val (.long q2), .second, .val (.long q3), .second, .val (.long q4), .second, .val (.int v1), .val (.int v2), .val (.long v4), .second, .val (.long v6), .second, .val (.long v10), .second, .val (.long v11), .second, .val (.ref b1), .val (.ref b2), .unset, .unset, .unset] [])) _
            refine XS.iconst XB.here hx rfl (hb hby at_189) ?_
            show Steps p.tables e below (TB.setTop (mkF m 190 #[.val (.int p1), .val (.long q1), .second, .val (.long q2), .second, .val (.long q3), .second, .val (.long q4), .second, .val (.int v1), .val (.int v2), .val (.long v4), .second, .val (.long v6), .second, .val (.long v10), .second, .val (.long v11), .second, .val (.ref b1), .val (.ref b2), .unset, .unset, .unset] [(.int (1 : Int32))])) _
            refine XS.goto XB.here hx rfl (pc0 := 190) (pc' := 194) rfl (hb hby at_190) (by decide) (by decide) ?_
            exact k
          · rw [show v14 = (0 : Int32) from by rw [hv14, if_neg hc13]] at k
            show Steps p.tables e below (TB.setTop (mkF m 186 #[.val (.int p1), .val (.long q1), .second, .val (.long q2), .second, .val (.long q3), .second, .val (.long q4), .second, .val (.int v1), .val (.int v2), .val (.long v4), .second, .val (.long v6), .second, .val (.long v10), .second, .val (.long v11), .second, .val (.ref b1), .val (.ref b2), .unset, .unset, .unset] [(.int (lcmpW (v10 &&& v4) v10))])) _
            refine XS.ifYes XB.here hx rfl (pc0 := 186) (pc' := 193) rfl (hb hby at_186) rfl ((if0 _ _).trans (feq (fun q => hc13 ((lw_eq (v10 &&& v4) v10).mp q))).2) (by decide) (by decide) ?_
            show Steps p.tables e below (TB.setTop (mkF m 193 #[.val (.int p1), .val (.long q1), .second, .val (.long q2), .second, .val (.long q3), .second, .val (.long q4), .second, .val (.int v1), .val (.int v2), .val (.long v4), .second, .val (.long v6), .second, .val (.long v10), .second, .val (.long v11), .second, .val (.ref b1), .val (.ref b2), .unset, .unset, .unset] [])) _
            refine XS.iconst XB.here hx rfl (hb hby at_193) ?_
            exact k
        refine sg13 _ ?_
        exact k
    refine sg12 _ ?_
    show Steps p.tables e below (TB.setTop (mkF m 194 #[.val (.int p1), .val (.long q1), .second, .val (.long q2), .second, .val (.long q3), .second, .val (.long q4), .second, .val (.int v1), .val (.int v2), .val (.long v4), .second, .val (.long v6), .second, .val (.long v10), .second, .val (.long v11), .second, .val (.ref b1), .val (.ref b2), .unset, .unset, .unset] [(.int v15)])) _
    refine XS.istore XB.here hx rfl (hb hby at_194) rfl (l' := #[.val (.int p1), .val (.long q1), .second, .val (.long q2), .second, .val (.long q3), .second, .val (.long q4), .second, .val (.int v1), .val (.int v2), .val (.long v4), .second, .val (.long v6), .second, .val (.long v10), .second, .val (.long v11), .second, .val (.ref b1), .val (.ref b2), .val (.int v15), .unset, .unset]) rfl ?_
    show Steps p.tables e below (TB.setTop (mkF m 196 #[.val (.int p1), .val (.long q1), .second, .val (.long q2), .second, .val (.long q3), .second, .val (.long q4), .second, .val (.int v1), .val (.int v2), .val (.long v4), .second, .val (.long v6), .second, .val (.long v10), .second, .val (.long v11), .second, .val (.ref b1), .val (.ref b2), .val (.int v15), .unset, .unset] [])) _
    refine XS.iload XB.here hx rfl (hb hby at_196) rfl ?_
    show Steps p.tables e below (TB.setTop (mkF m 198 #[.val (.int p1), .val (.long q1), .second, .val (.long q2), .second, .val (.long q3), .second, .val (.long q4), .second, .val (.int v1), .val (.int v2), .val (.long v4), .second, .val (.long v6), .second, .val (.long v10), .second, .val (.long v11), .second, .val (.ref b1), .val (.ref b2), .val (.int v15), .unset, .unset] [(.int v1)])) _
    refine XS.iconst XB.here hx rfl (hb hby at_198) ?_
    have sg16 : ∀ t, Steps p.tables e below (TB.setTop (mkF m 218 #[.val (.int p1), .val (.long q1), .second, .val (.long q2), .second, .val (.long q3), .second, .val (.long q4), .second, .val (.int v1), .val (.int v2), .val (.long v4), .second, .val (.long v6), .second, .val (.long v10), .second, .val (.long v11), .second, .val (.ref b1), .val (.ref b2), .val (.int v15), .unset, .unset] [(.int v19)])) t → Steps p.tables e below (TB.setTop (mkF m 199 #[.val (.int p1), .val (.long q1), .second, .val (.long q2), .second, .val (.long q3), .second, .val (.long q4), .second, .val (.int v1), .val (.int v2), .val (.long v4), .second, .val (.long v6), .second, .val (.long v10), .second, .val (.long v11), .second, .val (.ref b1), .val (.ref b2), .val (.int v15), .unset, .unset] [(.int (2 : Int32)), (.int v1)])) t := by
      intro t k
      by_cases hc16 : (v1 < (2 : Int32))
      · rw [show v19 = (1 : Int32) from by rw [hv19, if_pos hc16]] at k
        show Steps p.tables e below (TB.setTop (mkF m 199 #[.val (.int p1), .val (.long q1), .second, .val (.long q2), .second, .val (.long q3), .second, .val (.long q4), .second, .val (.int v1), .val (.int v2), .val (.long v4), .second, .val (.long v6), .second, .val (.long v10), .second, .val (.long v11), .second, .val (.ref b1), .val (.ref b2), .val (.int v15), .unset, .unset] [(.int (2 : Int32)), (.int v1)])) _
        refine XS.icmpYes XB.here hx rfl (pc0 := 199) (pc' := 213) rfl (hb hby at_199) rfl (tlt hc16).1 (by decide) (by decide) ?_
        show Steps p.tables e below (TB.setTop (mkF m 213 #[.val (.int p1), .val (.long q1), .second, .val (.long q2), .second, .val (.long q3), .second, .val (.long q4), .second, .val (.int v1), .val (.int v2), .val (.long v4), .second, .val (.long v6), .second, .val (.long v10), .second, .val (.long v11), .second, .val (.ref b1), .val (.ref b2), .val (.int v15), .unset, .unset] [])) _
        refine XS.iconst XB.here hx rfl (hb hby at_213) ?_
        show Steps p.tables e below (TB.setTop (mkF m 214 #[.val (.int p1), .val (.long q1), .second, .val (.long q2), .second, .val (.long q3), .second, .val (.long q4), .second, .val (.int v1), .val (.int v2), .val (.long v4), .second, .val (.long v6), .second, .val (.long v10), .second, .val (.long v11), .second, .val (.ref b1), .val (.ref b2), .val (.int v15), .unset, .unset] [(.int (1 : Int32))])) _
        refine XS.goto XB.here hx rfl (pc0 := 214) (pc' := 218) rfl (hb hby at_214) (by decide) (by decide) ?_
        exact k
      · rw [show v19 = v18 from by rw [hv19, if_neg hc16]] at k
        show Steps p.tables e below (TB.setTop (mkF m 199 #[.val (.int p1), .val (.long q1), .second, .val (.long q2), .second, .val (.long q3), .second, .val (.long q4), .second, .val (.int v1), .val (.int v2), .val (.long v4), .second, .val (.long v6), .second, .val (.long v10), .second, .val (.long v11), .second, .val (.ref b1), .val (.ref b2), .val (.int v15), .unset, .unset] [(.int (2 : Int32)), (.int v1)])) _
        refine XS.icmpNo XB.here hx rfl (hb hby at_199) rfl (flt hc16).1 ?_
        show Steps p.tables e below (TB.setTop (mkF m 202 #[.val (.int p1), .val (.long q1), .second, .val (.long q2), .second, .val (.long q3), .second, .val (.long q4), .second, .val (.int v1), .val (.int v2), .val (.long v4), .second, .val (.long v6), .second, .val (.long v10), .second, .val (.long v11), .second, .val (.ref b1), .val (.ref b2), .val (.int v15), .unset, .unset] [])) _
        refine XS.lload XB.here hx rfl (hb hby at_202) rfl ?_
        show Steps p.tables e below (TB.setTop (mkF m 204 #[.val (.int p1), .val (.long q1), .second, .val (.long q2), .second, .val (.long q3), .second, .val (.long q4), .second, .val (.int v1), .val (.int v2), .val (.long v4), .second, .val (.long v6), .second, .val (.long v10), .second, .val (.long v11), .second, .val (.ref b1), .val (.ref b2), .val (.int v15), .unset, .unset] [(.long v11)])) _
        refine XS.lload XB.here hx rfl (hb hby at_204) rfl ?_
        show Steps p.tables e below (TB.setTop (mkF m 206 #[.val (.int p1), .val (.long q1), .second, .val (.long q2), .second, .val (.long q3), .second, .val (.long q4), .second, .val (.int v1), .val (.int v2), .val (.long v4), .second, .val (.long v6), .second, .val (.long v10), .second, .val (.long v11), .second, .val (.ref b1), .val (.ref b2), .val (.int v15), .unset, .unset] [(.long v6), (.long v11)])) _
        refine XS.land XB.here hx rfl (hb hby at_206) rfl ?_
        show Steps p.tables e below (TB.setTop (mkF m 207 #[.val (.int p1), .val (.long q1), .second, .val (.long q2), .second, .val (.long q3), .second, .val (.long q4), .second, .val (.int v1), .val (.int v2), .val (.long v4), .second, .val (.long v6), .second, .val (.long v10), .second, .val (.long v11), .second, .val (.ref b1), .val (.ref b2), .val (.int v15), .unset, .unset] [(.long (v11 &&& v6))])) _
        refine XS.lload XB.here hx rfl (hb hby at_207) rfl ?_
        show Steps p.tables e below (TB.setTop (mkF m 209 #[.val (.int p1), .val (.long q1), .second, .val (.long q2), .second, .val (.long q3), .second, .val (.long q4), .second, .val (.int v1), .val (.int v2), .val (.long v4), .second, .val (.long v6), .second, .val (.long v10), .second, .val (.long v11), .second, .val (.ref b1), .val (.ref b2), .val (.int v15), .unset, .unset] [(.long v11), (.long (v11 &&& v6))])) _
        refine XS.lcmp XB.here hx rfl (hb hby at_209) rfl ?_
        have sg17 : ∀ t, Steps p.tables e below (TB.setTop (mkF m 218 #[.val (.int p1), .val (.long q1), .second, .val (.long q2), .second, .val (.long q3), .second, .val (.long q4), .second, .val (.int v1), .val (.int v2), .val (.long v4), .second, .val (.long v6), .second, .val (.long v10), .second, .val (.long v11), .second, .val (.ref b1), .val (.ref b2), .val (.int v15), .unset, .unset] [(.int v18)])) t → Steps p.tables e below (TB.setTop (mkF m 210 #[.val (.int p1), .val (.long q1), .second, .val (.long q2), .second, .val (.long q3), .second, .val (.long q4), .second, .val (.int v1), .val (.int v2), .val (.long v4), .second, .val (.long v6), .second, .val (.long v10), .second, .val (.long v11), .second, .val (.ref b1), .val (.ref b2), .val (.int v15), .unset, .unset] [(.int (lcmpW (v11 &&& v6) v11))])) t := by
          intro t k
          by_cases hc17 : ((v11 &&& v6) = v11)
          · rw [show v18 = (1 : Int32) from by rw [hv18, if_pos hc17]] at k
            show Steps p.tables e below (TB.setTop (mkF m 210 #[.val (.int p1), .val (.long q1), .second, .val (.long q2), .second, .val (.long q3), .second, .val (.long q4), .second, .val (.int v1), .val (.int v2), .val (.long v4), .second, .val (.long v6), .second, .val (.long v10), .second, .val (.long v11), .second, .val (.ref b1), .val (.ref b2), .val (.int v15), .unset, .unset] [(.int (lcmpW (v11 &&& v6) v11))])) _
            refine XS.ifNo XB.here hx rfl (hb hby at_210) rfl ((if0 _ _).trans (teq ((lw_eq (v11 &&& v6) v11).mpr hc17)).2) ?_
            show Steps p.tables e below (TB.setTop (mkF m 213 #[.val (.int p1), .val (.long q1), .second, .val (.long q2), .second, .val (.long q3), .second, .val (.long q4), .second, .val (.int v1), .val (.int v2), .val (.long v4), .second, .val (.long v6), .second, .val (.long v10), .second, .val (.long v11), .second, .val (.ref b1), .val (.ref b2), .val (.int v15), .unset, .unset] [])) _
            refine XS.iconst XB.here hx rfl (hb hby at_213) ?_
            show Steps p.tables e below (TB.setTop (mkF m 214 #[.val (.int p1), .val (.long q1), .second, .val (.long q2), .second, .val (.long q3), .second, .val (.long q4), .second, .val (.int v1), .val (.int v2), .val (.long v4), .second, .val (.long v6), .second, .val (.long v10), .second, .val (.long v11), .second, .val (.ref b1), .val (.ref b2), .val (.int v15), .unset, .unset] [(.int (1 : Int32))])) _
            refine XS.goto XB.here hx rfl (pc0 := 214) (pc' := 218) rfl (hb hby at_214) (by decide) (by decide) ?_
            exact k
          · rw [show v18 = (0 : Int32) from by rw [hv18, if_neg hc17]] at k
            show Steps p.tables e below (TB.setTop (mkF m 210 #[.val (.int p1), .val (.long q1), .second, .val (.long q2), .second, .val (.long q3), .second, .val (.long q4), .second, .val (.int v1), .val (.int v2), .val (.long v4), .second, .val (.long v6), .second, .val (.long v10), .second, .val (.long v11), .second, .val (.ref b1), .val (.ref b2), .val (.int v15), .unset, .unset] [(.int (lcmpW (v11 &&& v6) v11))])) _
            refine XS.ifYes XB.here hx rfl (pc0 := 210) (pc' := 217) rfl (hb hby at_210) rfl ((if0 _ _).trans (feq (fun q => hc17 ((lw_eq (v11 &&& v6) v11).mp q))).2) (by decide) (by decide) ?_
            show Steps p.tables e below (TB.setTop (mkF m 217 #[.val (.int p1), .val (.long q1), .second, .val (.long q2), .second, .val (.long q3), .second, .val (.long q4), .second, .val (.int v1), .val (.int v2), .val (.long v4), .second, .val (.long v6), .second, .val (.long v10), .second, .val (.long v11), .second, .val (.ref b1), .val (.ref b2), .val (.int v15), .unset, .unset] [])) _
            refine XS.iconst XB.here hx rfl (hb hby at_217) ?_
            exact k
        refine sg17 _ ?_
        exact k
    refine sg16 _ ?_
    show Steps p.tables e below (TB.setTop (mkF m 218 #[.val (.int p1), .val (.long q1), .second, .val (.long q2), .second, .val (.long q3), .second, .val (.long q4), .second, .val (.int v1), .val (.int v2), .val (.long v4), .second, .val (.long v6), .second, .val (.long v10), .second, .val (.long v11), .second, .val (.ref b1), .val (.ref b2), .val (.int v15), .unset, .unset] [(.int v19)])) _
    refine XS.istore XB.here hx rfl (hb hby at_218) rfl (l' := #[.val (.int p1), .val (.long q1), .second, .val (.long q2), .second, .val (.long q3), .second, .val (.long q4), .second, .val (.int v1), .val (.int v2), .val (.long v4), .second, .val (.long v6), .second, .val (.long v10), .second, .val (.long v11), .second, .val (.ref b1), .val (.ref b2), .val (.int v15), .val (.int v19), .unset]) rfl ?_
    show Steps p.tables e below (TB.setTop (mkF m 220 #[.val (.int p1), .val (.long q1), .second, .val (.long q2), .second, .val (.long q3), .second, .val (.long q4), .second, .val (.int v1), .val (.int v2), .val (.long v4), .second, .val (.long v6), .second, .val (.long v10), .second, .val (.long v11), .second, .val (.ref b1), .val (.ref b2), .val (.int v15), .val (.int v19), .unset] [])) _
    refine XS.iload XB.here hx rfl (hb hby at_220) rfl ?_
    have sg20 : ∀ t, Steps p.tables e below (TB.setTop (mkF m 235 #[.val (.int p1), .val (.long q1), .second, .val (.long q2), .second, .val (.long q3), .second, .val (.long q4), .second, .val (.int v1), .val (.int v2), .val (.long v4), .second, .val (.long v6), .second, .val (.long v10), .second, .val (.long v11), .second, .val (.ref b1), .val (.ref b2), .val (.int v15), .val (.int v19), .unset] [(.int v23)])) t → Steps p.tables e below (TB.setTop (mkF m 222 #[.val (.int p1), .val (.long q1), .second, .val (.long q2), .second, .val (.long q3), .second, .val (.long q4), .second, .val (.int v1), .val (.int v2), .val (.long v4), .second, .val (.long v6), .second, .val (.long v10), .second, .val (.long v11), .second, .val (.ref b1), .val (.ref b2), .val (.int v15), .val (.int v19), .unset] [(.int v15)])) t := by
      intro t k
      by_cases hc20 : (v15 = (0 : Int32))
      · rw [show v23 = (0 : Int32) from by rw [hv23, if_pos hc20]] at k
        show Steps p.tables e below (TB.setTop (mkF m 222 #[.val (.int p1), .val (.long q1), .second, .val (.long q2), .second, .val (.long q3), .second, .val (.long q4), .second, .val (.int v1), .val (.int v2), .val (.long v4), .second, .val (.long v6), .second, .val (.long v10), .second, .val (.long v11), .second, .val (.ref b1), .val (.ref b2), .val (.int v15), .val (.int v19), .unset] [(.int v15)])) _
        refine XS.ifYes XB.here hx rfl (pc0 := 222) (pc' := 234) rfl (hb hby at_222) rfl ((if0 _ _).trans (teq hc20).1) (by decide) (by decide) ?_
        show Steps p.tables e below (TB.setTop (mkF m 234 #[.val (.int p1), .val (.long q1), .second, .val (.long q2), .second, .val (.long q3), .second, .val (.long q4), .second, .val (.int v1), .val (.int v2), .val (.long v4), .second, .val (.long v6), .second, .val (.long v10), .second, .val (.long v11), .second, .val (.ref b1), .val (.ref b2), .val (.int v15), .val (.int v19), .unset] [])) _
        refine XS.iconst XB.here hx rfl (hb hby at_234) ?_
        exact k
      · rw [show v23 = v22 from by rw [hv23, if_neg hc20]] at k
        show Steps p.tables e below (TB.setTop (mkF m 222 #[.val (.int p1), .val (.long q1), .second, .val (.long q2), .second, .val (.long q3), .second, .val (.long q4), .second, .val (.int v1), .val (.int v2), .val (.long v4), .second, .val (.long v6), .second, .val (.long v10), .second, .val (.long v11), .second, .val (.ref b1), .val (.ref b2), .val (.int v15), .val (.int v19), .unset] [(.int v15)])) _
        refine XS.ifNo XB.here hx rfl (hb hby at_222) rfl ((if0 _ _).trans (feq hc20).1) ?_
        show Steps p.tables e below (TB.setTop (mkF m 225 #[.val (.int p1), .val (.long q1), .second, .val (.long q2), .second, .val (.long q3), .second, .val (.long q4), .second, .val (.int v1), .val (.int v2), .val (.long v4), .second, .val (.long v6), .second, .val (.long v10), .second, .val (.long v11), .second, .val (.ref b1), .val (.ref b2), .val (.int v15), .val (.int v19), .unset] [])) _
        refine XS.iload XB.here hx rfl (hb hby at_225) rfl ?_
        have sg21 : ∀ t, Steps p.tables e below (TB.setTop (mkF m 235 #[.val (.int p1), .val (.long q1), .second, .val (.long q2), .second, .val (.long q3), .second, .val (.long q4), .second, .val (.int v1), .val (.int v2), .val (.long v4), .second, .val (.long v6), .second, .val (.long v10), .second, .val (.long v11), .second, .val (.ref b1), .val (.ref b2), .val (.int v15), .val (.int v19), .unset] [(.int v22)])) t → Steps p.tables e below (TB.setTop (mkF m 227 #[.val (.int p1), .val (.long q1), .second, .val (.long q2), .second, .val (.long q3), .second, .val (.long q4), .second, .val (.int v1), .val (.int v2), .val (.long v4), .second, .val (.long v6), .second, .val (.long v10), .second, .val (.long v11), .second, .val (.ref b1), .val (.ref b2), .val (.int v15), .val (.int v19), .unset] [(.int v19)])) t := by
          intro t k
          by_cases hc21 : (v19 = (0 : Int32))
          · rw [show v22 = (0 : Int32) from by rw [hv22, if_pos hc21]] at k
            show Steps p.tables e below (TB.setTop (mkF m 227 #[.val (.int p1), .val (.long q1), .second, .val (.long q2), .second, .val (.long q3), .second, .val (.long q4), .second, .val (.int v1), .val (.int v2), .val (.long v4), .second, .val (.long v6), .second, .val (.long v10), .second, .val (.long v11), .second, .val (.ref b1), .val (.ref b2), .val (.int v15), .val (.int v19), .unset] [(.int v19)])) _
            refine XS.ifYes XB.here hx rfl (pc0 := 227) (pc' := 234) rfl (hb hby at_227) rfl ((if0 _ _).trans (teq hc21).1) (by decide) (by decide) ?_
            show Steps p.tables e below (TB.setTop (mkF m 234 #[.val (.int p1), .val (.long q1), .second, .val (.long q2), .second, .val (.long q3), .second, .val (.long q4), .second, .val (.int v1), .val (.int v2), .val (.long v4), .second, .val (.long v6), .second, .val (.long v10), .second, .val (.long v11), .second, .val (.ref b1), .val (.ref b2), .val (.int v15), .val (.int v19), .unset] [])) _
            refine XS.iconst XB.here hx rfl (hb hby at_234) ?_
            exact k
          · rw [show v22 = (1 : Int32) from by rw [hv22, if_neg hc21]] at k
            show Steps p.tables e below (TB.setTop (mkF m 227 #[.val (.int p1), .val (.long q1), .second, .val (.long q2), .second, .val (.long q3), .second, .val (.long q4), .second, .val (.int v1), .val (.int v2), .val (.long v4), .second, .val (.long v6), .second, .val (.long v10), .second, .val (.long v11), .second, .val (.ref b1), .val (.ref b2), .val (.int v15), .val (.int v19), .unset] [(.int v19)])) _
            refine XS.ifNo XB.here hx rfl (hb hby at_227) rfl ((if0 _ _).trans (feq hc21).1) ?_
            show Steps p.tables e below (TB.setTop (mkF m 230 #[.val (.int p1), .val (.long q1), .second, .val (.long q2), .second, .val (.long q3), .second, .val (.long q4), .second, .val (.int v1), .val (.int v2), .val (.long v4), .second, .val (.long v6), .second, .val (.long v10), .second, .val (.long v11), .second, .val (.ref b1), .val (.ref b2), .val (.int v15), .val (.int v19), .unset] [])) _
            refine XS.iconst XB.here hx rfl (hb hby at_230) ?_
            show Steps p.tables e below (TB.setTop (mkF m 231 #[.val (.int p1), .val (.long q1), .second, .val (.long q2), .second, .val (.long q3), .second, .val (.long q4), .second, .val (.int v1), .val (.int v2), .val (.long v4), .second, .val (.long v6), .second, .val (.long v10), .second, .val (.long v11), .second, .val (.ref b1), .val (.ref b2), .val (.int v15), .val (.int v19), .unset] [(.int (1 : Int32))])) _
            refine XS.goto XB.here hx rfl (pc0 := 231) (pc' := 235) rfl (hb hby at_231) (by decide) (by decide) ?_
            exact k
        refine sg21 _ ?_
        exact k
    refine sg20 _ ?_
    show Steps p.tables e below (TB.setTop (mkF m 235 #[.val (.int p1), .val (.long q1), .second, .val (.long q2), .second, .val (.long q3), .second, .val (.long q4), .second, .val (.int v1), .val (.int v2), .val (.long v4), .second, .val (.long v6), .second, .val (.long v10), .second, .val (.long v11), .second, .val (.ref b1), .val (.ref b2), .val (.int v15), .val (.int v19), .unset] [(.int v23)])) _
    refine XS.istore XB.here hx rfl (hb hby at_235) rfl (l' := #[.val (.int p1), .val (.long q1), .second, .val (.long q2), .second, .val (.long q3), .second, .val (.long q4), .second, .val (.int v1), .val (.int v2), .val (.long v4), .second, .val (.long v6), .second, .val (.long v10), .second, .val (.long v11), .second, .val (.ref b1), .val (.ref b2), .val (.int v15), .val (.int v19), .val (.int v23)]) rfl ?_
    show Steps p.tables e below (TB.setTop (mkF m 237 #[.val (.int p1), .val (.long q1), .second, .val (.long q2), .second, .val (.long q3), .second, .val (.long q4), .second, .val (.int v1), .val (.int v2), .val (.long v4), .second, .val (.long v6), .second, .val (.long v10), .second, .val (.long v11), .second, .val (.ref b1), .val (.ref b2), .val (.int v15), .val (.int v19), .val (.int v23)] [])) _
    refine XS.aload XB.here hx rfl (hb hby at_237) rfl rfl ?_
    show Steps p.tables e below (TB.setTop (mkF m 239 #[.val (.int p1), .val (.long q1), .second, .val (.long q2), .second, .val (.long q3), .second, .val (.long q4), .second, .val (.int v1), .val (.int v2), .val (.long v4), .second, .val (.long v6), .second, .val (.long v10), .second, .val (.long v11), .second, .val (.ref b1), .val (.ref b2), .val (.int v15), .val (.int v19), .val (.int v23)] [(.ref b2)])) _
    refine XS.aload XB.here hx rfl (hb hby at_239) rfl rfl ?_
    show Steps p.tables e below (TB.setTop (mkF m 241 #[.val (.int p1), .val (.long q1), .second, .val (.long q2), .second, .val (.long q3), .second, .val (.long q4), .second, .val (.int v1), .val (.int v2), .val (.long v4), .second, .val (.long v6), .second, .val (.long v10), .second, .val (.long v11), .second, .val (.ref b1), .val (.ref b2), .val (.int v15), .val (.int v19), .val (.int v23)] [(.ref b1), (.ref b2)])) _
    refine st24 _ ?_
    show Steps p.tables e below (T24.setTop (mkF m 244 #[.val (.int p1), .val (.long q1), .second, .val (.long q2), .second, .val (.long q3), .second, .val (.long q4), .second, .val (.int v1), .val (.int v2), .val (.long v4), .second, .val (.long v6), .second, .val (.long v10), .second, .val (.long v11), .second, .val (.ref b1), .val (.ref b2), .val (.int v15), .val (.int v19), .val (.int v23)] [(.int (own_sub (own_lst v1 v10 v11) (own_lst v2 q3 q4)))])) _
    refine XS.iload X24.here hx rfl (hb hby at_244) rfl ?_
    show Steps p.tables e below (T24.setTop (mkF m 246 #[.val (.int p1), .val (.long q1), .second, .val (.long q2), .second, .val (.long q3), .second, .val (.long q4), .second, .val (.int v1), .val (.int v2), .val (.long v4), .second, .val (.long v6), .second, .val (.long v10), .second, .val (.long v11), .second, .val (.ref b1), .val (.ref b2), .val (.int v15), .val (.int v19), .val (.int v23)] [(.int v23), (.int (own_sub (own_lst v1 v10 v11) (own_lst v2 q3 q4)))])) _
    refine XS.icmpNo X24.here hx rfl (hb hby at_246) rfl (teq hfin).2 ?_
    show Steps p.tables e below (T24.setTop (mkF m 249 #[.val (.int p1), .val (.long q1), .second, .val (.long q2), .second, .val (.long q3), .second, .val (.long q4), .second, .val (.int v1), .val (.int v2), .val (.long v4), .second, .val (.long v6), .second, .val (.long v10), .second, .val (.long v11), .second, .val (.ref b1), .val (.ref b2), .val (.int v15), .val (.int v19), .val (.int v23)] [])) _
    refine XS.iconst X24.here hx rfl (hb hby at_249) ?_
    show Steps p.tables e below (T24.setTop (mkF m 250 #[.val (.int p1), .val (.long q1), .second, .val (.long q2), .second, .val (.long q3), .second, .val (.long q4), .second, .val (.int v1), .val (.int v2), .val (.long v4), .second, .val (.long v6), .second, .val (.long v10), .second, .val (.long v11), .second, .val (.ref b1), .val (.ref b2), .val (.int v15), .val (.int v19), .val (.int v23)] [(.int (1 : Int32))])) _
    refine XS.goto X24.here hx rfl (pc0 := 250) (pc' := 254) rfl (hb hby at_250) (by decide) (by decide) ?_
    show Steps p.tables e below (T24.setTop (mkF m 254 #[.val (.int p1), .val (.long q1), .second, .val (.long q2), .second, .val (.long q3), .second, .val (.long q4), .second, .val (.int v1), .val (.int v2), .val (.long v4), .second, .val (.long v6), .second, .val (.long v10), .second, .val (.long v11), .second, .val (.ref b1), .val (.ref b2), .val (.int v15), .val (.int v19), .val (.int v23)] [(.int (1 : Int32))])) _
    exact retN X24 hx (t := .boolean) Bd.returns (by simp) (hb hby at_254) hr
  · show Q0 Z p1 q1 q2 q3 q4 h0 n0 _ T24.heap _
    exact ⟨rfl, N24⟩
set_option maxRecDepth 65536 in
set_option maxHeartbeats 40000000 in
theorem mkA1 {p : Program} {l : Launch} {e : Env} {s : State} {m : MethodId} {args : Array Value} {below : List Frame} {meth : Method} {c : Code} {T0 : State} {locs : List Loc} {Z : State} {a0 : Array Value} {h0 : Heap} (x0 : Int32) (x1 : Int64) (x3 : Int64) (x5 : Int64) (x7 : Int64) (x9 : Int32) (x10 : Int32) (x11 : Int64) (x13 : Int64) (x15 : Int64) (x17 : Int64) (x19 : Int64) (n0 : Nat) (X0 : Stand p l e room_1 s m args below meth c T0 locs 0 0) (hx : p.tables.exec = Jvm.exec) (hZ : Z.Warmed39 s.vm) (hw : ∀ d ∈ tables_1, d.before a0 Z = true) (hby : c.code = code) (hml : c.maxLocals = 24) (hown : s.vm.findClass "com/example/prune/prune/mdp/WordsIsSubsetPinLaw" = some m.cls) (e0 : T0.heap = h0) (Z0 : n0 ≤ h0.size) (N0 : Fr n0 locs) (hz : x10 = 0 ∨ x10 = 1 ∨ x10 = 2) :
    ∃ (T' : State) (h' : Heap) (locs' : List Loc) (b : Addr), Stand p l e room_1 s m args below meth c T' locs' 1 2 ∧ T'.heap = h' ∧ Fr n0 locs' ∧ Keep h0 h' [] ∧ b = h0.size ∧ own_A Z h' b (own_lst x10 x5 x7) ∧
      ∀ t, Steps p.tables e below (T'.setTop (mkF m 143 #[.val (.int x0), .val (.long x1), .second, .val (.long x3), .second, .val (.long x5), .second, .val (.long x7), .second, .val (.int x9), .val (.int x10), .val (.long x11), .second, .val (.long x13), .second, .val (.long x15), .second, .val (.long x17), .second, .val (.ref b), .unset, .unset, .unset, .unset] [])) t → Steps p.tables e below (T0.setTop (mkF m 114 #[.val (.int x0), .val (.long x1), .second, .val (.long x3), .second, .val (.long x5), .second, .val (.long x7), .second, .val (.int x9), .val (.int x10), .val (.long x11), .second, .val (.long x13), .second, .val (.long x15), .second, .val (.long x17), .second, .val (.long x19), .second, .unset, .unset, .unset] [])) t := by
  rcases hz with rfl | rfl | rfl
  · obtain ⟨T1, h1, k1, X1, e1, E1, A1, st1⟩ := newP X0 hx hZ (hw _ (List.mem_of_getElem? (i := 0) rfl)) e0 (g := (mkF m 116 #[.val (.int x0), .val (.long x1), .second, .val (.long x3), .second, .val (.long x5), .second, .val (.long x7), .second, .val (.int x9), .val (.int (0 : Int32)), .val (.long x11), .second, .val (.long x13), .second, .val (.long x15), .second, .val (.long x17), .second, .val (.long x19), .second, .unset, .unset, .unset] [(.int (0 : Int32))])) rfl (hb hby at_116) rfl (by decide) (cap := 2) (by decide) (by decide) (by decide) (by decide)
    obtain ⟨b, g1⟩ : ∃ z, z = h0.size := ⟨_, rfl⟩
    rw [← g1] at A1 st1
    have K0 : Keep h0 h1 [] := (Keep.refl h0 []).ext E1
    have gb : n0 ≤ b := Nat.le_trans Z0 (Nat.le_of_eq g1.symm)
    have V0 : Arv Z h1 b k1 .long (0 : Int32) [] (.long (0 : Int64)) := Arv.new A1 (by decide)
    refine ⟨T1, h1, _, b, X1, e1, N0, K0, g1, ⟨_, V0⟩, fun t k => ?_⟩
    show Steps p.tables e below (T0.setTop (mkF m 114 #[.val (.int x0), .val (.long x1), .second, .val (.long x3), .second, .val (.long x5), .second, .val (.long x7), .second, .val (.int x9), .val (.int (0 : Int32)), .val (.long x11), .second, .val (.long x13), .second, .val (.long x15), .second, .val (.long x17), .second, .val (.long x19), .second, .unset, .unset, .unset] [])) _
    refine XS.iload X0.here hx rfl (hb hby at_114) rfl ?_
    show Steps p.tables e below (T0.setTop (mkF m 116 #[.val (.int x0), .val (.long x1), .second, .val (.long x3), .second, .val (.long x5), .second, .val (.long x7), .second, .val (.int x9), .val (.int (0 : Int32)), .val (.long x11), .second, .val (.long x13), .second, .val (.long x15), .second, .val (.long x17), .second, .val (.long x19), .second, .unset, .unset, .unset] [(.int (0 : Int32))])) _
    refine st1 _ ?_
    show Steps p.tables e below (T1.setTop (mkF m 118 #[.val (.int x0), .val (.long x1), .second, .val (.long x3), .second, .val (.long x5), .second, .val (.long x7), .second, .val (.int x9), .val (.int (0 : Int32)), .val (.long x11), .second, .val (.long x13), .second, .val (.long x15), .second, .val (.long x17), .second, .val (.long x19), .second, .unset, .unset, .unset] [(.ref b)])) _
    refine XS.astore X1.here hx rfl (hb hby at_118) rfl rfl (l' := #[.val (.int x0), .val (.long x1), .second, .val (.long x3), .second, .val (.long x5), .second, .val (.long x7), .second, .val (.int x9), .val (.int (0 : Int32)), .val (.long x11), .second, .val (.long x13), .second, .val (.long x15), .second, .val (.long x17), .second, .val (.ref b), .unset, .unset, .unset, .unset]) rfl ?_
    show Steps p.tables e below (T1.setTop (mkF m 120 #[.val (.int x0), .val (.long x1), .second, .val (.long x3), .second, .val (.long x5), .second, .val (.long x7), .second, .val (.int x9), .val (.int (0 : Int32)), .val (.long x11), .second, .val (.long x13), .second, .val (.long x15), .second, .val (.long x17), .second, .val (.ref b), .unset, .unset, .unset, .unset] [])) _
    refine XS.iload X1.here hx rfl (hb hby at_120) rfl ?_
    show Steps p.tables e below (T1.setTop (mkF m 122 #[.val (.int x0), .val (.long x1), .second, .val (.long x3), .second, .val (.long x5), .second, .val (.long x7), .second, .val (.int x9), .val (.int (0 : Int32)), .val (.long x11), .second, .val (.long x13), .second, .val (.long x15), .second, .val (.long x17), .second, .val (.ref b), .unset, .unset, .unset, .unset] [(.int (0 : Int32))])) _
    refine XS.ifYes X1.here hx rfl (pc0 := 122) (pc' := 131) rfl (hb hby at_122) rfl ((if0 _ _).trans (flt (by decide)).2.2.2) (by decide) (by decide) ?_
    show Steps p.tables e below (T1.setTop (mkF m 131 #[.val (.int x0), .val (.long x1), .second, .val (.long x3), .second, .val (.long x5), .second, .val (.long x7), .second, .val (.int x9), .val (.int (0 : Int32)), .val (.long x11), .second, .val (.long x13), .second, .val (.long x15), .second, .val (.long x17), .second, .val (.ref b), .unset, .unset, .unset, .unset] [])) _
    refine XS.iload X1.here hx rfl (hb hby at_131) rfl ?_
    show Steps p.tables e below (T1.setTop (mkF m 133 #[.val (.int x0), .val (.long x1), .second, .val (.long x3), .second, .val (.long x5), .second, .val (.long x7), .second, .val (.int x9), .val (.int (0 : Int32)), .val (.long x11), .second, .val (.long x13), .second, .val (.long x15), .second, .val (.long x17), .second, .val (.ref b), .unset, .unset, .unset, .unset] [(.int (0 : Int32))])) _
    refine XS.iconst X1.here hx rfl (hb hby at_133) ?_
    show Steps p.tables e below (T1.setTop (mkF m 134 #[.val (.int x0), .val (.long x1), .second, .val (.long x3), .second, .val (.long x5), .second, .val (.long x7), .second, .val (.int x9), .val (.int (0 : Int32)), .val (.long x11), .second, .val (.long x13), .second, .val (.long x15), .second, .val (.long x17), .second, .val (.ref b), .unset, .unset, .unset, .unset] [(.int (1 : Int32)), (.int (0 : Int32))])) _
    refine XS.icmpYes X1.here hx rfl (pc0 := 134) (pc' := 143) rfl (hb hby at_134) rfl (flt (by decide)).2.2.2 (by decide) (by decide) ?_
    exact k
  · obtain ⟨T1, h1, k1, X1, e1, E1, A1, st1⟩ := newP X0 hx hZ (hw _ (List.mem_of_getElem? (i := 0) rfl)) e0 (g := (mkF m 116 #[.val (.int x0), .val (.long x1), .second, .val (.long x3), .second, .val (.long x5), .second, .val (.long x7), .second, .val (.int x9), .val (.int (1 : Int32)), .val (.long x11), .second, .val (.long x13), .second, .val (.long x15), .second, .val (.long x17), .second, .val (.long x19), .second, .unset, .unset, .unset] [(.int (1 : Int32))])) rfl (hb hby at_116) rfl (by decide) (cap := 2) (by decide) (by decide) (by decide) (by decide)
    obtain ⟨b, g1⟩ : ∃ z, z = h0.size := ⟨_, rfl⟩
    rw [← g1] at A1 st1
    have K0 : Keep h0 h1 [] := (Keep.refl h0 []).ext E1
    have gb : n0 ≤ b := Nat.le_trans Z0 (Nat.le_of_eq g1.symm)
    have V_b : Arv Z h1 b k1 .long (1 : Int32) [(.long (0 : Int64))] (.long (0 : Int64)) := (Arv.new A1 (by decide)).pad (pad_rep [] (.long (0 : Int64)) 1)
    obtain ⟨cl2, Ar2, qq2, S2, M2, H2, G2⟩ := id V_b
    obtain ⟨T3, h3, X3, e3, W3, st3⟩ := stJ X1 hx hZ e1 Ar2 (j := (0 : Int32)) (inb_of S2 ⟨(by decide : ¬ ((0 : Int32) < (0 : Int32))), (by decide : (0 : Int32) < (1 : Int32))⟩) (g := (mkF m 130 #[.val (.int x0), .val (.long x1), .second, .val (.long x3), .second, .val (.long x5), .second, .val (.long x7), .second, .val (.int x9), .val (.int (1 : Int32)), .val (.long x11), .second, .val (.long x13), .second, .val (.long x15), .second, .val (.long x17), .second, .val (.ref b), .unset, .unset, .unset, .unset] [(.long x5), (.int (0 : Int32)), (.ref b)])) rfl rfl (hb hby at_130)
    have V_b_3 : Arv Z h3 b k1 .long (1 : Int32) [(.long x5)] (.long (0 : Int64)) := Arv.set Ar2 qq2 S2 M2 H2 G2 rfl W3 0 rfl (Nat.le_of_ble_eq_true rfl)
    have N3 := Fr.snoc X3 N0 gb
    have K3 : Keep h0 h3 [] := K0.wr W3 (Or.inr (Nat.le_of_eq g1.symm))
    refine ⟨T3, h3, _, b, X3, e3, N3, K3, g1, ⟨_, V_b_3⟩, fun t k => ?_⟩
    show Steps p.tables e below (T0.setTop (mkF m 114 #[.val (.int x0), .val (.long x1), .second, .val (.long x3), .second, .val (.long x5), .second, .val (.long x7), .second, .val (.int x9), .val (.int (1 : Int32)), .val (.long x11), .second, .val (.long x13), .second, .val (.long x15), .second, .val (.long x17), .second, .val (.long x19), .second, .unset, .unset, .unset] [])) _
    refine XS.iload X0.here hx rfl (hb hby at_114) rfl ?_
    show Steps p.tables e below (T0.setTop (mkF m 116 #[.val (.int x0), .val (.long x1), .second, .val (.long x3), .second, .val (.long x5), .second, .val (.long x7), .second, .val (.int x9), .val (.int (1 : Int32)), .val (.long x11), .second, .val (.long x13), .second, .val (.long x15), .second, .val (.long x17), .second, .val (.long x19), .second, .unset, .unset, .unset] [(.int (1 : Int32))])) _
    refine st1 _ ?_
    show Steps p.tables e below (T1.setTop (mkF m 118 #[.val (.int x0), .val (.long x1), .second, .val (.long x3), .second, .val (.long x5), .second, .val (.long x7), .second, .val (.int x9), .val (.int (1 : Int32)), .val (.long x11), .second, .val (.long x13), .second, .val (.long x15), .second, .val (.long x17), .second, .val (.long x19), .second, .unset, .unset, .unset] [(.ref b)])) _
    refine XS.astore X1.here hx rfl (hb hby at_118) rfl rfl (l' := #[.val (.int x0), .val (.long x1), .second, .val (.long x3), .second, .val (.long x5), .second, .val (.long x7), .second, .val (.int x9), .val (.int (1 : Int32)), .val (.long x11), .second, .val (.long x13), .second, .val (.long x15), .second, .val (.long x17), .second, .val (.ref b), .unset, .unset, .unset, .unset]) rfl ?_
    show Steps p.tables e below (T1.setTop (mkF m 120 #[.val (.int x0), .val (.long x1), .second, .val (.long x3), .second, .val (.long x5), .second, .val (.long x7), .second, .val (.int x9), .val (.int (1 : Int32)), .val (.long x11), .second, .val (.long x13), .second, .val (.long x15), .second, .val (.long x17), .second, .val (.ref b), .unset, .unset, .unset, .unset] [])) _
    refine XS.iload X1.here hx rfl (hb hby at_120) rfl ?_
    show Steps p.tables e below (T1.setTop (mkF m 122 #[.val (.int x0), .val (.long x1), .second, .val (.long x3), .second, .val (.long x5), .second, .val (.long x7), .second, .val (.int x9), .val (.int (1 : Int32)), .val (.long x11), .second, .val (.long x13), .second, .val (.long x15), .second, .val (.long x17), .second, .val (.ref b), .unset, .unset, .unset, .unset] [(.int (1 : Int32))])) _
    refine XS.ifNo X1.here hx rfl (hb hby at_122) rfl ((if0 _ _).trans (tlt (by decide)).2.2.2) ?_
    show Steps p.tables e below (T1.setTop (mkF m 125 #[.val (.int x0), .val (.long x1), .second, .val (.long x3), .second, .val (.long x5), .second, .val (.long x7), .second, .val (.int x9), .val (.int (1 : Int32)), .val (.long x11), .second, .val (.long x13), .second, .val (.long x15), .second, .val (.long x17), .second, .val (.ref b), .unset, .unset, .unset, .unset] [])) _
    refine XS.aload X1.here hx rfl (hb hby at_125) rfl rfl ?_
    show Steps p.tables e below (T1.setTop (mkF m 127 #[.val (.int x0), .val (.long x1), .second, .val (.long x3), .second, .val (.long x5), .second, .val (.long x7), .second, .val (.int x9), .val (.int (1 : Int32)), .val (.long x11), .second, .val (.long x13), .second, .val (.long x15), .second, .val (.long x17), .second, .val (.ref b), .unset, .unset, .unset, .unset] [(.ref b)])) _
    refine XS.iconst X1.here hx rfl (hb hby at_127) ?_
    show Steps p.tables e below (T1.setTop (mkF m 128 #[.val (.int x0), .val (.long x1), .second, .val (.long x3), .second, .val (.long x5), .second, .val (.long x7), .second, .val (.int x9), .val (.int (1 : Int32)), .val (.long x11), .second, .val (.long x13), .second, .val (.long x15), .second, .val (.long x17), .second, .val (.ref b), .unset, .unset, .unset, .unset] [(.int (0 : Int32)), (.ref b)])) _
    refine XS.lload X1.here hx rfl (hb hby at_128) rfl ?_
    show Steps p.tables e below (T1.setTop (mkF m 130 #[.val (.int x0), .val (.long x1), .second, .val (.long x3), .second, .val (.long x5), .second, .val (.long x7), .second, .val (.int x9), .val (.int (1 : Int32)), .val (.long x11), .second, .val (.long x13), .second, .val (.long x15), .second, .val (.long x17), .second, .val (.ref b), .unset, .unset, .unset, .unset] [(.long x5), (.int (0 : Int32)), (.ref b)])) _
    refine st3 _ ?_
    show Steps p.tables e below (T3.setTop (mkF m 131 #[.val (.int x0), .val (.long x1), .second, .val (.long x3), .second, .val (.long x5), .second, .val (.long x7), .second, .val (.int x9), .val (.int (1 : Int32)), .val (.long x11), .second, .val (.long x13), .second, .val (.long x15), .second, .val (.long x17), .second, .val (.ref b), .unset, .unset, .unset, .unset] [])) _
    refine XS.iload X3.here hx rfl (hb hby at_131) rfl ?_
    show Steps p.tables e below (T3.setTop (mkF m 133 #[.val (.int x0), .val (.long x1), .second, .val (.long x3), .second, .val (.long x5), .second, .val (.long x7), .second, .val (.int x9), .val (.int (1 : Int32)), .val (.long x11), .second, .val (.long x13), .second, .val (.long x15), .second, .val (.long x17), .second, .val (.ref b), .unset, .unset, .unset, .unset] [(.int (1 : Int32))])) _
    refine XS.iconst X3.here hx rfl (hb hby at_133) ?_
    show Steps p.tables e below (T3.setTop (mkF m 134 #[.val (.int x0), .val (.long x1), .second, .val (.long x3), .second, .val (.long x5), .second, .val (.long x7), .second, .val (.int x9), .val (.int (1 : Int32)), .val (.long x11), .second, .val (.long x13), .second, .val (.long x15), .second, .val (.long x17), .second, .val (.ref b), .unset, .unset, .unset, .unset] [(.int (1 : Int32)), (.int (1 : Int32))])) _
    refine XS.icmpYes X3.here hx rfl (pc0 := 134) (pc' := 143) rfl (hb hby at_134) rfl (flt (by decide)).2.2.2 (by decide) (by decide) ?_
    exact k
  · obtain ⟨T1, h1, k1, X1, e1, E1, A1, st1⟩ := newP X0 hx hZ (hw _ (List.mem_of_getElem? (i := 0) rfl)) e0 (g := (mkF m 116 #[.val (.int x0), .val (.long x1), .second, .val (.long x3), .second, .val (.long x5), .second, .val (.long x7), .second, .val (.int x9), .val (.int (2 : Int32)), .val (.long x11), .second, .val (.long x13), .second, .val (.long x15), .second, .val (.long x17), .second, .val (.long x19), .second, .unset, .unset, .unset] [(.int (2 : Int32))])) rfl (hb hby at_116) rfl (by decide) (cap := 2) (by decide) (by decide) (by decide) (by decide)
    obtain ⟨b, g1⟩ : ∃ z, z = h0.size := ⟨_, rfl⟩
    rw [← g1] at A1 st1
    have K0 : Keep h0 h1 [] := (Keep.refl h0 []).ext E1
    have gb : n0 ≤ b := Nat.le_trans Z0 (Nat.le_of_eq g1.symm)
    have V_b : Arv Z h1 b k1 .long (2 : Int32) [(.long (0 : Int64)), (.long (0 : Int64))] (.long (0 : Int64)) := (Arv.new A1 (by decide)).pad (pad_rep [] (.long (0 : Int64)) 2)
    obtain ⟨cl2, Ar2, qq2, S2, M2, H2, G2⟩ := id V_b
    obtain ⟨T3, h3, X3, e3, W3, st3⟩ := stJ X1 hx hZ e1 Ar2 (j := (0 : Int32)) (inb_of S2 ⟨(by decide : ¬ ((0 : Int32) < (0 : Int32))), (by decide : (0 : Int32) < (2 : Int32))⟩) (g := (mkF m 130 #[.val (.int x0), .val (.long x1), .second, .val (.long x3), .second, .val (.long x5), .second, .val (.long x7), .second, .val (.int x9), .val (.int (2 : Int32)), .val (.long x11), .second, .val (.long x13), .second, .val (.long x15), .second, .val (.long x17), .second, .val (.ref b), .unset, .unset, .unset, .unset] [(.long x5), (.int (0 : Int32)), (.ref b)])) rfl rfl (hb hby at_130)
    have V_b_3 : Arv Z h3 b k1 .long (2 : Int32) [(.long x5), (.long (0 : Int64))] (.long (0 : Int64)) := Arv.set Ar2 qq2 S2 M2 H2 G2 rfl W3 0 rfl (Nat.le_of_ble_eq_true rfl)
    have N3 := Fr.snoc X3 N0 gb
    have K3 : Keep h0 h3 [] := K0.wr W3 (Or.inr (Nat.le_of_eq g1.symm))
    obtain ⟨cl4, Ar4, qq4, S4, M4, H4, G4⟩ := id V_b_3
    obtain ⟨T5, h5, X5, e5, W5, st5⟩ := stJ X3 hx hZ e3 Ar4 (j := (1 : Int32)) (inb_of S4 ⟨(by decide : ¬ ((1 : Int32) < (0 : Int32))), (by decide : (1 : Int32) < (2 : Int32))⟩) (g := (mkF m 142 #[.val (.int x0), .val (.long x1), .second, .val (.long x3), .second, .val (.long x5), .second, .val (.long x7), .second, .val (.int x9), .val (.int (2 : Int32)), .val (.long x11), .second, .val (.long x13), .second, .val (.long x15), .second, .val (.long x17), .second, .val (.ref b), .unset, .unset, .unset, .unset] [(.long x7), (.int (1 : Int32)), (.ref b)])) rfl rfl (hb hby at_142)
    have V_b_5 : Arv Z h5 b k1 .long (2 : Int32) [(.long x5), (.long x7)] (.long (0 : Int64)) := Arv.set Ar4 qq4 S4 M4 H4 G4 rfl W5 1 rfl (Nat.le_of_ble_eq_true rfl)
    have N5 := Fr.snoc X5 N3 gb
    have K5 : Keep h0 h5 [] := K3.wr W5 (Or.inr (Nat.le_of_eq g1.symm))
    refine ⟨T5, h5, _, b, X5, e5, N5, K5, g1, ⟨_, V_b_5⟩, fun t k => ?_⟩
    show Steps p.tables e below (T0.setTop (mkF m 114 #[.val (.int x0), .val (.long x1), .second, .val (.long x3), .second, .val (.long x5), .second, .val (.long x7), .second, .val (.int x9), .val (.int (2 : Int32)), .val (.long x11), .second, .val (.long x13), .second, .val (.long x15), .second, .val (.long x17), .second, .val (.long x19), .second, .unset, .unset, .unset] [])) _
    refine XS.iload X0.here hx rfl (hb hby at_114) rfl ?_
    show Steps p.tables e below (T0.setTop (mkF m 116 #[.val (.int x0), .val (.long x1), .second, .val (.long x3), .second, .val (.long x5), .second, .val (.long x7), .second, .val (.int x9), .val (.int (2 : Int32)), .val (.long x11), .second, .val (.long x13), .second, .val (.long x15), .second, .val (.long x17), .second, .val (.long x19), .second, .unset, .unset, .unset] [(.int (2 : Int32))])) _
    refine st1 _ ?_
    show Steps p.tables e below (T1.setTop (mkF m 118 #[.val (.int x0), .val (.long x1), .second, .val (.long x3), .second, .val (.long x5), .second, .val (.long x7), .second, .val (.int x9), .val (.int (2 : Int32)), .val (.long x11), .second, .val (.long x13), .second, .val (.long x15), .second, .val (.long x17), .second, .val (.long x19), .second, .unset, .unset, .unset] [(.ref b)])) _
    refine XS.astore X1.here hx rfl (hb hby at_118) rfl rfl (l' := #[.val (.int x0), .val (.long x1), .second, .val (.long x3), .second, .val (.long x5), .second, .val (.long x7), .second, .val (.int x9), .val (.int (2 : Int32)), .val (.long x11), .second, .val (.long x13), .second, .val (.long x15), .second, .val (.long x17), .second, .val (.ref b), .unset, .unset, .unset, .unset]) rfl ?_
    show Steps p.tables e below (T1.setTop (mkF m 120 #[.val (.int x0), .val (.long x1), .second, .val (.long x3), .second, .val (.long x5), .second, .val (.long x7), .second, .val (.int x9), .val (.int (2 : Int32)), .val (.long x11), .second, .val (.long x13), .second, .val (.long x15), .second, .val (.long x17), .second, .val (.ref b), .unset, .unset, .unset, .unset] [])) _
    refine XS.iload X1.here hx rfl (hb hby at_120) rfl ?_
    show Steps p.tables e below (T1.setTop (mkF m 122 #[.val (.int x0), .val (.long x1), .second, .val (.long x3), .second, .val (.long x5), .second, .val (.long x7), .second, .val (.int x9), .val (.int (2 : Int32)), .val (.long x11), .second, .val (.long x13), .second, .val (.long x15), .second, .val (.long x17), .second, .val (.ref b), .unset, .unset, .unset, .unset] [(.int (2 : Int32))])) _
    refine XS.ifNo X1.here hx rfl (hb hby at_122) rfl ((if0 _ _).trans (tlt (by decide)).2.2.2) ?_
    show Steps p.tables e below (T1.setTop (mkF m 125 #[.val (.int x0), .val (.long x1), .second, .val (.long x3), .second, .val (.long x5), .second, .val (.long x7), .second, .val (.int x9), .val (.int (2 : Int32)), .val (.long x11), .second, .val (.long x13), .second, .val (.long x15), .second, .val (.long x17), .second, .val (.ref b), .unset, .unset, .unset, .unset] [])) _
    refine XS.aload X1.here hx rfl (hb hby at_125) rfl rfl ?_
    show Steps p.tables e below (T1.setTop (mkF m 127 #[.val (.int x0), .val (.long x1), .second, .val (.long x3), .second, .val (.long x5), .second, .val (.long x7), .second, .val (.int x9), .val (.int (2 : Int32)), .val (.long x11), .second, .val (.long x13), .second, .val (.long x15), .second, .val (.long x17), .second, .val (.ref b), .unset, .unset, .unset, .unset] [(.ref b)])) _
    refine XS.iconst X1.here hx rfl (hb hby at_127) ?_
    show Steps p.tables e below (T1.setTop (mkF m 128 #[.val (.int x0), .val (.long x1), .second, .val (.long x3), .second, .val (.long x5), .second, .val (.long x7), .second, .val (.int x9), .val (.int (2 : Int32)), .val (.long x11), .second, .val (.long x13), .second, .val (.long x15), .second, .val (.long x17), .second, .val (.ref b), .unset, .unset, .unset, .unset] [(.int (0 : Int32)), (.ref b)])) _
    refine XS.lload X1.here hx rfl (hb hby at_128) rfl ?_
    show Steps p.tables e below (T1.setTop (mkF m 130 #[.val (.int x0), .val (.long x1), .second, .val (.long x3), .second, .val (.long x5), .second, .val (.long x7), .second, .val (.int x9), .val (.int (2 : Int32)), .val (.long x11), .second, .val (.long x13), .second, .val (.long x15), .second, .val (.long x17), .second, .val (.ref b), .unset, .unset, .unset, .unset] [(.long x5), (.int (0 : Int32)), (.ref b)])) _
    refine st3 _ ?_
    show Steps p.tables e below (T3.setTop (mkF m 131 #[.val (.int x0), .val (.long x1), .second, .val (.long x3), .second, .val (.long x5), .second, .val (.long x7), .second, .val (.int x9), .val (.int (2 : Int32)), .val (.long x11), .second, .val (.long x13), .second, .val (.long x15), .second, .val (.long x17), .second, .val (.ref b), .unset, .unset, .unset, .unset] [])) _
    refine XS.iload X3.here hx rfl (hb hby at_131) rfl ?_
    show Steps p.tables e below (T3.setTop (mkF m 133 #[.val (.int x0), .val (.long x1), .second, .val (.long x3), .second, .val (.long x5), .second, .val (.long x7), .second, .val (.int x9), .val (.int (2 : Int32)), .val (.long x11), .second, .val (.long x13), .second, .val (.long x15), .second, .val (.long x17), .second, .val (.ref b), .unset, .unset, .unset, .unset] [(.int (2 : Int32))])) _
    refine XS.iconst X3.here hx rfl (hb hby at_133) ?_
    show Steps p.tables e below (T3.setTop (mkF m 134 #[.val (.int x0), .val (.long x1), .second, .val (.long x3), .second, .val (.long x5), .second, .val (.long x7), .second, .val (.int x9), .val (.int (2 : Int32)), .val (.long x11), .second, .val (.long x13), .second, .val (.long x15), .second, .val (.long x17), .second, .val (.ref b), .unset, .unset, .unset, .unset] [(.int (1 : Int32)), (.int (2 : Int32))])) _
    refine XS.icmpNo X3.here hx rfl (hb hby at_134) rfl (tlt (by decide)).2.2.2 ?_
    show Steps p.tables e below (T3.setTop (mkF m 137 #[.val (.int x0), .val (.long x1), .second, .val (.long x3), .second, .val (.long x5), .second, .val (.long x7), .second, .val (.int x9), .val (.int (2 : Int32)), .val (.long x11), .second, .val (.long x13), .second, .val (.long x15), .second, .val (.long x17), .second, .val (.ref b), .unset, .unset, .unset, .unset] [])) _
    refine XS.aload X3.here hx rfl (hb hby at_137) rfl rfl ?_
    show Steps p.tables e below (T3.setTop (mkF m 139 #[.val (.int x0), .val (.long x1), .second, .val (.long x3), .second, .val (.long x5), .second, .val (.long x7), .second, .val (.int x9), .val (.int (2 : Int32)), .val (.long x11), .second, .val (.long x13), .second, .val (.long x15), .second, .val (.long x17), .second, .val (.ref b), .unset, .unset, .unset, .unset] [(.ref b)])) _
    refine XS.iconst X3.here hx rfl (hb hby at_139) ?_
    show Steps p.tables e below (T3.setTop (mkF m 140 #[.val (.int x0), .val (.long x1), .second, .val (.long x3), .second, .val (.long x5), .second, .val (.long x7), .second, .val (.int x9), .val (.int (2 : Int32)), .val (.long x11), .second, .val (.long x13), .second, .val (.long x15), .second, .val (.long x17), .second, .val (.ref b), .unset, .unset, .unset, .unset] [(.int (1 : Int32)), (.ref b)])) _
    refine XS.lload X3.here hx rfl (hb hby at_140) rfl ?_
    show Steps p.tables e below (T3.setTop (mkF m 142 #[.val (.int x0), .val (.long x1), .second, .val (.long x3), .second, .val (.long x5), .second, .val (.long x7), .second, .val (.int x9), .val (.int (2 : Int32)), .val (.long x11), .second, .val (.long x13), .second, .val (.long x15), .second, .val (.long x17), .second, .val (.ref b), .unset, .unset, .unset, .unset] [(.long x7), (.int (1 : Int32)), (.ref b)])) _
    refine st5 _ ?_
    exact k
set_option maxRecDepth 65536 in
set_option maxHeartbeats 40000000 in
theorem rm0_1 (l : Launch) (Z : State) (a0 : Array Value) (hw : ∀ d ∈ tables_1, d.before a0 Z = true) (ws : List Jvm.Cond) (p1 : Int32) (q1 : Int64) (q2 : Int64) (q3 : Int64) (q4 : Int64) (h0 : Heap) (n0 : Nat) (Z0 : n0 ≤ h0.size) (hb5 : ¬ (((p1.toUInt32 >>> ((5 : Int32) &&& 31).toUInt32).toInt32 &&& (1 : Int32)) = (0 : Int32))) :
    MetFree l x (head1 (Jvm.Cond.code x code maxLocals ret :: ws) room_1) (fun a U => a = #[(.int p1), (.long q1), (.long q2), (.long q3), (.long q4)] ∧ Z.Warmed39 U.vm ∧ U.heap = h0) (fun _ _ _ _ _ => True) (fun _ U o U' => ∃ v L, o = .returned v ∧ Q0 Z p1 q1 q2 q3 q4 h0 n0 v U'.heap L ∧ FrameEnd U o U' L room_1.cells room_1.slots) := by
  refine MetFree.of_bodySF (plainFor_of_name pn_0) hisR ?_
  intro p e s m args below meth c s₁ Bd hml0 hP hK
  obtain ⟨rfl, hZ, hh⟩ := hP
  have hx := Bd.exec
  have hby := Bd.bytes
  have hml : c.maxLocals = 24 := hml0
  have hown : s.vm.findClass "com/example/prune/prune/mdp/WordsIsSubsetPinLaw" = some m.cls := findClass_of_methodNamed Bd.named
  have hnm := (name_of_methodNamed Bd.named Bd.method).1
  have X0 : Stand p l e room_1 s m #[(.int p1), (.long q1), (.long q2), (.long q3), (.long q4)] below meth c s₁ [] 0 0 := Stand.of_body Bd
  have e0 : s₁.heap = h0 := by rw [← hh, Bd.state]; rfl
  have N0 := Fr.nil n0
  have pre0 : ∀ t, Steps p.tables e below (s₁.setTop (mkF m 0 #[.val (.int p1), .val (.long q1), .second, .val (.long q2), .second, .val (.long q3), .second, .val (.long q4), .second, .unset, .unset, .unset, .unset, .unset, .unset, .unset, .unset, .unset, .unset, .unset, .unset, .unset, .unset, .unset] [])) t → Steps p.tables e below (s₁.setTop (entryFrame m #[(.int p1), (.long q1), (.long q2), (.long q3), (.long q4)] maxLocals)) t := fun t k => castTop (ef_0 m p1 q1 q2 q3 q4) k
  obtain ⟨v1, hv1⟩ : ∃ z : Int32, z = ((p1 &&& (3 : Int32)) % (3 : Int32)) := ⟨_, rfl⟩
  obtain ⟨v2, hv2⟩ : ∃ z : Int32, z = ((((p1.toUInt32 >>> ((2 : Int32) &&& 31).toUInt32).toInt32) &&& (3 : Int32)) % (3 : Int32)) := ⟨_, rfl⟩
  obtain ⟨v4, hv4⟩ : ∃ z : Int64, z = if ((0 : Int32) < v2) then q3 else (0 : Int64) := ⟨_, rfl⟩
  obtain ⟨v6, hv6⟩ : ∃ z : Int64, z = if ((1 : Int32) < v2) then q4 else (0 : Int64) := ⟨_, rfl⟩
  obtain ⟨v8, hv8⟩ : ∃ z : Int64, z = (q1 &&& v4) := ⟨_, rfl⟩
  obtain ⟨v9, hv9⟩ : ∃ z : Int64, z = (q2 &&& v6) := ⟨_, rfl⟩
  obtain ⟨v10, hv10⟩ : ∃ z : Int64, z = if ((((p1.toUInt32 >>> ((4 : Int32) &&& 31).toUInt32).toInt32) &&& (1 : Int32)) = (0 : Int32)) then q1 else v8 := ⟨_, rfl⟩
  obtain ⟨v11, hv11⟩ : ∃ z : Int64, z = if ((((p1.toUInt32 >>> ((4 : Int32) &&& 31).toUInt32).toInt32) &&& (1 : Int32)) = (0 : Int32)) then q2 else v9 := ⟨_, rfl⟩
  obtain ⟨v12, hv12⟩ : ∃ z : Int64, z = ((1 : Int64) <<< ((((p1.toUInt32 >>> ((7 : Int32) &&& 31).toUInt32).toInt32) &&& (63 : Int32)) &&& 0x3f).toInt64) := ⟨_, rfl⟩
  obtain ⟨v14, hv14⟩ : ∃ z : Int64, z = (v10 ^^^ v12) := ⟨_, rfl⟩
  obtain ⟨v15, hv15⟩ : ∃ z : Int64, z = (v11 ^^^ v12) := ⟨_, rfl⟩
  obtain ⟨v16, hv16⟩ : ∃ z : Int64, z = if ((((p1.toUInt32 >>> ((6 : Int32) &&& 31).toUInt32).toInt32) &&& (1 : Int32)) = (0 : Int32)) then v14 else v10 := ⟨_, rfl⟩
  obtain ⟨v17, hv17⟩ : ∃ z : Int64, z = if ((((p1.toUInt32 >>> ((6 : Int32) &&& 31).toUInt32).toInt32) &&& (1 : Int32)) = (0 : Int32)) then v11 else v15 := ⟨_, rfl⟩
  have hz9 := own_rng3 _ v1 hv1
  have hz10 := own_rng3 _ v2 hv2
  obtain ⟨TA, hA, LA, b1, XA, eA, NA, KA, gA, VA, stA⟩ := mkA1 p1 q1 q2 q3 q4 v1 v2 v4 v6 v16 v17 v12 n0 X0 hx hZ hw hby hml hown e0 Z0 N0 hz10
  obtain ⟨TB, hB, LB, b2, XB, eB, NB, KB, gB, VB, stB⟩ := mkB p1 q1 q2 q3 q4 v1 v2 v4 v6 v16 v17 b1 n0 XA hx hZ hw hby hml hown eA (Nat.le_trans Z0 KA.1) NA hz9
  have VA2 : own_A Z hB b1 (own_lst v2 q3 q4) := own_A.keep VA KB nin0
  obtain ⟨v20, hv20⟩ : ∃ z : Int32, z = if ((v16 &&& v4) = v16) then (1 : Int32) else (0 : Int32) := ⟨_, rfl⟩
  obtain ⟨v21, hv21⟩ : ∃ z : Int32, z = if (v1 < (1 : Int32)) then (1 : Int32) else v20 := ⟨_, rfl⟩
  obtain ⟨v24, hv24⟩ : ∃ z : Int32, z = if ((v17 &&& v6) = v17) then (1 : Int32) else (0 : Int32) := ⟨_, rfl⟩
  obtain ⟨v25, hv25⟩ : ∃ z : Int32, z = if (v1 < (2 : Int32)) then (1 : Int32) else v24 := ⟨_, rfl⟩
  obtain ⟨v28, hv28⟩ : ∃ z : Int32, z = if (v25 = (0 : Int32)) then (0 : Int32) else (1 : Int32) := ⟨_, rfl⟩
  obtain ⟨v29, hv29⟩ : ∃ z : Int32, z = if (v21 = (0 : Int32)) then (0 : Int32) else v28 := ⟨_, rfl⟩
  obtain ⟨_, _, ⟨T30, L30, k30, n30⟩, -, X30, ⟨Lc30, hQ30, l30, y30, z30⟩, st30⟩ := Jvm.LawKit.callS XB hx (y := (⟨"com/example/prune/prune/mdp/Words", "isSubset", "([J[J)Z"⟩ : MethodName)) hown (mvT hZ (hw _ (List.mem_of_getElem? (i := 1) rfl))) (mvT hZ (hw _ (List.mem_of_getElem? (i := 2) rfl))) (mvT hZ (hw _ (List.mem_of_getElem? (i := 3) rfl))) (mvT hZ (hw _ (List.mem_of_getElem? (i := 4) rfl))) (by decide) (backOf (W := 0) (rm1 l Z a0 hw [] b2 b1 (own_lst v1 v16 v17) (own_lst v2 q3 q4) hB n0 (Nat.le_trans (Nat.le_trans Z0 KA.1) KB.1) (own_lst2 _ _ _) (own_lst2 _ _ _) VB VA2) hZ (hw _ (List.mem_of_getElem? (i := 4) rfl)) (hw _ (List.mem_of_getElem? (i := 3) rfl)) (by decide) (by decide)) (g := (mkF m 241 #[.val (.int p1), .val (.long q1), .second, .val (.long q2), .second, .val (.long q3), .second, .val (.long q4), .second, .val (.int v1), .val (.int v2), .val (.long v4), .second, .val (.long v6), .second, .val (.long v16), .second, .val (.long v17), .second, .val (.ref b1), .val (.ref b2), .val (.int v21), .val (.int v25), .val (.int v29)] [(.ref b1), (.ref b2)])) rfl (by rw [hml]; rfl) (argsL := [(.ref b2), (.ref b1)]) (rest := []) (lenOf pd_0_0 rfl) rfl (by show 2 * 0 + _ ≤ _; exact Nat.le_of_eq rfl) (hb hby at_241) (fun _ _ => ⟨rfl, eB, (by decide : 2 + 0 ≤ _), (by decide : 4 + 0 ≤ _)⟩)
  dsimp only [Pt.U, Pt.locs, Pt.cells, Pt.slots] at X30 l30 y30 z30 st30 hQ30
  subst l30 y30 z30
  obtain ⟨rfl, N30q, e30⟩ := hQ30
  have N30 := Fr.app NB N30q
  have hfin : own_sub (own_lst v1 v16 v17) (own_lst v2 q3 q4) = v29 := by
    rw [hv29, hv28, hv25, hv24, hv21, hv20]
    exact own_fin v1 v2 v16 v17 q3 q4 v4 v6 hz9 hz10 hv4 hv6
  obtain ⟨fs, hr, hrun, hended, hW, hsame⟩ := X30.leave (v := some (.int (1 : Int32))) (fun h => by rw [Bd.returns] at h; cases h)
  refine ⟨_, _, pre0 _ ?_, hrun, hended, _, _, rfl, ?_, ⟨_, rfl⟩, hW, hsame.mono (by decide) (by decide)⟩
  · show Steps p.tables e below (s₁.setTop (mkF m 0 #[.val (.int p1), .val (.long q1), .second, .val (.long q2), .second, .val (.long q3), .second, .val (.long q4), .second, .unset, .unset, .unset, .unset, .unset, .unset, .unset, .unset, .unset, .unset, .unset, .unset, .unset, .unset, .unset] [])) _
    refine XS.iloadN X0.here hx rfl (hb hby at_0) rfl ?_
    show Steps p.tables e below (s₁.setTop (mkF m 1 #[.val (.int p1), .val (.long q1), .second, .val (.long q2), .second, .val (.long q3), .second, .val (.long q4), .second, .unset, .unset, .unset, .unset, .unset, .unset, .unset, .unset, .unset, .unset, .unset, .unset, .unset, .unset, .unset] [(.int p1)])) _
    refine XS.iconst X0.here hx rfl (hb hby at_1) ?_
    show Steps p.tables e below (s₁.setTop (mkF m 2 #[.val (.int p1), .val (.long q1), .second, .val (.long q2), .second, .val (.long q3), .second, .val (.long q4), .second, .unset, .unset, .unset, .unset, .unset, .unset, .unset, .unset, .unset, .unset, .unset, .unset, .unset, .unset, .unset] [(.int (3 : Int32)), (.int p1)])) _
    refine XS.iand X0.here hx rfl (hb hby at_2) rfl ?_
    show Steps p.tables e below (s₁.setTop (mkF m 3 #[.val (.int p1), .val (.long q1), .second, .val (.long q2), .second, .val (.long q3), .second, .val (.long q4), .second, .unset, .unset, .unset, .unset, .unset, .unset, .unset, .unset, .unset, .unset, .unset, .unset, .unset, .unset, .unset] [(.int (p1 &&& (3 : Int32)))])) _
    refine XS.iconst X0.here hx rfl (hb hby at_3) ?_
    show Steps p.tables e below (s₁.setTop (mkF m 4 #[.val (.int p1), .val (.long q1), .second, .val (.long q2), .second, .val (.long q3), .second, .val (.long q4), .second, .unset, .unset, .unset, .unset, .unset, .unset, .unset, .unset, .unset, .unset, .unset, .unset, .unset, .unset, .unset] [(.int (3 : Int32)), (.int (p1 &&& (3 : Int32)))])) _
    refine Jvm.RoadKit.iremM X0 hx rfl (hb hby at_4) rfl (by decide) ?_
    show Steps p.tables e below (s₁.setTop (mkF m 5 #[.val (.int p1), .val (.long q1), .second, .val (.long q2), .second, .val (.long q3), .second, .val (.long q4), .second, .unset, .unset, .unset, .unset, .unset, .unset, .unset, .unset, .unset, .unset, .unset, .unset, .unset, .unset, .unset] [(.int ((p1 &&& (3 : Int32)) % (3 : Int32)))])) _
    refine XS.istore X0.here hx rfl (hb hby at_5) rfl (l' := #[.val (.int p1), .val (.long q1), .second, .val (.long q2), .second, .val (.long q3), .second, .val (.long q4), .second, .val (.int ((p1 &&& (3 : Int32)) % (3 : Int32))), .unset, .unset, .unset, .unset, .unset, .unset, .unset, .unset, .unset, .unset, .unset, .unset, .unset, .unset]) rfl ?_
    refine castTop (g' := (mkF m 7 #[.val (.int p1), .val (.long q1), .second, .val (.long q2), .second, .val (.long q3), .second, .val (.long q4), .second, .val (.int v1), .unset, .unset, .unset, .unset, .unset, .unset, .unset, .unset, .unset, .unset, .unset, .unset, .unset, .unset] [])) (by rw [hv1]) ?_
    show Steps p.tables e below (s₁.setTop (mkF m 7 #[.val (.int p1), .val (.long q1), .second, .val (.long q2), .second, .val (.long q3), .second, .val (.long q4), .second, .val (.int v1), .unset, .unset, .unset, .unset, .unset, .unset, .unset, .unset, .unset, .unset, .unset, .unset, .unset, .unset] [])) _
    refine XS.iloadN X0.here hx rfl (hb hby at_7) rfl ?_
    show Steps p.tables e below (s₁.setTop (mkF m 8 #[.val (.int p1), .val (.long q1), .second, .val (.long q2), .second, .val (.long q3), .second, .val (.long q4), .second, .val (.int v1), .unset, .unset, .unset, .unset, .unset, .unset, .unset, .unset, .unset, .unset, .unset, .unset, .unset, .unset] [(.int p1)])) _
    refine XS.iconst X0.here hx rfl (hb hby at_8) ?_
    show Steps p.tables e below (s₁.setTop (mkF m 9 #[.val (.int p1), .val (.long q1), .second, .val (.long q2), .second, .val (.long q3), .second, .val (.long q4), .second, .val (.int v1), .unset, .unset, .unset, .unset, .unset, .unset, .unset, .unset, .unset, .unset, .unset, .unset, .unset, .unset] [(.int (2 : Int32)), (.int p1)])) _
    refine XS.iushr X0.here hx rfl (hb hby at_9) rfl ?_
    show Steps p.tables e below (s₁.setTop (mkF m 10 #[.val (.int p1), .val (.long q1), .second, .val (.long q2), .second, .val (.long q3), .second, .val (.long q4), .second, .val (.int v1), .unset, .unset, .unset, .unset, .unset, .unset, .unset, .unset, .unset, .unset, .unset, .unset, .unset, .unset] [(.int ((p1.toUInt32 >>> ((2 : Int32) &&& 31).toUInt32).toInt32))])) _
    refine XS.iconst X0.here hx rfl (hb hby at_10) ?_
    show Steps p.tables e below (s₁.setTop (mkF m 11 #[.val (.int p1), .val (.long q1), .second, .val (.long q2), .second, .val (.long q3), .second, .val (.long q4), .second, .val (.int v1), .unset, .unset, .unset, .unset, .unset, .unset, .unset, .unset, .unset, .unset, .unset, .unset, .unset, .unset] [(.int (3 : Int32)), (.int ((p1.toUInt32 >>> ((2 : Int32) &&& 31).toUInt32).toInt32))])) _
    refine XS.iand X0.here hx rfl (hb hby at_11) rfl ?_
    show Steps p.tables e below (s₁.setTop (mkF m 12 #[.val (.int p1), .val (.long q1), .second, .val (.long q2), .second, .val (.long q3), .second, .val (.long q4), .second, .val (.int v1), .unset, .unset, .unset, .unset, .unset, .unset, .unset, .unset, .unset, .unset, .unset, .unset, .unset, .unset] [(.int (((p1.toUInt32 >>> ((2 : Int32) &&& 31).toUInt32).toInt32) &&& (3 : Int32)))])) _
    refine XS.iconst X0.here hx rfl (hb hby at_12) ?_
    show Steps p.tables e below (s₁.setTop (mkF m 13 #[.val (.int p1), .val (.long q1), .second, .val (.long q2), .second, .val (.long q3), .second, .val (.long q4), .second, .val (.int v1), .unset, .unset, .unset, .unset, .unset, .unset, .unset, .unset, .unset, .unset, .unset, .unset, .unset, .unset] [(.int (3 : Int32)), (.int (((p1.toUInt32 >>> ((2 : Int32) &&& 31).toUInt32).toInt32) &&& (3 : Int32)))])) _
    refine Jvm.RoadKit.iremM X0 hx rfl (hb hby at_13) rfl (by decide) ?_
    show Steps p.tables e below (s₁.setTop (mkF m 14 #[.val (.int p1), .val (.long q1), .second, .val (.long q2), .second, .val (.long q3), .second, .val (.long q4), .second, .val (.int v1), .unset, .unset, .unset, .unset, .unset, .unset, .unset, .unset, .unset, .unset, .unset, .unset, .unset, .unset] [(.int ((((p1.toUInt32 >>> ((2 : Int32) &&& 31).toUInt32).toInt32) &&& (3 : Int32)) % (3 : Int32)))])) _
    refine XS.istore X0.here hx rfl (hb hby at_14) rfl (l' := #[.val (.int p1), .val (.long q1), .second, .val (.long q2), .second, .val (.long q3), .second, .val (.long q4), .second, .val (.int v1), .val (.int ((((p1.toUInt32 >>> ((2 : Int32) &&& 31).toUInt32).toInt32) &&& (3 : Int32)) % (3 : Int32))), .unset, .unset, .unset, .unset, .unset, .unset, .unset, .unset, .unset, .unset, .unset, .unset, .unset]) rfl ?_
    refine castTop (g' := (mkF m 16 #[.val (.int p1), .val (.long q1), .second, .val (.long q2), .second, .val (.long q3), .second, .val (.long q4), .second, .val (.int v1), .val (.int v2), .unset, .unset, .unset, .unset, .unset, .unset, .unset, .unset, .unset, .unset, .unset, .unset, .unset] [])) (by rw [hv2]) ?_
    show Steps p.tables e below (s₁.setTop (mkF m 16 #[.val (.int p1), .val (.long q1), .second, .val (.long q2), .second, .val (.long q3), .second, .val (.long q4), .second, .val (.int v1), .val (.int v2), .unset, .unset, .unset, .unset, .unset, .unset, .unset, .unset, .unset, .unset, .unset, .unset, .unset] [])) _
    refine XS.iload X0.here hx rfl (hb hby at_16) rfl ?_
    have sg3 : ∀ t, Steps p.tables e below (s₁.setTop (mkF m 27 #[.val (.int p1), .val (.long q1), .second, .val (.long q2), .second, .val (.long q3), .second, .val (.long q4), .second, .val (.int v1), .val (.int v2), .unset, .unset, .unset, .unset, .unset, .unset, .unset, .unset, .unset, .unset, .unset, .unset, .unset] [(.long v4)])) t → Steps p.tables e below (s₁.setTop (mkF m 18 #[.val (.int p1), .val (.long q1), .second, .val (.long q2), .second, .val (.long q3), .second, .val (.long q4), .second, .val (.int v1), .val (.int v2), .unset, .unset, .unset, .unset, .unset, .unset, .unset, .unset, .unset, .unset, .unset, .unset, .unset] [(.int v2)])) t := by
      intro t k
      by_cases hc3 : ((0 : Int32) < v2)
      · rw [show v4 = q3 from by rw [hv4, if_pos hc3]] at k
        show Steps p.tables e below (s₁.setTop (mkF m 18 #[.val (.int p1), .val (.long q1), .second, .val (.long q2), .second, .val (.long q3), .second, .val (.long q4), .second, .val (.int v1), .val (.int v2), .unset, .unset, .unset, .unset, .unset, .unset, .unset, .unset, .unset, .unset, .unset, .unset, .unset] [(.int v2)])) _
        refine XS.ifNo X0.here hx rfl (hb hby at_18) rfl ((if0 _ _).trans (tlt hc3).2.2.2) ?_
        show Steps p.tables e below (s₁.setTop (mkF m 21 #[.val (.int p1), .val (.long q1), .second, .val (.long q2), .second, .val (.long q3), .second, .val (.long q4), .second, .val (.int v1), .val (.int v2), .unset, .unset, .unset, .unset, .unset, .unset, .unset, .unset, .unset, .unset, .unset, .unset, .unset] [])) _
        refine XS.lload X0.here hx rfl (hb hby at_21) rfl ?_
        show Steps p.tables e below (s₁.setTop (mkF m 23 #[.val (.int p1), .val (.long q1), .second, .val (.long q2), .second, .val (.long q3), .second, .val (.long q4), .second, .val (.int v1), .val (.int v2), .unset, .unset, .unset, .unset, .unset, .unset, .unset, .unset, .unset, .unset, .unset, .unset, .unset] [(.long q3)])) _
        refine XS.goto X0.here hx rfl (pc0 := 23) (pc' := 27) rfl (hb hby at_23) (by decide) (by decide) ?_
        exact k
      · rw [show v4 = (0 : Int64) from by rw [hv4, if_neg hc3]] at k
        show Steps p.tables e below (s₁.setTop (mkF m 18 #[.val (.int p1), .val (.long q1), .second, .val (.long q2), .second, .val (.long q3), .second, .val (.long q4), .second, .val (.int v1), .val (.int v2), .unset, .unset, .unset, .unset, .unset, .unset, .unset, .unset, .unset, .unset, .unset, .unset, .unset] [(.int v2)])) _
        refine XS.ifYes X0.here hx rfl (pc0 := 18) (pc' := 26) rfl (hb hby at_18) rfl ((if0 _ _).trans (flt hc3).2.2.2) (by decide) (by decide) ?_
        show Steps p.tables e below (s₁.setTop (mkF m 26 #[.val (.int p1), .val (.long q1), .second, .val (.long q2), .second, .val (.long q3), .second, .val (.long q4), .second, .val (.int v1), .val (.int v2), .unset, .unset, .unset, .unset, .unset, .unset, .unset, .unset, .unset, .unset, .unset, .unset, .unset] [])) _
        refine XS.lconst X0.here hx rfl (hb hby at_26) ?_
        exact k
    refine sg3 _ ?_
    show Steps p.tables e below (s₁.setTop (mkF m 27 #[.val (.int p1), .val (.long q1), .second, .val (.long q2), .second, .val (.long q3), .second, .val (.long q4), .second, .val (.int v1), .val (.int v2), .unset, .unset, .unset, .unset, .unset, .unset, .unset, .unset, .unset, .unset, .unset, .unset, .unset] [(.long v4)])) _
    refine XS.lstore X0.here hx rfl (hb hby at_27) rfl (l' := #[.val (.int p1), .val (.long q1), .second, .val (.long q2), .second, .val (.long q3), .second, .val (.long q4), .second, .val (.int v1), .val (.int v2), .val (.long v4), .second, .unset, .unset, .unset, .unset, .unset, .unset, .unset, .unset, .unset, .unset, .unset]) rfl ?_
    show Steps p.tables e below (s₁.setTop (mkF m 29 #[.val (.int p1), .val (.long q1), .second, .val (.long q2), .second, .val (.long q3), .second, .val (.long q4), .second, .val (.int v1), .val (.int v2), .val (.long v4), .second, .unset, .unset, .unset, .unset, .unset, .unset, .unset, .unset, .unset, .unset, .unset] [])) _
    refine XS.iload X0.here hx rfl (hb hby at_29) rfl ?_
    show Steps p.tables e below (s₁.setTop (mkF m 31 #[.val (.int p1), .val (.long q1), .second, .val (.long q2), .second, .val (.long q3), .second, .val (.long q4), .second, .val (.int v1), .val (.int v2), .val (.long v4), .second, .unset, .unset, .unset, .unset, .unset, .unset, .unset, .unset, .unset, .unset, .unset] [(.int v2)])) _
    refine XS.iconst X0.here hx rfl (hb hby at_31) ?_
    have sg5 : ∀ t, Steps p.tables e below (s₁.setTop (mkF m 41 #[.val (.int p1), .val (.long q1), .second, .val (.long q2), .second, .val (.long q3), .second, .val (.long q4), .second, .val (.int v1), .val (.int v2), .val (.long v4), .second, .unset, .unset, .unset, .unset, .unset, .unset, .unset, .unset, .unset, .unset, .unset] [(.long v6)])) t → Steps p.tables e below (s₁.setTop (mkF m 32 #[.val (.int p1), .val (.long q1), .second, .val (.long q2), .second, .val (.long q3), .second, .val (.long q4), .second, .val (.int v1), .val (.int v2), .val (.long v4), .second, .unset, .unset, .unset, .unset, .unset, .unset, .unset, .unset, .unset, .unset, .unset] [(.int (1 : Int32)), (.int v2)])) t := by
      intro t k
      by_cases hc5 : ((1 : Int32) < v2)
      · rw [show v6 = q4 from by rw [hv6, if_pos hc5]] at k
        show Steps p.tables e below (s₁.setTop (mkF m 32 #[.val (.int p1), .val (.long q1), .second, .val (.long q2), .second, .val (.long q3), .second, .val (.long q4), .second, .val (.int v1), .val (.int v2), .val (.long v4), .second, .unset, .unset, .unset, .unset, .unset, .unset, .unset, .unset, .unset, .unset, .unset] [(.int (1 : Int32)), (.int v2)])) _
        refine XS.icmpNo X0.here hx rfl (hb hby at_32) rfl (tlt hc5).2.2.2 ?_
        show Steps p.tables e below (s₁.setTop (mkF m 35 #[.val (.int p1), .val (.long q1), .second, .val (.long q2), .second, .val (.long q3), .second, .val (.long q4), .second, .val (.int v1), .val (.int v2), .val (.long v4), .second, .unset, .unset, .unset, .unset, .unset, .unset, .unset, .unset, .unset, .unset, .unset] [])) _
        refine XS.lload X0.here hx rfl (hb hby at_35) rfl ?_
        show Steps p.tables e below (s₁.setTop (mkF m 37 #[.val (.int p1), .val (.long q1), .second, .val (.long q2), .second, .val (.long q3), .second, .val (.long q4), .second, .val (.int v1), .val (.int v2), .val (.long v4), .second, .unset, .unset, .unset, .unset, .unset, .unset, .unset, .unset, .unset, .unset, .unset] [(.long q4)])) _
        refine XS.goto X0.here hx rfl (pc0 := 37) (pc' := 41) rfl (hb hby at_37) (by decide) (by decide) ?_
        exact k
      · rw [show v6 = (0 : Int64) from by rw [hv6, if_neg hc5]] at k
        show Steps p.tables e below (s₁.setTop (mkF m 32 #[.val (.int p1), .val (.long q1), .second, .val (.long q2), .second, .val (.long q3), .second, .val (.long q4), .second, .val (.int v1), .val (.int v2), .val (.long v4), .second, .unset, .unset, .unset, .unset, .unset, .unset, .unset, .unset, .unset, .unset, .unset] [(.int (1 : Int32)), (.int v2)])) _
        refine XS.icmpYes X0.here hx rfl (pc0 := 32) (pc' := 40) rfl (hb hby at_32) rfl (flt hc5).2.2.2 (by decide) (by decide) ?_
        show Steps p.tables e below (s₁.setTop (mkF m 40 #[.val (.int p1), .val (.long q1), .second, .val (.long q2), .second, .val (.long q3), .second, .val (.long q4), .second, .val (.int v1), .val (.int v2), .val (.long v4), .second, .unset, .unset, .unset, .unset, .unset, .unset, .unset, .unset, .unset, .unset, .unset] [])) _
        refine XS.lconst X0.here hx rfl (hb hby at_40) ?_
        exact k
    refine sg5 _ ?_
    show Steps p.tables e below (s₁.setTop (mkF m 41 #[.val (.int p1), .val (.long q1), .second, .val (.long q2), .second, .val (.long q3), .second, .val (.long q4), .second, .val (.int v1), .val (.int v2), .val (.long v4), .second, .unset, .unset, .unset, .unset, .unset, .unset, .unset, .unset, .unset, .unset, .unset] [(.long v6)])) _
    refine XS.lstore X0.here hx rfl (hb hby at_41) rfl (l' := #[.val (.int p1), .val (.long q1), .second, .val (.long q2), .second, .val (.long q3), .second, .val (.long q4), .second, .val (.int v1), .val (.int v2), .val (.long v4), .second, .val (.long v6), .second, .unset, .unset, .unset, .unset, .unset, .unset, .unset, .unset, .unset]) rfl ?_
    show Steps p.tables e below (s₁.setTop (mkF m 43 #[.val (.int p1), .val (.long q1), .second, .val (.long q2), .second, .val (.long q3), .second, .val (.long q4), .second, .val (.int v1), .val (.int v2), .val (.long v4), .second, .val (.long v6), .second, .unset, .unset, .unset, .unset, .unset, .unset, .unset, .unset, .unset] [])) _
    refine XS.lloadN X0.here hx rfl (hb hby at_43) rfl ?_
    show Steps p.tables e below (s₁.setTop (mkF m 44 #[.val (.int p1), .val (.long q1), .second, .val (.long q2), .second, .val (.long q3), .second, .val (.long q4), .second, .val (.int v1), .val (.int v2), .val (.long v4), .second, .val (.long v6), .second, .unset, .unset, .unset, .unset, .unset, .unset, .unset, .unset, .unset] [(.long q1)])) _
    refine XS.lstore X0.here hx rfl (hb hby at_44) rfl (l' := #[.val (.int p1), .val (.long q1), .second, .val (.long q2), .second, .val (.long q3), .second, .val (.long q4), .second, .val (.int v1), .val (.int v2), .val (.long v4), .second, .val (.long v6), .second, .val (.long q1), .second, .unset, .unset, .unset, .unset, .unset, .unset, .unset]) rfl ?_
    show Steps p.tables e below (s₁.setTop (mkF m 46 #[.val (.int p1), .val (.long q1), .second, .val (.long q2), .second, .val (.long q3), .second, .val (.long q4), .second, .val (.int v1), .val (.int v2), .val (.long v4), .second, .val (.long v6), .second, .val (.long q1), .second, .unset, .unset, .unset, .unset, .unset, .unset, .unset] [])) _
    refine XS.lloadN X0.here hx rfl (hb hby at_46) rfl ?_
    show Steps p.tables e below (s₁.setTop (mkF m 47 #[.val (.int p1), .val (.long q1), .second, .val (.long q2), .second, .val (.long q3), .second, .val (.long q4), .second, .val (.int v1), .val (.int v2), .val (.long v4), .second, .val (.long v6), .second, .val (.long q1), .second, .unset, .unset, .unset, .unset, .unset, .unset, .unset] [(.long q2)])) _
    refine XS.lstore X0.here hx rfl (hb hby at_47) rfl (l' := #[.val (.int p1), .val (.long q1), .second, .val (.long q2), .second, .val (.long q3), .second, .val (.long q4), .second, .val (.int v1), .val (.int v2), .val (.long v4), .second, .val (.long v6), .second, .val (.long q1), .second, .val (.long q2), .second, .unset, .unset, .unset, .unset, .unset]) rfl ?_
    show Steps p.tables e below (s₁.setTop (mkF m 49 #[.val (.int p1), .val (.long q1), .second, .val (.long q2), .second, .val (.long q3), .second, .val (.long q4), .second, .val (.int v1), .val (.int v2), .val (.long v4), .second, .val (.long v6), .second, .val (.long q1), .second, .val (.long q2), .second, .unset, .unset, .unset, .unset, .unset] [])) _
    refine XS.iloadN X0.here hx rfl (hb hby at_49) rfl ?_
    show Steps p.tables e below (s₁.setTop (mkF m 50 #[.val (.int p1), .val (.long q1), .second, .val (.long q2), .second, .val (.long q3), .second, .val (.long q4), .second, .val (.int v1), .val (.int v2), .val (.long v4), .second, .val (.long v6), .second, .val (.long q1), .second, .val (.long q2), .second, .unset, .unset, .unset, .unset, .unset] [(.int p1)])) _
    refine XS.iconst X0.here hx rfl (hb hby at_50) ?_
    show Steps p.tables e below (s₁.setTop (mkF m 51 #[.val (.int p1), .val (.long q1), .second, .val (.long q2), .second, .val (.long q3), .second, .val (.long q4), .second, .val (.int v1), .val (.int v2), .val (.long v4), .second, .val (.long v6), .second, .val (.long q1), .second, .val (.long q2), .second, .unset, .unset, .unset, .unset, .unset] [(.int (4 : Int32)), (.int p1)])) _
    refine XS.iushr X0.here hx rfl (hb hby at_51) rfl ?_
    show Steps p.tables e below (s₁.setTop (mkF m 52 #[.val (.int p1), .val (.long q1), .second, .val (.long q2), .second, .val (.long q3), .second, .val (.long q4), .second, .val (.int v1), .val (.int v2), .val (.long v4), .second, .val (.long v6), .second, .val (.long q1), .second, .val (.long q2), .second, .unset, .unset, .unset, .unset, .unset] [(.int ((p1.toUInt32 >>> ((4 : Int32) &&& 31).toUInt32).toInt32))])) _
    refine XS.iconst X0.here hx rfl (hb hby at_52) ?_
    show Steps p.tables e below (s₁.setTop (mkF m 53 #[.val (.int p1), .val (.long q1), .second, .val (.long q2), .second, .val (.long q3), .second, .val (.long q4), .second, .val (.int v1), .val (.int v2), .val (.long v4), .second, .val (.long v6), .second, .val (.long q1), .second, .val (.long q2), .second, .unset, .unset, .unset, .unset, .unset] [(.int (1 : Int32)), (.int ((p1.toUInt32 >>> ((4 : Int32) &&& 31).toUInt32).toInt32))])) _
    refine XS.iand X0.here hx rfl (hb hby at_53) rfl ?_
    have sg7 : ∀ t, Steps p.tables e below (s₁.setTop (mkF m 69 #[.val (.int p1), .val (.long q1), .second, .val (.long q2), .second, .val (.long q3), .second, .val (.long q4), .second, .val (.int v1), .val (.int v2), .val (.long v4), .second, .val (.long v6), .second, .val (.long v10), .second, .val (.long v11), .second, .unset, .unset, .unset, .unset, .unset] [])) t → Steps p.tables e below (s₁.setTop (mkF m 54 #[.val (.int p1), .val (.long q1), .second, .val (.long q2), .second, .val (.long q3), .second, .val (.long q4), .second, .val (.int v1), .val (.int v2), .val (.long v4), .second, .val (.long v6), .second, .val (.long q1), .second, .val (.long q2), .second, .unset, .unset, .unset, .unset, .unset] [(.int (((p1.toUInt32 >>> ((4 : Int32) &&& 31).toUInt32).toInt32) &&& (1 : Int32)))])) t := by
      intro t k
      by_cases hc7 : ((((p1.toUInt32 >>> ((4 : Int32) &&& 31).toUInt32).toInt32) &&& (1 : Int32)) = (0 : Int32))
      · rw [show v10 = q1 from by rw [hv10, if_pos hc7]] at k
        rw [show v11 = q2 from by rw [hv11, if_pos hc7]] at k
        show Steps p.tables e below (s₁.setTop (mkF m 54 #[.val (.int p1), .val (.long q1), .second, .val (.long q2), .second, .val (.long q3), .second, .val (.long q4), .second, .val (.int v1), .val (.int v2), .val (.long v4), .second, .val (.long v6), .second, .val (.long q1), .second, .val (.long q2), .second, .unset, .unset, .unset, .unset, .unset] [(.int (((p1.toUInt32 >>> ((4 : Int32) &&& 31).toUInt32).toInt32) &&& (1 : Int32)))])) _
        refine XS.ifYes X0.here hx rfl (pc0 := 54) (pc' := 69) rfl (hb hby at_54) rfl ((if0 _ _).trans (teq hc7).1) (by decide) (by decide) ?_
        exact k
      · rw [show v10 = v8 from by rw [hv10, if_neg hc7]] at k
        rw [show v11 = v9 from by rw [hv11, if_neg hc7]] at k
        show Steps p.tables e below (s₁.setTop (mkF m 54 #[.val (.int p1), .val (.long q1), .second, .val (.long q2), .second, .val (.long q3), .second, .val (.long q4), .second, .val (.int v1), .val (.int v2), .val (.long v4), .second, .val (.long v6), .second, .val (.long q1), .second, .val (.long q2), .second, .unset, .unset, .unset, .unset, .unset] [(.int (((p1.toUInt32 >>> ((4 : Int32) &&& 31).toUInt32).toInt32) &&& (1 : Int32)))])) _
        refine XS.ifNo X0.here hx rfl (hb hby at_54) rfl ((if0 _ _).trans (feq hc7).1) ?_
        show Steps p.tables e below (s₁.setTop (mkF m 57 #[.val (.int p1), .val (.long q1), .second, .val (.long q2), .second, .val (.long q3), .second, .val (.long q4), .second, .val (.int v1), .val (.int v2), .val (.long v4), .second, .val (.long v6), .second, .val (.long q1), .second, .val (.long q2), .second, .unset, .unset, .unset, .unset, .unset] [])) _
        refine XS.lloadN X0.here hx rfl (hb hby at_57) rfl ?_
        show Steps p.tables e below (s₁.setTop (mkF m 58 #[.val (.int p1), .val (.long q1), .second, .val (.long q2), .second, .val (.long q3), .second, .val (.long q4), .second, .val (.int v1), .val (.int v2), .val (.long v4), .second, .val (.long v6), .second, .val (.long q1), .second, .val (.long q2), .second, .unset, .unset, .unset, .unset, .unset] [(.long q1)])) _
        refine XS.lload X0.here hx rfl (hb hby at_58) rfl ?_
        show Steps p.tables e below (s₁.setTop (mkF m 60 #[.val (.int p1), .val (.long q1), .second, .val (.long q2), .second, .val (.long q3), .second, .val (.long q4), .second, .val (.int v1), .val (.int v2), .val (.long v4), .second, .val (.long v6), .second, .val (.long q1), .second, .val (.long q2), .second, .unset, .unset, .unset, .unset, .unset] [(.long v4), (.long q1)])) _
        refine XS.land X0.here hx rfl (hb hby at_60) rfl ?_
        show Steps p.tables e below (s₁.setTop (mkF m 61 #[.val (.int p1), .val (.long q1), .second, .val (.long q2), .second, .val (.long q3), .second, .val (.long q4), .second, .val (.int v1), .val (.int v2), .val (.long v4), .second, .val (.long v6), .second, .val (.long q1), .second, .val (.long q2), .second, .unset, .unset, .unset, .unset, .unset] [(.long (q1 &&& v4))])) _
        refine XS.lstore X0.here hx rfl (hb hby at_61) rfl (l' := #[.val (.int p1), .val (.long q1), .second, .val (.long q2), .second, .val (.long q3), .second, .val (.long q4), .second, .val (.int v1), .val (.int v2), .val (.long v4), .second, .val (.long v6), .second, .val (.long (q1 &&& v4)), .second, .val (.long q2), .second, .unset, .unset, .unset, .unset, .unset]) rfl ?_
        refine castTop (g' := (mkF m 63 #[.val (.int p1), .val (.long q1), .second, .val (.long q2), .second, .val (.long q3), .second, .val (.long q4), .second, .val (.int v1), .val (.int v2), .val (.long v4), .second, .val (.long v6), .second, .val (.long v8), .second, .val (.long q2), .second, .unset, .unset, .unset, .unset, .unset] [])) (by rw [hv8]) ?_
        show Steps p.tables e below (s₁.setTop (mkF m 63 #[.val (.int p1), .val (.long q1), .second, .val (.long q2), .second, .val (.long q3), .second, .val (.long q4), .second, .val (.int v1), .val (.int v2), .val (.long v4), .second, .val (.long v6), .second, .val (.long v8), .second, .val (.long q2), .second, .unset, .unset, .unset, .unset, .unset] [])) _
        refine XS.lloadN X0.here hx rfl (hb hby at_63) rfl ?_
        show Steps p.tables e below (s₁.setTop (mkF m 64 #[.val (.int p1), .val (.long q1), .second, .val (.long q2), .second, .val (.long q3), .second, .val (.long q4), .second, .val (.int v1), .val (.int v2), .val (.long v4), .second, .val (.long v6), .second, .val (.long v8), .second, .val (.long q2), .second, .unset, .unset, .unset, .unset, .unset] [(.long q2)])) _
        refine XS.lload X0.here hx rfl (hb hby at_64) rfl ?_
        show Steps p.tables e below (s₁.setTop (mkF m 66 #[.val (.int p1), .val (.long q1), .second, .val (.long q2), .second, .val (.long q3), .second, .val (.long q4), .second, .val (.int v1), .val (.int v2), .val (.long v4), .second, .val (.long v6), .second, .val (.long v8), .second, .val (.long q2), .second, .unset, .unset, .unset, .unset, .unset] [(.long v6), (.long q2)])) _
        refine XS.land X0.here hx rfl (hb hby at_66) rfl ?_
        show Steps p.tables e below (s₁.setTop (mkF m 67 #[.val (.int p1), .val (.long q1), .second, .val (.long q2), .second, .val (.long q3), .second, .val (.long q4), .second, .val (.int v1), .val (.int v2), .val (.long v4), .second, .val (.long v6), .second, .val (.long v8), .second, .val (.long q2), .second, .unset, .unset, .unset, .unset, .unset] [(.long (q2 &&& v6))])) _
        refine XS.lstore X0.here hx rfl (hb hby at_67) rfl (l' := #[.val (.int p1), .val (.long q1), .second, .val (.long q2), .second, .val (.long q3), .second, .val (.long q4), .second, .val (.int v1), .val (.int v2), .val (.long v4), .second, .val (.long v6), .second, .val (.long v8), .second, .val (.long (q2 &&& v6)), .second, .unset, .unset, .unset, .unset, .unset]) rfl ?_
        refine castTop (g' := (mkF m 69 #[.val (.int p1), .val (.long q1), .second, .val (.long q2), .second, .val (.long q3), .second, .val (.long q4), .second, .val (.int v1), .val (.int v2), .val (.long v4), .second, .val (.long v6), .second, .val (.long v8), .second, .val (.long v9), .second, .unset, .unset, .unset, .unset, .unset] [])) (by rw [hv9]) ?_
        exact k
    refine sg7 _ ?_
    show Steps p.tables e below (s₁.setTop (mkF m 69 #[.val (.int p1), .val (.long q1), .second, .val (.long q2), .second, .val (.long q3), .second, .val (.long q4), .second, .val (.int v1), .val (.int v2), .val (.long v4), .second, .val (.long v6), .second, .val (.long v10), .second, .val (.long v11), .second, .unset, .unset, .unset, .unset, .unset] [])) _
    refine XS.iloadN X0.here hx rfl (hb hby at_69) rfl ?_
    show Steps p.tables e below (s₁.setTop (mkF m 70 #[.val (.int p1), .val (.long q1), .second, .val (.long q2), .second, .val (.long q3), .second, .val (.long q4), .second, .val (.int v1), .val (.int v2), .val (.long v4), .second, .val (.long v6), .second, .val (.long v10), .second, .val (.long v11), .second, .unset, .unset, .unset, .unset, .unset] [(.int p1)])) _
    refine XS.iconst X0.here hx rfl (hb hby at_70) ?_
    show Steps p.tables e below (s₁.setTop (mkF m 71 #[.val (.int p1), .val (.long q1), .second, .val (.long q2), .second, .val (.long q3), .second, .val (.long q4), .second, .val (.int v1), .val (.int v2), .val (.long v4), .second, .val (.long v6), .second, .val (.long v10), .second, .val (.long v11), .second, .unset, .unset, .unset, .unset, .unset] [(.int (5 : Int32)), (.int p1)])) _
    refine XS.iushr X0.here hx rfl (hb hby at_71) rfl ?_
    show Steps p.tables e below (s₁.setTop (mkF m 72 #[.val (.int p1), .val (.long q1), .second, .val (.long q2), .second, .val (.long q3), .second, .val (.long q4), .second, .val (.int v1), .val (.int v2), .val (.long v4), .second, .val (.long v6), .second, .val (.long v10), .second, .val (.long v11), .second, .unset, .unset, .unset, .unset, .unset] [(.int ((p1.toUInt32 >>> ((5 : Int32) &&& 31).toUInt32).toInt32))])) _
    refine XS.iconst X0.here hx rfl (hb hby at_72) ?_
    show Steps p.tables e below (s₁.setTop (mkF m 73 #[.val (.int p1), .val (.long q1), .second, .val (.long q2), .second, .val (.long q3), .second, .val (.long q4), .second, .val (.int v1), .val (.int v2), .val (.long v4), .second, .val (.long v6), .second, .val (.long v10), .second, .val (.long v11), .second, .unset, .unset, .unset, .unset, .unset] [(.int (1 : Int32)), (.int ((p1.toUInt32 >>> ((5 : Int32) &&& 31).toUInt32).toInt32))])) _
    refine XS.iand X0.here hx rfl (hb hby at_73) rfl ?_
    show Steps p.tables e below (s₁.setTop (mkF m 74 #[.val (.int p1), .val (.long q1), .second, .val (.long q2), .second, .val (.long q3), .second, .val (.long q4), .second, .val (.int v1), .val (.int v2), .val (.long v4), .second, .val (.long v6), .second, .val (.long v10), .second, .val (.long v11), .second, .unset, .unset, .unset, .unset, .unset] [(.int (((p1.toUInt32 >>> ((5 : Int32) &&& 31).toUInt32).toInt32) &&& (1 : Int32)))])) _
    refine XS.ifNo X0.here hx rfl (hb hby at_74) rfl ((if0 _ _).trans (feq hb5).1) ?_
    show Steps p.tables e below (s₁.setTop (mkF m 77 #[.val (.int p1), .val (.long q1), .second, .val (.long q2), .second, .val (.long q3), .second, .val (.long q4), .second, .val (.int v1), .val (.int v2), .val (.long v4), .second, .val (.long v6), .second, .val (.long v10), .second, .val (.long v11), .second, .unset, .unset, .unset, .unset, .unset] [])) _
    refine XS.lconst X0.here hx rfl (hb hby at_77) ?_
    show Steps p.tables e below (s₁.setTop (mkF m 78 #[.val (.int p1), .val (.long q1), .second, .val (.long q2), .second, .val (.long q3), .second, .val (.long q4), .second, .val (.int v1), .val (.int v2), .val (.long v4), .second, .val (.long v6), .second, .val (.long v10), .second, .val (.long v11), .second, .unset, .unset, .unset, .unset, .unset] [(.long (1 : Int64))])) _
    refine XS.iloadN X0.here hx rfl (hb hby at_78) rfl ?_
    show Steps p.tables e below (s₁.setTop (mkF m 79 #[.val (.int p1), .val (.long q1), .second, .val (.long q2), .second, .val (.long q3), .second, .val (.long q4), .second, .val (.int v1), .val (.int v2), .val (.long v4), .second, .val (.long v6), .second, .val (.long v10), .second, .val (.long v11), .second, .unset, .unset, .unset, .unset, .unset] [(.int p1), (.long (1 : Int64))])) _
    refine XS.bipush X0.here hx rfl (hb hby at_79) ?_
    show Steps p.tables e below (s₁.setTop (mkF m 81 #[.val (.int p1), .val (.long q1), .second, .val (.long q2), .second, .val (.long q3), .second, .val (.long q4), .second, .val (.int v1), .val (.int v2), .val (.long v4), .second, .val (.long v6), .second, .val (.long v10), .second, .val (.long v11), .second, .unset, .unset, .unset, .unset, .unset] [(.int (7 : Int32)), (.int p1), (.long (1 : Int64))])) _
    refine XS.iushr X0.here hx rfl (hb hby at_81) rfl ?_
    show Steps p.tables e below (s₁.setTop (mkF m 82 #[.val (.int p1), .val (.long q1), .second, .val (.long q2), .second, .val (.long q3), .second, .val (.long q4), .second, .val (.int v1), .val (.int v2), .val (.long v4), .second, .val (.long v6), .second, .val (.long v10), .second, .val (.long v11), .second, .unset, .unset, .unset, .unset, .unset] [(.int ((p1.toUInt32 >>> ((7 : Int32) &&& 31).toUInt32).toInt32)), (.long (1 : Int64))])) _
    refine XS.bipush X0.here hx rfl (hb hby at_82) ?_
    show Steps p.tables e below (s₁.setTop (mkF m 84 #[.val (.int p1), .val (.long q1), .second, .val (.long q2), .second, .val (.long q3), .second, .val (.long q4), .second, .val (.int v1), .val (.int v2), .val (.long v4), .second, .val (.long v6), .second, .val (.long v10), .second, .val (.long v11), .second, .unset, .unset, .unset, .unset, .unset] [(.int (63 : Int32)), (.int ((p1.toUInt32 >>> ((7 : Int32) &&& 31).toUInt32).toInt32)), (.long (1 : Int64))])) _
    refine XS.iand X0.here hx rfl (hb hby at_84) rfl ?_
    show Steps p.tables e below (s₁.setTop (mkF m 85 #[.val (.int p1), .val (.long q1), .second, .val (.long q2), .second, .val (.long q3), .second, .val (.long q4), .second, .val (.int v1), .val (.int v2), .val (.long v4), .second, .val (.long v6), .second, .val (.long v10), .second, .val (.long v11), .second, .unset, .unset, .unset, .unset, .unset] [(.int (((p1.toUInt32 >>> ((7 : Int32) &&& 31).toUInt32).toInt32) &&& (63 : Int32))), (.long (1 : Int64))])) _
    refine XS.lshl X0.here hx rfl (hb hby at_85) rfl ?_
    show Steps p.tables e below (s₁.setTop (mkF m 86 #[.val (.int p1), .val (.long q1), .second, .val (.long q2), .second, .val (.long q3), .second, .val (.long q4), .second, .val (.int v1), .val (.int v2), .val (.long v4), .second, .val (.long v6), .second, .val (.long v10), .second, .val (.long v11), .second, .unset, .unset, .unset, .unset, .unset] [(.long ((1 : Int64) <<< ((((p1.toUInt32 >>> ((7 : Int32) &&& 31).toUInt32).toInt32) &&& (63 : Int32)) &&& 0x3f).toInt64))])) _
    refine XS.lstore X0.here hx rfl (hb hby at_86) rfl (l' := #[.val (.int p1), .val (.long q1), .second, .val (.long q2), .second, .val (.long q3), .second, .val (.long q4), .second, .val (.int v1), .val (.int v2), .val (.long v4), .second, .val (.long v6), .second, .val (.long v10), .second, .val (.long v11), .second, .val (.long ((1 : Int64) <<< ((((p1.toUInt32 >>> ((7 : Int32) &&& 31).toUInt32).toInt32) &&& (63 : Int32)) &&& 0x3f).toInt64)), .second, .unset, .unset, .unset]) rfl ?_
    refine castTop (g' := (mkF m 88 #[.val (.int p1), .val (.long q1), .second, .val (.long q2), .second, .val (.long q3), .second, .val (.long q4), .second, .val (.int v1), .val (.int v2), .val (.long v4), .second, .val (.long v6), .second, .val (.long v10), .second, .val (.long v11), .second, .val (.long v12), .second, .unset, .unset, .unset] [])) (by rw [hv12]) ?_
    show Steps p.tables e below (s₁.setTop (mkF m 88 #[.val (.int p1), .val (.long q1), .second, .val (.long q2), .second, .val (.long q3), .second, .val (.long q4), .second, .val (.int v1), .val (.int v2), .val (.long v4), .second, .val (.long v6), .second, .val (.long v10), .second, .val (.long v11), .second, .val (.long v12), .second, .unset, .unset, .unset] [])) _
    refine XS.iloadN X0.here hx rfl (hb hby at_88) rfl ?_
    show Steps p.tables e below (s₁.setTop (mkF m 89 #[.val (.int p1), .val (.long q1), .second, .val (.long q2), .second, .val (.long q3), .second, .val (.long q4), .second, .val (.int v1), .val (.int v2), .val (.long v4), .second, .val (.long v6), .second, .val (.long v10), .second, .val (.long v11), .second, .val (.long v12), .second, .unset, .unset, .unset] [(.int p1)])) _
    refine XS.bipush X0.here hx rfl (hb hby at_89) ?_
    show Steps p.tables e below (s₁.setTop (mkF m 91 #[.val (.int p1), .val (.long q1), .second, .val (.long q2), .second, .val (.long q3), .second, .val (.long q4), .second, .val (.int v1), .val (.int v2), .val (.long v4), .second, .val (.long v6), .second, .val (.long v10), .second, .val (.long v11), .second, .val (.long v12), .second, .unset, .unset, .unset] [(.int (6 : Int32)), (.int p1)])) _
    refine XS.iushr X0.here hx rfl (hb hby at_91) rfl ?_
    show Steps p.tables e below (s₁.setTop (mkF m 92 #[.val (.int p1), .val (.long q1), .second, .val (.long q2), .second, .val (.long q3), .second, .val (.long q4), .second, .val (.int v1), .val (.int v2), .val (.long v4), .second, .val (.long v6), .second, .val (.long v10), .second, .val (.long v11), .second, .val (.long v12), .second, .unset, .unset, .unset] [(.int ((p1.toUInt32 >>> ((6 : Int32) &&& 31).toUInt32).toInt32))])) _
    refine XS.iconst X0.here hx rfl (hb hby at_92) ?_
    show Steps p.tables e below (s₁.setTop (mkF m 93 #[.val (.int p1), .val (.long q1), .second, .val (.long q2), .second, .val (.long q3), .second, .val (.long q4), .second, .val (.int v1), .val (.int v2), .val (.long v4), .second, .val (.long v6), .second, .val (.long v10), .second, .val (.long v11), .second, .val (.long v12), .second, .unset, .unset, .unset] [(.int (1 : Int32)), (.int ((p1.toUInt32 >>> ((6 : Int32) &&& 31).toUInt32).toInt32))])) _
    refine XS.iand X0.here hx rfl (hb hby at_93) rfl ?_
    have sg13 : ∀ t, Steps p.tables e below (s₁.setTop (mkF m 114 #[.val (.int p1), .val (.long q1), .second, .val (.long q2), .second, .val (.long q3), .second, .val (.long q4), .second, .val (.int v1), .val (.int v2), .val (.long v4), .second, .val (.long v6), .second, .val (.long v16), .second, .val (.long v17), .second, .val (.long v12), .second, .unset, .unset, .unset] [])) t → Steps p.tables e below (s₁.setTop (mkF m 94 #[.val (.int p1), .val (.long q1), .second, .val (.long q2), .second, .val (.long q3), .second, .val (.long q4), .second, .val (.int v1), .val (.int v2), .val (.long v4), .second, .val (.long v6), .second, .val (.long v10), .second, .val (.long v11), .second, .val (.long v12), .second, .unset, .unset, .unset] [(.int (((p1.toUInt32 >>> ((6 : Int32) &&& 31).toUInt32).toInt32) &&& (1 : Int32)))])) t := by
      intro t k
      by_cases hc13 : ((((p1.toUInt32 >>> ((6 : Int32) &&& 31).toUInt32).toInt32) &&& (1 : Int32)) = (0 : Int32))
      · rw [show v16 = v14 from by rw [hv16, if_pos hc13]] at k
        rw [show v17 = v11 from by rw [hv17, if_pos hc13]] at k
        show Steps p.tables e below (s₁.setTop (mkF m 94 #[.val (.int p1), .val (.long q1), .second, .val (.long q2), .second, .val (.long q3), .second, .val (.long q4), .second, .val (.int v1), .val (.int v2), .val (.long v4), .second, .val (.long v6), .second, .val (.long v10), .second, .val (.long v11), .second, .val (.long v12), .second, .unset, .unset, .unset] [(.int (((p1.toUInt32 >>> ((6 : Int32) &&& 31).toUInt32).toInt32) &&& (1 : Int32)))])) _
        refine XS.ifNo X0.here hx rfl (hb hby at_94) rfl ((if0 _ _).trans (teq hc13).2) ?_
        show Steps p.tables e below (s₁.setTop (mkF m 97 #[.val (.int p1), .val (.long q1), .second, .val (.long q2), .second, .val (.long q3), .second, .val (.long q4), .second, .val (.int v1), .val (.int v2), .val (.long v4), .second, .val (.long v6), .second, .val (.long v10), .second, .val (.long v11), .second, .val (.long v12), .second, .unset, .unset, .unset] [])) _
        refine XS.lload X0.here hx rfl (hb hby at_97) rfl ?_
        show Steps p.tables e below (s₁.setTop (mkF m 99 #[.val (.int p1), .val (.long q1), .second, .val (.long q2), .second, .val (.long q3), .second, .val (.long q4), .second, .val (.int v1), .val (.int v2), .val (.long v4), .second, .val (.long v6), .second, .val (.long v10), .second, .val (.long v11), .second, .val (.long v12), .second, .unset, .unset, .unset] [(.long v10)])) _
        refine XS.lload X0.here hx rfl (hb hby at_99) rfl ?_
        show Steps p.tables e below (s₁.setTop (mkF m 101 #[.val (.int p1), .val (.long q1), .second, .val (.long q2), .second, .val (.long q3), .second, .val (.long q4), .second, .val (.int v1), .val (.int v2), .val (.long v4), .second, .val (.long v6), .second, .val (.long v10), .second, .val (.long v11), .second, .val (.long v12), .second, .unset, .unset, .unset] [(.long v12), (.long v10)])) _
        refine XS.lxor X0.here hx rfl (hb hby at_101) rfl ?_
        show Steps p.tables e below (s₁.setTop (mkF m 102 #[.val (.int p1), .val (.long q1), .second, .val (.long q2), .second, .val (.long q3), .second, .val (.long q4), .second, .val (.int v1), .val (.int v2), .val (.long v4), .second, .val (.long v6), .second, .val (.long v10), .second, .val (.long v11), .second, .val (.long v12), .second, .unset, .unset, .unset] [(.long (v10 ^^^ v12))])) _
        refine XS.lstore X0.here hx rfl (hb hby at_102) rfl (l' := #[.val (.int p1), .val (.long q1), .second, .val (.long q2), .second, .val (.long q3), .second, .val (.long q4), .second, .val (.int v1), .val (.int v2), .val (.long v4), .second, .val (.long v6), .second, .val (.long (v10 ^^^ v12)), .second, .val (.long v11), .second, .val (.long v12), .second, .unset, .unset, .unset]) rfl ?_
        refine castTop (g' := (mkF m 104 #[.val (.int p1), .val (.long q1), .second, .val (.long q2), .second, .val (.long q3), .second, .val (.long q4), .second, .val (.int v1), .val (.int v2), .val (.long v4), .second, .val (.long v6), .second, .val (.long v14), .second, .val (.long v11), .second, .val (.long v12), .second, .unset, .unset, .unset] [])) (by rw [hv14]) ?_
        show Steps p.tables e below (s₁.setTop (mkF m 104 #[.val (.int p1), .val (.long q1), .second, .val (.long q2), .second, .val (.long q3), .second, .val (.long q4), .second, .val (.int v1), .val (.int v2), .val (.long v4), .second, .val (.long v6), .second, .val (.long v14), .second, .val (.long v11), .second, .val (.long v12), .second, .unset, .unset, .unset] [])) _
        refine XS.goto X0.here hx rfl (pc0 := 104) (pc' := 114) rfl (hb hby at_104) (by decide) (by decide) ?_
        exact k
      · rw [show v16 = v10 from by rw [hv16, if_neg hc13]] at k
        rw [show v17 = v15 from by rw [hv17, if_neg hc13]] at k
        show Steps p.tables e below (s₁.setTop (mkF m 94 #[.val (.int p1), .val (.long q1), .second, .val (.long q2), .second, .val (.long q3), .second, .val (.long q4), .second, .val (.int v1), .val (.int v2), .val (.long v4), .second, .val (.long v6), .second, .val (.long v10), .second, .val (.long v11), .second, .val (.long v12), .second, .unset, .unset, .unset] [(.int (((p1.toUInt32 >>> ((6 : Int32) &&& 31).toUInt32).toInt32) &&& (1 : Int32)))])) _
        refine XS.ifYes X0.here hx rfl (pc0 := 94) (pc' := 107) rfl (hb hby at_94) rfl ((if0 _ _).trans (feq hc13).2) (by decide) (by decide) ?_
        show Steps p.tables e below (s₁.setTop (mkF m 107 #[.val (.int p1), .val (.long q1), .second, .val (.long q2), .second, .val (.long q3), .second, .val (.long q4), .second, .val (.int v1), .val (.int v2), .val (.long v4), .second, .val (.long v6), .second, .val (.long v10), .second, .val (.long v11), .second, .val (.long v12), .second, .unset, .unset, .unset] [])) _
        refine XS.lload X0.here hx rfl (hb hby at_107) rfl ?_
        show Steps p.tables e below (s₁.setTop (mkF m 109 #[.val (.int p1), .val (.long q1), .second, .val (.long q2), .second, .val (.long q3), .second, .val (.long q4), .second, .val (.int v1), .val (.int v2), .val (.long v4), .second, .val (.long v6), .second, .val (.long v10), .second, .val (.long v11), .second, .val (.long v12), .second, .unset, .unset, .unset] [(.long v11)])) _
        refine XS.lload X0.here hx rfl (hb hby at_109) rfl ?_
        show Steps p.tables e below (s₁.setTop (mkF m 111 #[.val (.int p1), .val (.long q1), .second, .val (.long q2), .second, .val (.long q3), .second, .val (.long q4), .second, .val (.int v1), .val (.int v2), .val (.long v4), .second, .val (.long v6), .second, .val (.long v10), .second, .val (.long v11), .second, .val (.long v12), .second, .unset, .unset, .unset] [(.long v12), (.long v11)])) _
        refine XS.lxor X0.here hx rfl (hb hby at_111) rfl ?_
        show Steps p.tables e below (s₁.setTop (mkF m 112 #[.val (.int p1), .val (.long q1), .second, .val (.long q2), .second, .val (.long q3), .second, .val (.long q4), .second, .val (.int v1), .val (.int v2), .val (.long v4), .second, .val (.long v6), .second, .val (.long v10), .second, .val (.long v11), .second, .val (.long v12), .second, .unset, .unset, .unset] [(.long (v11 ^^^ v12))])) _
        refine XS.lstore X0.here hx rfl (hb hby at_112) rfl (l' := #[.val (.int p1), .val (.long q1), .second, .val (.long q2), .second, .val (.long q3), .second, .val (.long q4), .second, .val (.int v1), .val (.int v2), .val (.long v4), .second, .val (.long v6), .second, .val (.long v10), .second, .val (.long (v11 ^^^ v12)), .second, .val (.long v12), .second, .unset, .unset, .unset]) rfl ?_
        refine castTop (g' := (mkF m 114 #[.val (.int p1), .val (.long q1), .second, .val (.long q2), .second, .val (.long q3), .second, .val (.long q4), .second, .val (.int v1), .val (.int v2), .val (.long v4), .second, .val (.long v6), .second, .val (.long v10), .second, .val (.long v15), .second, .val (.long v12), .second, .unset, .unset, .unset] [])) (by rw [hv15]) ?_
        exact k
    refine sg13 _ ?_
    show Steps p.tables e below (s₁.setTop (mkF m 114 #[.val (.int p1), .val (.long q1), .second, .val (.long q2), .second, .val (.long q3), .second, .val (.long q4), .second, .val (.int v1), .val (.int v2), .val (.long v4), .second, .val (.long v6), .second, .val (.long v16), .second, .val (.long v17), .second, .val (.long v12), .second, .unset, .unset, .unset] [])) _
    refine stA _ ?_
    show Steps p.tables e below (TA.setTop (mkF m 143 #[.val (.int p1), .val (.long q1), .second, .val (.long q2), .second, .val (.long q3), .second, .val (.long q4), .second, .val (.int v1), .val (.int v2), .val (.long v4), .second, .val (.long v6), .second, .val (.long v16), .second, .val (.long v17), .second, .val (.ref b1), .unset, .unset, .unset, .unset] [])) _
    refine stB _ ?_
    show Steps p.tables e below (TB.setTop (mkF m 172 #[.val (.int p1), .val (.long q1), .second, .val (.long q2), .second, .val (.long q3), .second, .val (.long q4), .second, .val (.int v1), .val (.int v2), .val (.long v4), .second, .val (.long v6), .second, .val (.long v16), .second, .val (.long v17), .second, .val (.ref b1), .val (.ref b2), .unset, .unset, .unset] [])) _
    refine XS.iload XB.here hx rfl (hb hby at_172) rfl ?_
    show Steps p.tables e below (TB.setTop (mkF m 174 #[.val (.int p1), .val (.long q1), .second, .val (.long q2), .second, .val (.long q3), .second, .val (.long q4), .second, .val (.int v1), .val (.int v2), .val (.long v4), .second, .val (.long v6), .second, .val (.long v16), .second, .val (.long v17), .second, .val (.ref b1), .val (.ref b2), .unset, .unset, .unset] [(.int v1)])) _
    refine XS.iconst XB.here hx rfl (hb hby at_174) ?_
    have sg18 : ∀ t, Steps p.tables e below (TB.setTop (mkF m 194 #[.val (.int p1), .val (.long q1), .second, .val (.long q2), .second, .val (.long q3), .second, .val (.long q4), .second, .val (.int v1), .val (.int v2), .val (.long v4), .second, .val (.long v6), .second, .val (.long v16), .second, .val (.long v17), .second, .val (.ref b1), .val (.ref b2), .unset, .unset, .unset] [(.int v21)])) t → Steps p.tables e below (TB.setTop (mkF m 175 #[.val (.int p1), .val (.long q1), .second, .val (.long q2), .second, .val (.long q3), .second, .val (.long q4), .second, .val (.int v1), .val (.int v2), .val (.long v4), .second, .val (.long v6), .second, .val (.long v16), .second, .val (.long v17), .second, .val (.ref b1), .val (.ref b2), .unset, .unset, .unset] [(.int (1 : Int32)), (.int v1)])) t := by
      intro t k
      by_cases hc18 : (v1 < (1 : Int32))
      · rw [show v21 = (1 : Int32) from by rw [hv21, if_pos hc18]] at k
        show Steps p.tables e below (TB.setTop (mkF m 175 #[.val (.int p1), .val (.long q1), .second, .val (.long q2), .second, .val (.long q3), .second, .val (.long q4), .second, .val (.int v1), .val (.int v2), .val (.long v4), .second, .val (.long v6), .second, .val (.long v16), .second, .val (.long v17), .second, .val (.ref b1), .val (.ref b2), .unset, .unset, .unset] [(.int (1 : Int32)), (.int v1)])) _
        refine XS.icmpYes XB.here hx rfl (pc0 := 175) (pc' := 189) rfl (hb hby at_175) rfl (tlt hc18).1 (by decide) (by decide) ?_
        show Steps p.tables e below (TB.setTop (mkF m 189 #[.val (.int p1), .val (.long q1), .second, .val (.long q2), .second, .val (.long q3), .second, .val (.long q4), .second, .val (.int v1), .val (.int v2), .val (.long v4), .second, .val (.long v6), .second, .val (.long v16), .second, .val (.long v17), .second, .val (.ref b1), .val (.ref b2), .unset, .unset, .unset] [])) _
        refine XS.iconst XB.here hx rfl (hb hby at_189) ?_
        show Steps p.tables e below (TB.setTop (mkF m 190 #[.val (.int p1), .val (.long q1), .second, .val (.long q2), .second, .val (.long q3), .second, .val (.long q4), .second, .val (.int v1), .val (.int v2), .val (.long v4), .second, .val (.long v6), .second, .val (.long v16), .second, .val (.long v17), .second, .val (.ref b1), .val (.ref b2), .unset, .unset, .unset] [(.int (1 : Int32))])) _
        refine XS.goto XB.here hx rfl (pc0 := 190) (pc' := 194) rfl (hb hby at_190) (by decide) (by decide) ?_
        exact k
      · rw [show v21 = v20 from by rw [hv21, if_neg hc18]] at k
        show Steps p.tables e below (TB.setTop (mkF m 175 #[.val (.int p1), .val (.long q1), .second, .val (.long q2), .second, .val (.long q3), .second, .val (.long q4), .second, .val (.int v1), .val (.int v2), .val (.long v4), .second, .val (.long v6), .second, .val (.long v16), .second, .val (.long v17), .second, .val (.ref b1), .val (.ref b2), .unset, .unset, .unset] [(.int (1 : Int32)), (.int v1)])) _
        refine XS.icmpNo XB.here hx rfl (hb hby at_175) rfl (flt hc18).1 ?_
        show Steps p.tables e below (TB.setTop (mkF m 178 #[.val (.int p1), .val (.long q1), .second, .val (.long q2), .second, .val (.long q3), .second, .val (.long q4), .second, .val (.int v1), .val (.int v2), .val (.long v4), .second, .val (.long v6), .second, .val (.long v16), .second, .val (.long v17), .second, .val (.ref b1), .val (.ref b2), .unset, .unset, .unset] [])) _
        refine XS.lload XB.here hx rfl (hb hby at_178) rfl ?_
        show Steps p.tables e below (TB.setTop (mkF m 180 #[.val (.int p1), .val (.long q1), .second, .val (.long q2), .second, .val (.long q3), .second, .val (.long q4), .second, .val (.int v1), .val (.int v2), .val (.long v4), .second, .val (.long v6), .second, .val (.long v16), .second, .val (.long v17), .second, .val (.ref b1), .val (.ref b2), .unset, .unset, .unset] [(.long v16)])) _
        refine XS.lload XB.here hx rfl (hb hby at_180) rfl ?_
        show Steps p.tables e below (TB.setTop (mkF m 182 #[.val (.int p1), .val (.long q1), .second, .val (.long q2), .second, .val (.long q3), .second, .val (.long q4), .second, .val (.int v1), .val (.int v2), .val (.long v4), .second, .val (.long v6), .second, .val (.long v16), .second, .val (.long v17), .second, .val (.ref b1), .val (.ref b2), .unset, .unset, .unset] [(.long v4), (.long v16)])) _
        refine XS.land XB.here hx rfl (hb hby at_182) rfl ?_
        show Steps p.tables e below (TB.setTop (mkF m 183 #[.val (.int p1), .val (.long q1), .second, .val (.long q2), .second, .val (.long q3), .second, .val (.long q4), .second, .val (.int v1), .val (.int v2), .val (.long v4), .second, .val (.long v6), .second, .val (.long v16), .second, .val (.long v17), .second, .val (.ref b1), .val (.ref b2), .unset, .unset, .unset] [(.long (v16 &&& v4))])) _
        refine XS.lload XB.here hx rfl (hb hby at_183) rfl ?_
        show Steps p.tables e below (TB.setTop (mkF m 185 #[.val (.int p1), .val (.long q1), .second, .val (.long q2), .second, .val (.long q3), .second, .val (.long q4), .second, .val (.int v1), .val (.int v2), .val (.long v4), .second, .val (.long v6), .second, .val (.long v16), .second, .val (.long v17), .second, .val (.ref b1), .val (.ref b2), .unset, .unset, .unset] [(.long v16), (.long (v16 &&& v4))])) _
        refine XS.lcmp XB.here hx rfl (hb hby at_185) rfl ?_
        have sg19 : ∀ t, Steps p.tables e below (TB.setTop (mkF m 194 #[.val (.int p1), .val (.long q1), .second, .val (.long q2), .second, .val (.long q3), .second, .val (.long q4), .second, .val (.int v1), .val (.int v2), .val (.long v4), .second, .val (.long v6), .second, .val (.long v16), .second, .val (.long v17), .second, .val (.ref b1), .val (.ref b2), .unset, .unset, .unset] [(.int v20)])) t → Steps p.tables e below (TB.setTop (mkF m 186 #[.val (.int p1), .val (.long q1), .second, .val (.long q2), .second, .val (.long q3), .second, .val (.long q4), .second, .val (.int v1), .val (.int v2), .val (.long v4), .second, .val (.long v6), .second, .val (.long v16), .second, .val (.long v17), .second, .val (.ref b1), .val (.ref b2), .unset, .unset, .unset] [(.int (lcmpW (v16 &&& v4) v16))])) t := by
          intro t k
          by_cases hc19 : ((v16 &&& v4) = v16)
          · rw [show v20 = (1 : Int32) from by rw [hv20, if_pos hc19]] at k
            show Steps p.tables e below (TB.setTop (mkF m 186 #[.val (.int p1), .val (.long q1), .second, .val (.long q2), .second, .val (.long q3), .second, .val (.long q4), .second, .val (.int v1), .val (.int v2), .val (.long v4), .second, .val (.long v6), .second, .val (.long v16), .second, .val (.long v17), .second, .val (.ref b1), .val (.ref b2), .unset, .unset, .unset] [(.int (lcmpW (v16 &&& v4) v16))])) _
            refine XS.ifNo XB.here hx rfl (hb hby at_186) rfl ((if0 _ _).trans (teq ((lw_eq (v16 &&& v4) v16).mpr hc19)).2) ?_
            show Steps p.tables e below (TB.setTop (mkF m 189 #[.val (.int p1), .val (.long q1), .second, .val (.long q2), .second, .val (.long q3), .second, .val (.long q4), .second, .val (.int v1), .val (.int v2), .val (.long v4), .second, .val (.long v6), .second, .val (.long v16), .second, .val (.long v17), .second, .val (.ref b1), .val (.ref b2), .unset, .unset, .unset] [])) _
            refine XS.iconst XB.here hx rfl (hb hby at_189) ?_
            show Steps p.tables e below (TB.setTop (mkF m 190 #[.val (.int p1), .val (.long q1), .second, .val (.long q2), .second, .val (.long q3), .second, .val (.long q4), .second, .val (.int v1), .val (.int v2), .val (.long v4), .second, .val (.long v6), .second, .val (.long v16), .second, .val (.long v17), .second, .val (.ref b1), .val (.ref b2), .unset, .unset, .unset] [(.int (1 : Int32))])) _
            refine XS.goto XB.here hx rfl (pc0 := 190) (pc' := 194) rfl (hb hby at_190) (by decide) (by decide) ?_
            exact k
          · rw [show v20 = (0 : Int32) from by rw [hv20, if_neg hc19]] at k
            show Steps p.tables e below (TB.setTop (mkF m 186 #[.val (.int p1), .val (.long q1), .second, .val (.long q2), .second, .val (.long q3), .second, .val (.long q4), .second, .val (.int v1), .val (.int v2), .val (.long v4), .second, .val (.long v6), .second, .val (.long v16), .second, .val (.long v17), .second, .val (.ref b1), .val (.ref b2), .unset, .unset, .unset] [(.int (lcmpW (v16 &&& v4) v16))])) _
            refine XS.ifYes XB.here hx rfl (pc0 := 186) (pc' := 193) rfl (hb hby at_186) rfl ((if0 _ _).trans (feq (fun q => hc19 ((lw_eq (v16 &&& v4) v16).mp q))).2) (by decide) (by decide) ?_
            show Steps p.tables e below (TB.setTop (mkF m 193 #[.val (.int p1), .val (.long q1), .second, .val (.long q2), .second, .val (.long q3), .second, .val (.long q4), .second, .val (.int v1), .val (.int v2), .val (.long v4), .second, .val (.long v6), .second, .val (.long v16), .second, .val (.long v17), .second, .val (.ref b1), .val (.ref b2), .unset, .unset, .unset] [])) _
            refine XS.iconst XB.here hx rfl (hb hby at_193) ?_
            exact k
        refine sg19 _ ?_
        exact k
    refine sg18 _ ?_
    show Steps p.tables e below (TB.setTop (mkF m 194 #[.val (.int p1), .val (.long q1), .second, .val (.long q2), .second, .val (.long q3), .second, .val (.long q4), .second, .val (.int v1), .val (.int v2), .val (.long v4), .second, .val (.long v6), .second, .val (.long v16), .second, .val (.long v17), .second, .val (.ref b1), .val (.ref b2), .unset, .unset, .unset] [(.int v21)])) _
    refine XS.istore XB.here hx rfl (hb hby at_194) rfl (l' := #[.val (.int p1), .val (.long q1), .second, .val (.long q2), .second, .val (.long q3), .second, .val (.long q4), .second, .val (.int v1), .val (.int v2), .val (.long v4), .second, .val (.long v6), .second, .val (.long v16), .second, .val (.long v17), .second, .val (.ref b1), .val (.ref b2), .val (.int v21), .unset, .unset]) rfl ?_
    show Steps p.tables e below (TB.setTop (mkF m 196 #[.val (.int p1), .val (.long q1), .second, .val (.long q2), .second, .val (.long q3), .second, .val (.long q4), .second, .val (.int v1), .val (.int v2), .val (.long v4), .second, .val (.long v6), .second, .val (.long v16), .second, .val (.long v17), .second, .val (.ref b1), .val (.ref b2), .val (.int v21), .unset, .unset] [])) _
    refine XS.iload XB.here hx rfl (hb hby at_196) rfl ?_
    show Steps p.tables e below (TB.setTop (mkF m 198 #[.val (.int p1), .val (.long q1), .second, .val (.long q2), .second, .val (.long q3), .second, .val (.long q4), .second, .val (.int v1), .val (.int v2), .val (.long v4), .second, .val (.long v6), .second, .val (.long v16), .second, .val (.long v17), .second, .val (.ref b1), .val (.ref b2), .val (.int v21), .unset, .unset] [(.int v1)])) _
    refine XS.iconst XB.here hx rfl (hb hby at_198) ?_
    have sg22 : ∀ t, Steps p.tables e below (TB.setTop (mkF m 218 #[.val (.int p1), .val (.long q1), .second, .val (.long q2), .second, .val (.long q3), .second, .val (.long q4), .second, .val (.int v1), .val (.int v2), .val (.long v4), .second, .val (.long v6), .second, .val (.long v16), .second, .val (.long v17), .second, .val (.ref b1), .val (.ref b2), .val (.int v21), .unset, .unset] [(.int v25)])) t → Steps p.tables e below (TB.setTop (mkF m 199 #[.val (.int p1), .val (.long q1), .second, .val (.long q2), .second, .val (.long q3), .second, .val (.long q4), .second, .val (.int v1), .val (.int v2), .val (.long v4), .second, .val (.long v6), .second, .val (.long v16), .second, .val (.long v17), .second, .val (.ref b1), .val (.ref b2), .val (.int v21), .unset, .unset] [(.int (2 : Int32)), (.int v1)])) t := by
      intro t k
      by_cases hc22 : (v1 < (2 : Int32))
      · rw [show v25 = (1 : Int32) from by rw [hv25, if_pos hc22]] at k
        show Steps p.tables e below (TB.setTop (mkF m 199 #[.val (.int p1), .val (.long q1), .second, .val (.long q2), .second, .val (.long q3), .second, .val (.long q4), .second, .val (.int v1), .val (.int v2), .val (.long v4), .second, .val (.long v6), .second, .val (.long v16), .second, .val (.long v17), .second, .val (.ref b1), .val (.ref b2), .val (.int v21), .unset, .unset] [(.int (2 : Int32)), (.int v1)])) _
        refine XS.icmpYes XB.here hx rfl (pc0 := 199) (pc' := 213) rfl (hb hby at_199) rfl (tlt hc22).1 (by decide) (by decide) ?_
        show Steps p.tables e below (TB.setTop (mkF m 213 #[.val (.int p1), .val (.long q1), .second, .val (.long q2), .second, .val (.long q3), .second, .val (.long q4), .second, .val (.int v1), .val (.int v2), .val (.long v4), .second, .val (.long v6), .second, .val (.long v16), .second, .val (.long v17), .second, .val (.ref b1), .val (.ref b2), .val (.int v21), .unset, .unset] [])) _
        refine XS.iconst XB.here hx rfl (hb hby at_213) ?_
        show Steps p.tables e below (TB.setTop (mkF m 214 #[.val (.int p1), .val (.long q1), .second, .val (.long q2), .second, .val (.long q3), .second, .val (.long q4), .second, .val (.int v1), .val (.int v2), .val (.long v4), .second, .val (.long v6), .second, .val (.long v16), .second, .val (.long v17), .second, .val (.ref b1), .val (.ref b2), .val (.int v21), .unset, .unset] [(.int (1 : Int32))])) _
        refine XS.goto XB.here hx rfl (pc0 := 214) (pc' := 218) rfl (hb hby at_214) (by decide) (by decide) ?_
        exact k
      · rw [show v25 = v24 from by rw [hv25, if_neg hc22]] at k
        show Steps p.tables e below (TB.setTop (mkF m 199 #[.val (.int p1), .val (.long q1), .second, .val (.long q2), .second, .val (.long q3), .second, .val (.long q4), .second, .val (.int v1), .val (.int v2), .val (.long v4), .second, .val (.long v6), .second, .val (.long v16), .second, .val (.long v17), .second, .val (.ref b1), .val (.ref b2), .val (.int v21), .unset, .unset] [(.int (2 : Int32)), (.int v1)])) _
        refine XS.icmpNo XB.here hx rfl (hb hby at_199) rfl (flt hc22).1 ?_
        show Steps p.tables e below (TB.setTop (mkF m 202 #[.val (.int p1), .val (.long q1), .second, .val (.long q2), .second, .val (.long q3), .second, .val (.long q4), .second, .val (.int v1), .val (.int v2), .val (.long v4), .second, .val (.long v6), .second, .val (.long v16), .second, .val (.long v17), .second, .val (.ref b1), .val (.ref b2), .val (.int v21), .unset, .unset] [])) _
        refine XS.lload XB.here hx rfl (hb hby at_202) rfl ?_
        show Steps p.tables e below (TB.setTop (mkF m 204 #[.val (.int p1), .val (.long q1), .second, .val (.long q2), .second, .val (.long q3), .second, .val (.long q4), .second, .val (.int v1), .val (.int v2), .val (.long v4), .second, .val (.long v6), .second, .val (.long v16), .second, .val (.long v17), .second, .val (.ref b1), .val (.ref b2), .val (.int v21), .unset, .unset] [(.long v17)])) _
        refine XS.lload XB.here hx rfl (hb hby at_204) rfl ?_
        show Steps p.tables e below (TB.setTop (mkF m 206 #[.val (.int p1), .val (.long q1), .second, .val (.long q2), .second, .val (.long q3), .second, .val (.long q4), .second, .val (.int v1), .val (.int v2), .val (.long v4), .second, .val (.long v6), .second, .val (.long v16), .second, .val (.long v17), .second, .val (.ref b1), .val (.ref b2), .val (.int v21), .unset, .unset] [(.long v6), (.long v17)])) _
        refine XS.land XB.here hx rfl (hb hby at_206) rfl ?_
        show Steps p.tables e below (TB.setTop (mkF m 207 #[.val (.int p1), .val (.long q1), .second, .val (.long q2), .second, .val (.long q3), .second, .val (.long q4), .second, .val (.int v1), .val (.int v2), .val (.long v4), .second, .val (.long v6), .second, .val (.long v16), .second, .val (.long v17), .second, .val (.ref b1), .val (.ref b2), .val (.int v21), .unset, .unset] [(.long (v17 &&& v6))])) _
        refine XS.lload XB.here hx rfl (hb hby at_207) rfl ?_
        show Steps p.tables e below (TB.setTop (mkF m 209 #[.val (.int p1), .val (.long q1), .second, .val (.long q2), .second, .val (.long q3), .second, .val (.long q4), .second, .val (.int v1), .val (.int v2), .val (.long v4), .second, .val (.long v6), .second, .val (.long v16), .second, .val (.long v17), .second, .val (.ref b1), .val (.ref b2), .val (.int v21), .unset, .unset] [(.long v17), (.long (v17 &&& v6))])) _
        refine XS.lcmp XB.here hx rfl (hb hby at_209) rfl ?_
        have sg23 : ∀ t, Steps p.tables e below (TB.setTop (mkF m 218 #[.val (.int p1), .val (.long q1), .second, .val (.long q2), .second, .val (.long q3), .second, .val (.long q4), .second, .val (.int v1), .val (.int v2), .val (.long v4), .second, .val (.long v6), .second, .val (.long v16), .second, .val (.long v17), .second, .val (.ref b1), .val (.ref b2), .val (.int v21), .unset, .unset] [(.int v24)])) t → Steps p.tables e below (TB.setTop (mkF m 210 #[.val (.int p1), .val (.long q1), .second, .val (.long q2), .second, .val (.long q3), .second, .val (.long q4), .second, .val (.int v1), .val (.int v2), .val (.long v4), .second, .val (.long v6), .second, .val (.long v16), .second, .val (.long v17), .second, .val (.ref b1), .val (.ref b2), .val (.int v21), .unset, .unset] [(.int (lcmpW (v17 &&& v6) v17))])) t := by
          intro t k
          by_cases hc23 : ((v17 &&& v6) = v17)
          · rw [show v24 = (1 : Int32) from by rw [hv24, if_pos hc23]] at k
            show Steps p.tables e below (TB.setTop (mkF m 210 #[.val (.int p1), .val (.long q1), .second, .val (.long q2), .second, .val (.long q3), .second, .val (.long q4), .second, .val (.int v1), .val (.int v2), .val (.long v4), .second, .val (.long v6), .second, .val (.long v16), .second, .val (.long v17), .second, .val (.ref b1), .val (.ref b2), .val (.int v21), .unset, .unset] [(.int (lcmpW (v17 &&& v6) v17))])) _
            refine XS.ifNo XB.here hx rfl (hb hby at_210) rfl ((if0 _ _).trans (teq ((lw_eq (v17 &&& v6) v17).mpr hc23)).2) ?_
            show Steps p.tables e below (TB.setTop (mkF m 213 #[.val (.int p1), .val (.long q1), .second, .val (.long q2), .second, .val (.long q3), .second, .val (.long q4), .second, .val (.int v1), .val (.int v2), .val (.long v4), .second, .val (.long v6), .second, .val (.long v16), .second, .val (.long v17), .second, .val (.ref b1), .val (.ref b2), .val (.int v21), .unset, .unset] [])) _
            refine XS.iconst XB.here hx rfl (hb hby at_213) ?_
            show Steps p.tables e below (TB.setTop (mkF m 214 #[.val (.int p1), .val (.long q1), .second, .val (.long q2), .second, .val (.long q3), .second, .val (.long q4), .second, .val (.int v1), .val (.int v2), .val (.long v4), .second, .val (.long v6), .second, .val (.long v16), .second, .val (.long v17), .second, .val (.ref b1), .val (.ref b2), .val (.int v21), .unset, .unset] [(.int (1 : Int32))])) _
            refine XS.goto XB.here hx rfl (pc0 := 214) (pc' := 218) rfl (hb hby at_214) (by decide) (by decide) ?_
            exact k
          · rw [show v24 = (0 : Int32) from by rw [hv24, if_neg hc23]] at k
            show Steps p.tables e below (TB.setTop (mkF m 210 #[.val (.int p1), .val (.long q1), .second, .val (.long q2), .second, .val (.long q3), .second, .val (.long q4), .second, .val (.int v1), .val (.int v2), .val (.long v4), .second, .val (.long v6), .second, .val (.long v16), .second, .val (.long v17), .second, .val (.ref b1), .val (.ref b2), .val (.int v21), .unset, .unset] [(.int (lcmpW (v17 &&& v6) v17))])) _
            refine XS.ifYes XB.here hx rfl (pc0 := 210) (pc' := 217) rfl (hb hby at_210) rfl ((if0 _ _).trans (feq (fun q => hc23 ((lw_eq (v17 &&& v6) v17).mp q))).2) (by decide) (by decide) ?_
            show Steps p.tables e below (TB.setTop (mkF m 217 #[.val (.int p1), .val (.long q1), .second, .val (.long q2), .second, .val (.long q3), .second, .val (.long q4), .second, .val (.int v1), .val (.int v2), .val (.long v4), .second, .val (.long v6), .second, .val (.long v16), .second, .val (.long v17), .second, .val (.ref b1), .val (.ref b2), .val (.int v21), .unset, .unset] [])) _
            refine XS.iconst XB.here hx rfl (hb hby at_217) ?_
            exact k
        refine sg23 _ ?_
        exact k
    refine sg22 _ ?_
    show Steps p.tables e below (TB.setTop (mkF m 218 #[.val (.int p1), .val (.long q1), .second, .val (.long q2), .second, .val (.long q3), .second, .val (.long q4), .second, .val (.int v1), .val (.int v2), .val (.long v4), .second, .val (.long v6), .second, .val (.long v16), .second, .val (.long v17), .second, .val (.ref b1), .val (.ref b2), .val (.int v21), .unset, .unset] [(.int v25)])) _
    refine XS.istore XB.here hx rfl (hb hby at_218) rfl (l' := #[.val (.int p1), .val (.long q1), .second, .val (.long q2), .second, .val (.long q3), .second, .val (.long q4), .second, .val (.int v1), .val (.int v2), .val (.long v4), .second, .val (.long v6), .second, .val (.long v16), .second, .val (.long v17), .second, .val (.ref b1), .val (.ref b2), .val (.int v21), .val (.int v25), .unset]) rfl ?_
    show Steps p.tables e below (TB.setTop (mkF m 220 #[.val (.int p1), .val (.long q1), .second, .val (.long q2), .second, .val (.long q3), .second, .val (.long q4), .second, .val (.int v1), .val (.int v2), .val (.long v4), .second, .val (.long v6), .second, .val (.long v16), .second, .val (.long v17), .second, .val (.ref b1), .val (.ref b2), .val (.int v21), .val (.int v25), .unset] [])) _
    refine XS.iload XB.here hx rfl (hb hby at_220) rfl ?_
    have sg26 : ∀ t, Steps p.tables e below (TB.setTop (mkF m 235 #[.val (.int p1), .val (.long q1), .second, .val (.long q2), .second, .val (.long q3), .second, .val (.long q4), .second, .val (.int v1), .val (.int v2), .val (.long v4), .second, .val (.long v6), .second, .val (.long v16), .second, .val (.long v17), .second, .val (.ref b1), .val (.ref b2), .val (.int v21), .val (.int v25), .unset] [(.int v29)])) t → Steps p.tables e below (TB.setTop (mkF m 222 #[.val (.int p1), .val (.long q1), .second, .val (.long q2), .second, .val (.long q3), .second, .val (.long q4), .second, .val (.int v1), .val (.int v2), .val (.long v4), .second, .val (.long v6), .second, .val (.long v16), .second, .val (.long v17), .second, .val (.ref b1), .val (.ref b2), .val (.int v21), .val (.int v25), .unset] [(.int v21)])) t := by
      intro t k
      by_cases hc26 : (v21 = (0 : Int32))
      · rw [show v29 = (0 : Int32) from by rw [hv29, if_pos hc26]] at k
        show Steps p.tables e below (TB.setTop (mkF m 222 #[.val (.int p1), .val (.long q1), .second, .val (.long q2), .second, .val (.long q3), .second, .val (.long q4), .second, .val (.int v1), .val (.int v2), .val (.long v4), .second, .val (.long v6), .second, .val (.long v16), .second, .val (.long v17), .second, .val (.ref b1), .val (.ref b2), .val (.int v21), .val (.int v25), .unset] [(.int v21)])) _
        refine XS.ifYes XB.here hx rfl (pc0 := 222) (pc' := 234) rfl (hb hby at_222) rfl ((if0 _ _).trans (teq hc26).1) (by decide) (by decide) ?_
        show Steps p.tables e below (TB.setTop (mkF m 234 #[.val (.int p1), .val (.long q1), .second, .val (.long q2), .second, .val (.long q3), .second, .val (.long q4), .second, .val (.int v1), .val (.int v2), .val (.long v4), .second, .val (.long v6), .second, .val (.long v16), .second, .val (.long v17), .second, .val (.ref b1), .val (.ref b2), .val (.int v21), .val (.int v25), .unset] [])) _
        refine XS.iconst XB.here hx rfl (hb hby at_234) ?_
        exact k
      · rw [show v29 = v28 from by rw [hv29, if_neg hc26]] at k
        show Steps p.tables e below (TB.setTop (mkF m 222 #[.val (.int p1), .val (.long q1), .second, .val (.long q2), .second, .val (.long q3), .second, .val (.long q4), .second, .val (.int v1), .val (.int v2), .val (.long v4), .second, .val (.long v6), .second, .val (.long v16), .second, .val (.long v17), .second, .val (.ref b1), .val (.ref b2), .val (.int v21), .val (.int v25), .unset] [(.int v21)])) _
        refine XS.ifNo XB.here hx rfl (hb hby at_222) rfl ((if0 _ _).trans (feq hc26).1) ?_
        show Steps p.tables e below (TB.setTop (mkF m 225 #[.val (.int p1), .val (.long q1), .second, .val (.long q2), .second, .val (.long q3), .second, .val (.long q4), .second, .val (.int v1), .val (.int v2), .val (.long v4), .second, .val (.long v6), .second, .val (.long v16), .second, .val (.long v17), .second, .val (.ref b1), .val (.ref b2), .val (.int v21), .val (.int v25), .unset] [])) _
        refine XS.iload XB.here hx rfl (hb hby at_225) rfl ?_
        have sg27 : ∀ t, Steps p.tables e below (TB.setTop (mkF m 235 #[.val (.int p1), .val (.long q1), .second, .val (.long q2), .second, .val (.long q3), .second, .val (.long q4), .second, .val (.int v1), .val (.int v2), .val (.long v4), .second, .val (.long v6), .second, .val (.long v16), .second, .val (.long v17), .second, .val (.ref b1), .val (.ref b2), .val (.int v21), .val (.int v25), .unset] [(.int v28)])) t → Steps p.tables e below (TB.setTop (mkF m 227 #[.val (.int p1), .val (.long q1), .second, .val (.long q2), .second, .val (.long q3), .second, .val (.long q4), .second, .val (.int v1), .val (.int v2), .val (.long v4), .second, .val (.long v6), .second, .val (.long v16), .second, .val (.long v17), .second, .val (.ref b1), .val (.ref b2), .val (.int v21), .val (.int v25), .unset] [(.int v25)])) t := by
          intro t k
          by_cases hc27 : (v25 = (0 : Int32))
          · rw [show v28 = (0 : Int32) from by rw [hv28, if_pos hc27]] at k
            show Steps p.tables e below (TB.setTop (mkF m 227 #[.val (.int p1), .val (.long q1), .second, .val (.long q2), .second, .val (.long q3), .second, .val (.long q4), .second, .val (.int v1), .val (.int v2), .val (.long v4), .second, .val (.long v6), .second, .val (.long v16), .second, .val (.long v17), .second, .val (.ref b1), .val (.ref b2), .val (.int v21), .val (.int v25), .unset] [(.int v25)])) _
            refine XS.ifYes XB.here hx rfl (pc0 := 227) (pc' := 234) rfl (hb hby at_227) rfl ((if0 _ _).trans (teq hc27).1) (by decide) (by decide) ?_
            show Steps p.tables e below (TB.setTop (mkF m 234 #[.val (.int p1), .val (.long q1), .second, .val (.long q2), .second, .val (.long q3), .second, .val (.long q4), .second, .val (.int v1), .val (.int v2), .val (.long v4), .second, .val (.long v6), .second, .val (.long v16), .second, .val (.long v17), .second, .val (.ref b1), .val (.ref b2), .val (.int v21), .val (.int v25), .unset] [])) _
            refine XS.iconst XB.here hx rfl (hb hby at_234) ?_
            exact k
          · rw [show v28 = (1 : Int32) from by rw [hv28, if_neg hc27]] at k
            show Steps p.tables e below (TB.setTop (mkF m 227 #[.val (.int p1), .val (.long q1), .second, .val (.long q2), .second, .val (.long q3), .second, .val (.long q4), .second, .val (.int v1), .val (.int v2), .val (.long v4), .second, .val (.long v6), .second, .val (.long v16), .second, .val (.long v17), .second, .val (.ref b1), .val (.ref b2), .val (.int v21), .val (.int v25), .unset] [(.int v25)])) _
            refine XS.ifNo XB.here hx rfl (hb hby at_227) rfl ((if0 _ _).trans (feq hc27).1) ?_
            show Steps p.tables e below (TB.setTop (mkF m 230 #[.val (.int p1), .val (.long q1), .second, .val (.long q2), .second, .val (.long q3), .second, .val (.long q4), .second, .val (.int v1), .val (.int v2), .val (.long v4), .second, .val (.long v6), .second, .val (.long v16), .second, .val (.long v17), .second, .val (.ref b1), .val (.ref b2), .val (.int v21), .val (.int v25), .unset] [])) _
            refine XS.iconst XB.here hx rfl (hb hby at_230) ?_
            show Steps p.tables e below (TB.setTop (mkF m 231 #[.val (.int p1), .val (.long q1), .second, .val (.long q2), .second, .val (.long q3), .second, .val (.long q4), .second, .val (.int v1), .val (.int v2), .val (.long v4), .second, .val (.long v6), .second, .val (.long v16), .second, .val (.long v17), .second, .val (.ref b1), .val (.ref b2), .val (.int v21), .val (.int v25), .unset] [(.int (1 : Int32))])) _
            refine XS.goto XB.here hx rfl (pc0 := 231) (pc' := 235) rfl (hb hby at_231) (by decide) (by decide) ?_
            exact k
        refine sg27 _ ?_
        exact k
    refine sg26 _ ?_
    show Steps p.tables e below (TB.setTop (mkF m 235 #[.val (.int p1), .val (.long q1), .second, .val (.long q2), .second, .val (.long q3), .second, .val (.long q4), .second, .val (.int v1), .val (.int v2), .val (.long v4), .second, .val (.long v6), .second, .val (.long v16), .second, .val (.long v17), .second, .val (.ref b1), .val (.ref b2), .val (.int v21), .val (.int v25), .unset] [(.int v29)])) _
    refine XS.istore XB.here hx rfl (hb hby at_235) rfl (l' := #[.val (.int p1), .val (.long q1), .second, .val (.long q2), .second, .val (.long q3), .second, .val (.long q4), .second, .val (.int v1), .val (.int v2), .val (.long v4), .second, .val (.long v6), .second, .val (.long v16), .second, .val (.long v17), .second, .val (.ref b1), .val (.ref b2), .val (.int v21), .val (.int v25), .val (.int v29)]) rfl ?_
    show Steps p.tables e below (TB.setTop (mkF m 237 #[.val (.int p1), .val (.long q1), .second, .val (.long q2), .second, .val (.long q3), .second, .val (.long q4), .second, .val (.int v1), .val (.int v2), .val (.long v4), .second, .val (.long v6), .second, .val (.long v16), .second, .val (.long v17), .second, .val (.ref b1), .val (.ref b2), .val (.int v21), .val (.int v25), .val (.int v29)] [])) _
    refine XS.aload XB.here hx rfl (hb hby at_237) rfl rfl ?_
    show Steps p.tables e below (TB.setTop (mkF m 239 #[.val (.int p1), .val (.long q1), .second, .val (.long q2), .second, .val (.long q3), .second, .val (.long q4), .second, .val (.int v1), .val (.int v2), .val (.long v4), .second, .val (.long v6), .second, .val (.long v16), .second, .val (.long v17), .second, .val (.ref b1), .val (.ref b2), .val (.int v21), .val (.int v25), .val (.int v29)] [(.ref b2)])) _
    refine XS.aload XB.here hx rfl (hb hby at_239) rfl rfl ?_
    show Steps p.tables e below (TB.setTop (mkF m 241 #[.val (.int p1), .val (.long q1), .second, .val (.long q2), .second, .val (.long q3), .second, .val (.long q4), .second, .val (.int v1), .val (.int v2), .val (.long v4), .second, .val (.long v6), .second, .val (.long v16), .second, .val (.long v17), .second, .val (.ref b1), .val (.ref b2), .val (.int v21), .val (.int v25), .val (.int v29)] [(.ref b1), (.ref b2)])) _
    refine st30 _ ?_
    show Steps p.tables e below (T30.setTop (mkF m 244 #[.val (.int p1), .val (.long q1), .second, .val (.long q2), .second, .val (.long q3), .second, .val (.long q4), .second, .val (.int v1), .val (.int v2), .val (.long v4), .second, .val (.long v6), .second, .val (.long v16), .second, .val (.long v17), .second, .val (.ref b1), .val (.ref b2), .val (.int v21), .val (.int v25), .val (.int v29)] [(.int (own_sub (own_lst v1 v16 v17) (own_lst v2 q3 q4)))])) _
    refine XS.iload X30.here hx rfl (hb hby at_244) rfl ?_
    show Steps p.tables e below (T30.setTop (mkF m 246 #[.val (.int p1), .val (.long q1), .second, .val (.long q2), .second, .val (.long q3), .second, .val (.long q4), .second, .val (.int v1), .val (.int v2), .val (.long v4), .second, .val (.long v6), .second, .val (.long v16), .second, .val (.long v17), .second, .val (.ref b1), .val (.ref b2), .val (.int v21), .val (.int v25), .val (.int v29)] [(.int v29), (.int (own_sub (own_lst v1 v16 v17) (own_lst v2 q3 q4)))])) _
    refine XS.icmpNo X30.here hx rfl (hb hby at_246) rfl (teq hfin).2 ?_
    show Steps p.tables e below (T30.setTop (mkF m 249 #[.val (.int p1), .val (.long q1), .second, .val (.long q2), .second, .val (.long q3), .second, .val (.long q4), .second, .val (.int v1), .val (.int v2), .val (.long v4), .second, .val (.long v6), .second, .val (.long v16), .second, .val (.long v17), .second, .val (.ref b1), .val (.ref b2), .val (.int v21), .val (.int v25), .val (.int v29)] [])) _
    refine XS.iconst X30.here hx rfl (hb hby at_249) ?_
    show Steps p.tables e below (T30.setTop (mkF m 250 #[.val (.int p1), .val (.long q1), .second, .val (.long q2), .second, .val (.long q3), .second, .val (.long q4), .second, .val (.int v1), .val (.int v2), .val (.long v4), .second, .val (.long v6), .second, .val (.long v16), .second, .val (.long v17), .second, .val (.ref b1), .val (.ref b2), .val (.int v21), .val (.int v25), .val (.int v29)] [(.int (1 : Int32))])) _
    refine XS.goto X30.here hx rfl (pc0 := 250) (pc' := 254) rfl (hb hby at_250) (by decide) (by decide) ?_
    show Steps p.tables e below (T30.setTop (mkF m 254 #[.val (.int p1), .val (.long q1), .second, .val (.long q2), .second, .val (.long q3), .second, .val (.long q4), .second, .val (.int v1), .val (.int v2), .val (.long v4), .second, .val (.long v6), .second, .val (.long v16), .second, .val (.long v17), .second, .val (.ref b1), .val (.ref b2), .val (.int v21), .val (.int v25), .val (.int v29)] [(.int (1 : Int32))])) _
    exact retN X30 hx (t := .boolean) Bd.returns (by simp) (hb hby at_254) hr
  · show Q0 Z p1 q1 q2 q3 q4 h0 n0 _ T30.heap _
    exact ⟨rfl, N30⟩
set_option maxRecDepth 65536 in
set_option maxHeartbeats 40000000 in
theorem rm0 (l : Launch) (Z : State) (a0 : Array Value) (hw : ∀ d ∈ tables_1, d.before a0 Z = true) (ws : List Jvm.Cond) (p1 : Int32) (q1 : Int64) (q2 : Int64) (q3 : Int64) (q4 : Int64) (h0 : Heap) (n0 : Nat) (Z0 : n0 ≤ h0.size)  :
    MetFree l x (head1 (Jvm.Cond.code x code maxLocals ret :: ws) room_1) (fun a U => a = #[(.int p1), (.long q1), (.long q2), (.long q3), (.long q4)] ∧ Z.Warmed39 U.vm ∧ U.heap = h0) (fun _ _ _ _ _ => True) (fun _ U o U' => ∃ v L, o = .returned v ∧ Q0 Z p1 q1 q2 q3 q4 h0 n0 v U'.heap L ∧ FrameEnd U o U' L room_1.cells room_1.slots) := by
  by_cases hb5 : ((p1.toUInt32 >>> ((5 : Int32) &&& 31).toUInt32).toInt32 &&& (1 : Int32)) = (0 : Int32)
  · exact rm0_0 l Z a0 hw ws p1 q1 q2 q3 q4 h0 n0 Z0 hb5
  · exact rm0_1 l Z a0 hw ws p1 q1 q2 q3 q4 h0 n0 Z0 hb5
set_option maxRecDepth 65536 in
set_option maxHeartbeats 40000000 in
theorem comes_1 {Post : Tables → Env → Array Value → State → Outcome → State → Prop} (hpost : ∀ tb e args s v u, (limb_1_1.after args s (.returned v) u = true ∧ limb_1_2.after args s (.returned v) u = true ∧ True) → FrameEnd s (.returned v) u (Jvm.fieldLocs frame_1_writes args s ++ Jvm.arrayLocs frame_1_arrays args s ++ Jvm.staticLocs frame_1_statics s) 16 128 → Post tb e args s (.returned v) u) :
    ArmFor flags0 classFile x code maxLocals ret World_1 tables_1 room_1 Calls_1 rest_1 Pre_1 Post := by
  intro l hfl _ _ p e ha hc hk s m args below hf hA hF happ hP
  obtain ⟨hcalls, hrest, hpre⟩ := hP
  obtain ⟨-, -, -, hnamed, -, -, -, hat⟩ := (Spec.applies_iff hf).mp happ
  obtain ⟨hg, hn⟩ := and_e (Cond.before_iff.mp (show (Jvm.Cond.and given_1 narrow_1).before args s = true from hpre))
  obtain ⟨h1, g1⟩ := and_e hg
  obtain ⟨c1, g2⟩ := and_e g1
  obtain ⟨c2, g3⟩ := and_e g2
  obtain ⟨c3, g4⟩ := and_e g3
  obtain ⟨c4, g5⟩ := and_e g4
  obtain ⟨w0, w1, w2, w3, w4, rfl⟩ : ∃ w0 w1 w2 w3 w4 : Value, args = #[w0, w1, w2, w3, w4] := by
    have hs : args.size = 5 := by simpa [Cond.value, given_1] using h1
    obtain ⟨L⟩ := args
    match L, hs with
    | [w0, w1, w2, w3, w4], _ => exact ⟨w0, w1, w2, w3, w4, rfl⟩
  have hw := fun d (hd : d ∈ tables_1) => atoms_spec (ws := Jvm.Cond.code x code maxLocals ret :: tables_1) hat d (List.mem_cons_of_mem _ hd)
  obtain ⟨i0, ei0⟩ := is_v c1
  obtain rfl : w0 = (.int i0) := Option.some.inj ei0
  obtain ⟨i1, ei1⟩ := isL_v c2
  obtain rfl : w1 = (.long i1) := Option.some.inj ei1
  obtain ⟨i2, ei2⟩ := isL_v c3
  obtain rfl : w2 = (.long i2) := Option.some.inj ei2
  obtain ⟨i3, ei3⟩ := isL_v c4
  obtain rfl : w3 = (.long i3) := Option.some.inj ei3
  obtain ⟨i4, ei4⟩ := isL_v g5
  obtain rfl : w4 = (.long i4) := Option.some.inj ei4
  obtain ⟨n, o, h1, h2, h3, _, L, rfl, ⟨rfl, N⟩, hq⟩ := rm0 l s _ hw tables_1 i0 i1 i2 i3 i4 s.heap s.heap.size (Nat.le_refl _)  p e ha hc hk s m _ below hf ((Spec.applies_iff_loose hf).mp happ).1 ⟨rfl, State.Warmed39.refl s, rfl⟩ trivial
  refine ⟨n, _, h1, h2, h3, hpost _ _ _ _ _ _ ⟨Cond.after_iff.mpr rfl, Cond.after_iff.mpr (eq_i res_at (Term.int_eval (1)) rfl), trivial⟩ ⟨hq.1, hq.2.1, (hq.2.2.sift fun y hy => Or.inr (N y hy)).mono (by decide) (by decide)⟩⟩
theorem main_1_1 : Claimed_1_1 := comes_1 fun _ _ _ _ _ _ h hF => ⟨h.1, hF⟩
theorem main_1_2 : Claimed_1_2 := comes_1 fun _ _ _ _ _ _ h hF => ⟨h.2.1, hF⟩
end Jvm.Pilot.@@N@@
namespace Jvm.Pilot.@@N@@
open Jvm Jvm.ClassFile Sem Op Lib Jvm.Free Jvm.Stand Jvm.Pilot.@@N@@.Jvm.D
/-! MADE BY PROGRAM (witnessworld.py) out of the Statement's table words and the real class files: 11 classes; the members and pool entries that the words name. The judged class is class 1, her method 1. -/
namespace start1
open Jvm.ClassFile
def u (s : String) : CpInfo := .utf8 (stringToUtf16 s)
/-- a pool by its gaps: so many unusable entries, then the entry; so many at the end -/
def gap : Nat → List CpInfo → List CpInfo
  | 0, r => r
  | n + 1, r => .unusable :: gap n r
def poolList (es : List (Nat × CpInfo)) (last : Nat) : List CpInfo := es.foldr (fun e r => gap e.1 (e.2 :: r)) (gap last [])
def pool (es : List (Nat × CpInfo)) (last : Nat) : Array CpInfo := ⟨poolList es last⟩
def fileOf (pool : Array CpInfo) (this : Nat) (attrs : Array Attribute := #[]) (ms : Array MethodInfo := #[]) (fl : Nat := 33) (sup : Nat := 0) (ifs : Array Nat := #[]) (fds : Array FieldInfo := #[]) : ClassFile where
  minorVersion := 0
  majorVersion := 65
  constantPool := pool
  accessFlags := fl
  thisClass := this
  superClass := sup
  interfaces := ifs
  fields := fds
  methods := ms
  attributes := attrs
def plain (name : String) (sup : Option ClassId) : Class where
  name := name
  kind := .ordinary
  loader := none
  accessFlags := 33
  super := sup
  interfaces := #[]
  cf := none
  fields := #[]
  methods := #[]
  instanceTypes := #[]
  staticTypes := #[]
  resolved := #[]
  callSites := []
  init := .initialized
  statics := none
  mirror := none

def pool0 : Array CpInfo := pool [(5, u "<init>"), (0, u "()V"), (1, .class_ 10), (1, u "java/lang/Object")] 113

def k0m0 : Method := { name := "<init>", desc := "()V", sig := { parameters := [], returnType := none }, accessFlags := 1, code := none }
/-- java/lang/Object -/
def k0 : Class := { plain "java/lang/Object" none with
  accessFlags := 33
  interfaces := #[]
  cf := some (fileOf pool0 8 #[] #[{ accessFlags := 1, nameIndex := 5, descriptorIndex := 6, attributes := #[] }] 33 0 #[] #[])
  fields := #[]
  methods := #[k0m0]
  instanceTypes := #[]
  staticTypes := #[]
  resolved := Array.replicate 124 none
  statics := none }

def pool1 : Array CpInfo := pool [(2, .class_ 4), (1, u "java/lang/Object"), (0, u "<init>"), (0, u "()V"), (0, .methodref 8 9), (0, .class_ 10), (0, .nameAndType 11 12), (0, u "com/example/prune/prune/mdp/Words"), (0, u "isSubset"), (0, u "([J[J)Z"), (0, .class_ 14), (0, u "com/example/prune/prune/mdp/WordsIsSubsetPinLaw"), (2, u "law"), (0, u "(IJJJJ)Z")] 5

def k1m0 : Method := { name := "<init>", desc := "()V", sig := { parameters := [], returnType := none }, accessFlags := 1, code := none }
def k1c1 : Code := { maxStack := 4, maxLocals := 24, code := code, exceptionTable := #[], attributes := #[] }
def k1m1 : Method := { name := "law", desc := "(IJJJJ)Z", sig := { parameters := [.int, .long, .long, .long, .long], returnType := some .boolean }, accessFlags := 9, code := some k1c1 }
/-- com/example/prune/prune/mdp/WordsIsSubsetPinLaw -/
def k1 : Class := { plain "com/example/prune/prune/mdp/WordsIsSubsetPinLaw" (some 0) with
  accessFlags := 49
  interfaces := #[]
  cf := some (fileOf pool1 13 #[] #[{ accessFlags := 1, nameIndex := 5, descriptorIndex := 6, attributes := #[] }, { accessFlags := 9, nameIndex := 17, descriptorIndex := 18, attributes := #[] }] 49 2 #[] #[])
  fields := #[]
  methods := #[k1m0, k1m1]
  instanceTypes := #[]
  staticTypes := #[]
  resolved := Array.replicate 24 none
  statics := none }

def pool2 : Array CpInfo := pool [(2, .class_ 4), (1, u "java/lang/Object"), (0, u "<init>"), (0, u "()V"), (2, .long 18446744073709551615), (12, .class_ 24), (1, u "com/example/prune/prune/mdp/Words"), (21, u "isSubset"), (0, u "([J[J)Z")] 10

def k2m0 : Method := { name := "<init>", desc := "()V", sig := { parameters := [], returnType := none }, accessFlags := 2, code := none }
def k2c1 : Code := { maxStack := 6, maxLocals := 4, code := prog_84_method_8_code, exceptionTable := #[], attributes := #[] }
def k2m1 : Method := { name := "isSubset", desc := "([J[J)Z", sig := { parameters := [(.array .long), (.array .long)], returnType := some .boolean }, accessFlags := 8, code := some k2c1 }
/-- com/example/prune/prune/mdp/Words -/
def k2 : Class := { plain "com/example/prune/prune/mdp/Words" (some 0) with
  accessFlags := 48
  interfaces := #[]
  cf := some (fileOf pool2 22 #[] #[{ accessFlags := 2, nameIndex := 5, descriptorIndex := 6, attributes := #[] }, { accessFlags := 8, nameIndex := 46, descriptorIndex := 47, attributes := #[] }] 48 2 #[] #[])
  fields := #[]
  methods := #[k2m0, k2m1]
  instanceTypes := #[]
  staticTypes := #[]
  resolved := Array.replicate 58 none
  statics := none }

def pool3 : Array CpInfo := pool [(1, u "java/lang/Cloneable"), (0, .class_ 1), (0, u "java/lang/Object"), (0, .class_ 3)] 3

/-- java/lang/Cloneable -/
def k3 : Class := { plain "java/lang/Cloneable" (some 0) with
  accessFlags := 1537
  interfaces := #[]
  cf := some (fileOf pool3 2 #[] #[] 1537 4 #[] #[])
  fields := #[]
  methods := #[]
  instanceTypes := #[]
  staticTypes := #[]
  resolved := Array.replicate 8 none
  statics := none }

def pool4 : Array CpInfo := pool [(1, u "java/io/Serializable"), (0, .class_ 1), (0, u "java/lang/Object"), (0, .class_ 3)] 3

/-- java/io/Serializable -/
def k4 : Class := { plain "java/io/Serializable" (some 0) with
  accessFlags := 1537
  interfaces := #[]
  cf := some (fileOf pool4 2 #[] #[] 1537 4 #[] #[])
  fields := #[]
  methods := #[]
  instanceTypes := #[]
  staticTypes := #[]
  resolved := Array.replicate 8 none
  statics := none }

/-- the primitive byte -/
def k5 : Class := { plain "byte" none with kind := .primitive 'B', accessFlags := 0x411 }
/-- [B -/
def k6 : Class := { plain "[B" (some 0) with kind := .array 5 .byte, interfaces := #[3, 4], accessFlags := 1041 }

/-- the primitive int -/
def k7 : Class := { plain "int" none with kind := .primitive 'I', accessFlags := 0x411 }
/-- [I -/
def k8 : Class := { plain "[I" (some 0) with kind := .array 7 .int, interfaces := #[3, 4], accessFlags := 1041 }

/-- the primitive long -/
def k9 : Class := { plain "long" none with kind := .primitive 'J', accessFlags := 0x411 }
/-- [J -/
def k10 : Class := { plain "[J" (some 0) with kind := .array 9 .long, interfaces := #[3, 4], accessFlags := 1041 }

def heap : Heap := #[]
def classes : Array Class := #[k0, k1, k2, k3, k4, k5, k6, k7, k8, k9, k10]
def interned : List (Array UInt16 × Addr) := []
def slotsUsed : Nat := 0
def theMethod : MethodId := ⟨1, 1⟩
def args0 : Array Value := #[.int 5, .long 1, .long 2, .long 3, .long 4]
def aboutOver (below : List Frame) : State where
  vm := { classes := classes, interned := interned.toArray }
  heap := heap
  slotsUsed := slotsUsed
  threads := #[{ frames := .invoking theMethod args0 :: below }]
def below0 : List Frame := [.native { method := ⟨0, 0⟩, args := #[] }]
def about1 : State := aboutOver below0
def p0 : Program := .bare "" "" ""
def e0 : Env := launch0.env 0 0 0
theorem w_frames : about1.frames = Frame.invoking theMethod args0 :: below0 := rfl
set_option maxRecDepth 65536 in
theorem w_args : argsFit about1.vm theMethod args0 = true := by decide +kernel
set_option maxRecDepth 65536 in
theorem w_heap : heapFits about1 = true := by decide +kernel
set_option maxRecDepth 65536 in
theorem w_runnable : about1.curStatus? = some .runnable := by decide +kernel
set_option maxRecDepth 65536 in
theorem w_alone : about1.alone = true := by decide +kernel
set_option maxRecDepth 65536 in
theorem w_named : about1.methodNamed? x = some theMethod := by decide +kernel
set_option maxRecDepth 65536 in
theorem w_hears : about1.hears theMethod below0 = true := by decide +kernel
set_option maxRecDepth 65536 in
theorem w_ripe : about1.ripe theMethod args0 below0 = true := by decide +kernel
theorem w_running : about1.status = .running := rfl
set_option maxRecDepth 65536 in
theorem w_room : about1.hasRoom e0.platform room_1 = true :=
  launch0.hasRoom_least _ room_1 (by decide +kernel) (by decide +kernel) (by decide +kernel) (by decide +kernel) (by decide +kernel) (by decide +kernel)
theorem allAtoms_all (ts : List Jvm.Cond) (a : Array Jvm.Value) (st : Jvm.State) : (allAtoms ts).before a st = ts.all (fun c => c.before a st) := by
  induction ts with
  | nil => rfl
  | cons c t ih =>
    show (Jvm.Cond.and c (allAtoms t)).before a st = _
    rw [Jvm.Cond.before_and, ih, List.all_cons]
def words1 : List Jvm.Cond := Jvm.Cond.code x code maxLocals ret :: tables_1
/-- a 'code' word, met by the world's own term for the bytes: nothing is compared byte by byte -/
theorem code_word {y : MethodName} {bytes : ByteArray} {mx : Nat} {rt : Option FieldType} {a : Array Value} {s : State} {m : MethodId} {meth : Method} {c : Code} (h1 : s.methodNamed? y = some m) (h2 : s.vm.method? m = some meth) (h3 : meth.code = some c) (h4 : c.code = bytes)
    (h5 : (c.maxLocals == mx && c.exceptionTable.isEmpty && decide (c.maxStack ≤ mostOperands) && decide (meth.sig.returnType = rt) && !meth.locks && decide (parseMethodDescriptor y.desc = some meth.sig)) = true) : (Jvm.Cond.code y bytes mx rt).before a s = true := by
  simp only [Bool.and_eq_true, beq_iff_eq, Bool.not_eq_true', decide_eq_true_eq] at h5
  obtain ⟨⟨⟨⟨⟨g1, g2⟩, g3⟩, g4⟩, g5⟩, g6⟩ := h5
  simp [Cond.before, Cond.holds, Cond.value, h1, h2, h3, h4, g1, g2, g3, g4, g5, g6]
def isCode : Jvm.Cond → Bool
  | .code _ _ _ _ => true
  | _ => false
theorem all_split {L : List Jvm.Cond} {P : Jvm.Cond → Bool} (h1 : L.all (fun c => isCode c || P c) = true) (h2 : ∀ c ∈ L.filter isCode, P c = true) : L.all P = true := by
  refine List.all_eq_true.mpr fun c hc => ?_
  have h := List.all_eq_true.mp h1 c hc
  rcases Bool.eq_false_or_eq_true (isCode c) with hi | hi
  · exact h2 c (List.mem_filter.mpr ⟨hc, hi⟩)
  · simpa [hi] using h
set_option maxRecDepth 65536 in
theorem w_c0 : (Jvm.Cond.code x code maxLocals ret).before args0 about1 = true := code_word (m := ⟨1, 1⟩) (meth := k1m1) (c := k1c1) (by decide +kernel) rfl rfl rfl (by decide +kernel)
set_option maxRecDepth 65536 in
theorem w_c1 : (Jvm.Cond.code ({ cls := "com/example/prune/prune/mdp/Words", name := "isSubset", desc := "([J[J)Z" } : Jvm.MethodName) prog_84_method_8_code (4 : Nat) (Option.some Jvm.ClassFile.FieldType.boolean)).before args0 about1 = true := code_word (m := ⟨2, 1⟩) (meth := k2m1) (c := k2c1) (by decide +kernel) rfl rfl rfl (by decide +kernel)
def codes1 : List Jvm.Cond := [Jvm.Cond.code x code maxLocals ret, Jvm.Cond.code ({ cls := "com/example/prune/prune/mdp/Words", name := "isSubset", desc := "([J[J)Z" } : Jvm.MethodName) prog_84_method_8_code (4 : Nat) (Option.some Jvm.ClassFile.FieldType.boolean)]
set_option maxRecDepth 65536 in
theorem codes_eq : words1.filter isCode = codes1 := rfl
theorem w_codes : ∀ c ∈ words1.filter isCode, c.before args0 about1 = true := by
  rw [codes_eq]
  intro c hc
  simp only [codes1, List.mem_cons, List.not_mem_nil, or_false] at hc
  rcases hc with rfl | rfl
  · exact w_c0
  · exact w_c1
set_option maxRecDepth 65536 in
theorem w_t1 : words1.all (fun c => isCode c || c.before args0 about1) = true := by decide +kernel
theorem w_tables : (allAtoms (Jvm.Cond.code x code maxLocals ret :: tables_1)).before args0 about1 = true := by
  rw [allAtoms_all]
  show words1.all (fun c => c.before args0 about1) = true
  refine all_split ?_ w_codes
  rw [w_t1]
set_option maxRecDepth 65536 in
theorem w_case : (Jvm.Cond.and given_1 narrow_1).before args0 about1 = true := by decide +kernel
theorem w_applies : (headSpec (Jvm.Cond.code x code maxLocals ret :: tables_1) room_1).applies x e0.platform about1 = true :=
  (Spec.applies_iff w_frames).mpr ⟨w_running, w_runnable, w_alone, w_named, w_hears, w_ripe, w_room, w_tables⟩
theorem atStart : AtStart classFile x code maxLocals ret World_1 tables_1 room_1 Calls_1 rest_1 Pre_1 launch0 p0 e0 about1 theMethod args0 below0 :=
  ⟨lists_1, trivial, launch0.admits_env _ _ _, launch0.least_env, fairChoices_fair.cas, fairChoices_fair.clock, w_frames, w_args, w_heap, w_applies, trivial, trivial, w_case⟩
end start1
theorem witness_1 : WitnessClaimed_1 := ⟨start1.p0, start1.e0, start1.about1, start1.theMethod, start1.args0, start1.below0, start1.atStart⟩
end Jvm.Pilot.@@N@@
