import JvmDerived
import JvmDerived.Pilot.@@N@@Statement
import JvmDerived.Pilot.@@N@@Code
set_option linter.unusedVariables false
set_option linter.unusedSimpArgs false
namespace Jvm.RoadKit
open Sem ClassFile Op Lib Jvm.Stand Jvm.Free Jvm.LawKit
section New
variable {p : Program} {l : Launch} {e : Env} {R : Room} {s : State} {m : MethodId} {args : Array Value} {below : List Frame} {meth : Method} {c : Code} {T : State} {locs : List Loc} {cells slots : Nat}
theorem retI (X : Stand p l e R s m args below meth c T locs cells slots) (hx : p.tables.exec = Jvm.exec) {pc : Nat} {Ls : Array Slot} {z : Int32} {rest : List Value} (hret : meth.sig.returnType = some .int) (hd : decode c.code pc = .ok (.ireturn, 1)) {fs : List Frame}
    (hl : ∀ (f : JFrame) (acts : List Action), f.method = m → f.locked = none → f.entered = [] → (doReturn e (T.setTop f) acts (some (.int z))).1 = T.setFrames fs) : Steps p.tables e below (T.setTop (mkF m pc Ls (.int z :: rest))) (T.setFrames fs) := by
  have hm' : T.vm.method? m = some meth := X.method'
  have hn : narrow .int (.int z) = .int z := rfl
  show Steps p.tables e below (T.setTop { method := m, pc := pc, locals := Ls, stack := _ :: rest, locked := none }) _
  jvm_step X.here [X.here.top, hx, hd, hm', hret, hn]
  first | (intro acts; rw [hl _ acts rfl rfl rfl]) | rw [hl _ _ rfl rfl rfl]
  exact Steps.refl _
end New
end Jvm.RoadKit
namespace Jvm.Pilot.@@N@@
open Jvm Jvm.ClassFile Sem Op Lib Jvm.Free Jvm.Stand Jvm.LawKit Jvm.RoadKit Bundle Jvm.Pilot.@@N@@.Jvm.D
def own_A (Z : State) (h : Heap) (a : Addr) (xs : List Int64) : Prop := ∃ k, Arv Z h a k .long (Int32.ofNat xs.length) (xs.map Value.long) (.long (0 : Int64))
theorem own_A.keep {Z : State} {h h' : Heap} {a : Addr} {xs : List Int64} {ws : List Addr} (V : own_A Z h a xs) (K : Keep h h' ws) (q : a ∉ ws) : own_A Z h' a xs := by
  obtain ⟨k, V⟩ := V
  exact ⟨k, Arv.keep V K q⟩
def own_lst (z : Int32) (a b : Int64) : List Int64 := if z = 0 then [] else if z = 1 then [a] else [a, b]
theorem own_lst2 (z : Int32) (a b : Int64) : (own_lst z a b).length ≤ 2 := by
  unfold own_lst
  split
  · exact Nat.zero_le _
  · split
    · exact Nat.le_of_ble_eq_true rfl
    · exact Nat.le_of_ble_eq_true rfl
theorem own_n32 {n : Nat} (hn : n ≤ 2) : (Int32.ofNat n).toNatClampNeg = n := by
  match n, hn with
  | 0, _ => decide
  | 1, _ => decide
  | 2, _ => decide
theorem own_nn {n : Nat} (hn : n ≤ 2) : ¬ (Int32.ofNat n < 0) := by
  match n, hn with
  | 0, _ => decide
  | 1, _ => decide
  | 2, _ => decide
theorem own_lt {i n : Nat} (h : i < n) (hn : n ≤ 2) : Int32.ofNat i < Int32.ofNat n := by
  match n, i, hn, h with
  | 1, 0, _, _ => decide
  | 2, 0, _, _ => decide
  | 2, 1, _, _ => decide
theorem own_ltN {i n : Nat} (hi : i ≤ 2) (hn : n ≤ 2) (h : Int32.ofNat i < Int32.ofNat n) : i < n := by
  rcases Nat.lt_or_ge i n with q | q
  · exact q
  · exfalso
    match n, i, hn, hi, q with
    | 0, 0, _, _, _ => exact absurd h (by decide)
    | 0, 1, _, _, _ => exact absurd h (by decide)
    | 0, 2, _, _, _ => exact absurd h (by decide)
    | 1, 1, _, _, _ => exact absurd h (by decide)
    | 1, 2, _, _, _ => exact absurd h (by decide)
    | 2, 2, _, _, _ => exact absurd h (by decide)
theorem own_one (i : Nat) : Int32.ofNat i + (1 : Int32) = Int32.ofNat (i + 1) := (Int32.ofNat_add i 1).symm
theorem own_in {cl : Cell} {n i : Nat} (S : cl.slots.size = (Int32.ofNat n).toNatClampNeg) (hn : n ≤ 2) (hi : i < n) : ¬ (Int32.ofNat i < 0 ∨ cl.slots.size ≤ (Int32.ofNat i).toNatClampNeg) := by
  rw [S, own_n32 hn, own_n32 (by omega)]
  exact fun q => q.elim (own_nn (by omega)) (fun q => by omega)
theorem own_map (xs : List Int64) (i : Nat) : (xs.map Value.long).getD i (.long (0 : Int64)) = .long (xs.getD i 0) := by
  induction xs generalizing i with
  | nil => rfl
  | cons x xs ih =>
    cases i with
    | zero => rfl
    | succ i => exact ih i
theorem own_hat {cl : Cell} {xs : List Int64} {i : Nat} (S : cl.slots.size = (Int32.ofNat xs.length).toNatClampNeg) (H : Has cl (xs.map Value.long) (.long (0 : Int64))) (hn : xs.length ≤ 2) (hi : i < xs.length) : cl.slots[(Int32.ofNat i).toNatClampNeg]? = some (.long (xs.getD i 0)) := by
  rw [own_n32 (by omega), ← own_map]
  exact H i (by rw [S, own_n32 hn]; exact hi)
theorem own_getge (ys : List Int64) (i : Nat) (h : ys.length ≤ i) : ys.getD i 0 = 0 := by
  induction ys generalizing i with
  | nil => rfl
  | cons y ys ih =>
    cases i with
    | zero => simp at h
    | succ i => exact ih i (by simpa using h)
theorem own_sel (ys : List Int64) (i : Nat) (hn : ys.length ≤ 2) (hi : i ≤ 2) : (if Int32.ofNat i < Int32.ofNat ys.length then ys.getD i 0 else (0 : Int64)) = ys.getD i 0 := by
  split
  · rfl
  · rename_i h
    rw [own_getge]
    rcases Nat.lt_or_ge i ys.length with q | q
    · exact absurd (own_lt q hn) h
    · exact q
theorem own_k3 (v : Int32) (h0 : 0 ≤ v.toInt) (h1 : v.toInt < 3) : v = 0 ∨ v = 1 ∨ v = 2 := by
  have key : ∀ k : Int32, v.toInt = k.toInt → v = k := fun k q => Int32.toInt_inj.mp q
  have d : v.toInt = 0 ∨ v.toInt = 1 ∨ v.toInt = 2 := by omega
  rcases d with d | d | d
  · exact Or.inl (key 0 d)
  · exact Or.inr (Or.inl (key 1 d))
  · exact Or.inr (Or.inr (key 2 d))
theorem own_get0 (z : Int32) (a b : Int64) (hz : z = 0 ∨ z = 1 ∨ z = 2) : (own_lst z a b).getD 0 0 = (if (0 : Int32) < z then a else (0 : Int64)) := by
  rcases hz with rfl | rfl | rfl <;> rfl
theorem own_get1 (z : Int32) (a b : Int64) (hz : z = 0 ∨ z = 1 ∨ z = 2) : (own_lst z a b).getD 1 0 = (if (1 : Int32) < z then b else (0 : Int64)) := by
  rcases hz with rfl | rfl | rfl <;> rfl
def own_bit (xs es ss : List Int64) (i : Nat) : Int32 := if ((xs.getD i 0 &&& (es.getD i 0 ^^^ (-1 : Int64))) &&& (ss.getD i 0 ^^^ (-1 : Int64))) = (0 : Int64) then (1 : Int32) else (0 : Int32)
def own_go (xs es ss : List Int64) : Nat → Nat → Int32 → Int32
  | 0, _, ok => ok
  | k + 1, i, ok => if ok = (0 : Int32) then ok else own_go xs es ss k (i + 1) (own_bit xs es ss i)
def own_cov (xs es ss : List Int64) : Int32 := own_go xs es ss xs.length 0 1
theorem own_bit01 (xs es ss : List Int64) (i : Nat) : own_bit xs es ss i = 0 ∨ own_bit xs es ss i = 1 := by
  unfold own_bit
  split
  · exact Or.inr rfl
  · exact Or.inl rfl
theorem own_go01 (xs es ss : List Int64) : ∀ k i ok, (ok = 0 ∨ ok = 1) → (own_go xs es ss k i ok = 0 ∨ own_go xs es ss k i ok = 1)
  | 0, _, _, h => h
  | k + 1, i, ok, h => by
    unfold own_go
    split
    · exact h
    · exact own_go01 xs es ss k (i + 1) _ (own_bit01 xs es ss i)
theorem own_nb (xs es ss : List Int64) : nar .boolean (own_cov xs es ss) = own_cov xs es ss := by
  rcases own_go01 xs es ss xs.length 0 1 (Or.inr rfl) with h | h
  · show nar .boolean (own_go xs es ss xs.length 0 1) = own_go xs es ss xs.length 0 1
    rw [h]; decide
  · show nar .boolean (own_go xs es ss xs.length 0 1) = own_go xs es ss xs.length 0 1
    rw [h]; decide
theorem own_orr (y w : Int64) : (y &&& (w ^^^ (-1 : Int64))) = 0 ↔ (y ||| w) = w := by
  rw [← Int64.toBitVec_inj, ← Int64.toBitVec_inj]
  simp only [Int64.toBitVec_and, Int64.toBitVec_xor, Int64.toBitVec_or]
  have h1 : (-1 : Int64).toBitVec = BitVec.allOnes 64 := by decide
  have h0 : (0 : Int64).toBitVec = 0#64 := by decide
  rw [h1, h0]
  constructor
  · intro q
    apply BitVec.eq_of_getLsbD_eq
    intro i hi
    have z := congrArg (fun b => b.getLsbD i) q
    simp only [BitVec.getLsbD_and, BitVec.getLsbD_or, BitVec.getLsbD_xor, BitVec.getLsbD_allOnes, BitVec.getLsbD_zero, hi, decide_true] at z ⊢
    revert z
    cases y.toBitVec.getLsbD i <;> cases w.toBitVec.getLsbD i <;> decide
  · intro q
    apply BitVec.eq_of_getLsbD_eq
    intro i hi
    have z := congrArg (fun b => b.getLsbD i) q
    simp only [BitVec.getLsbD_and, BitVec.getLsbD_or, BitVec.getLsbD_xor, BitVec.getLsbD_allOnes, BitVec.getLsbD_zero, hi, decide_true] at z ⊢
    revert z
    cases y.toBitVec.getLsbD i <;> cases w.toBitVec.getLsbD i <;> decide
theorem own_l0 (z : Int32) (a b : Int64) (hz : z = 0 ∨ z = 1 ∨ z = 2) : (own_lst z a b).getD 0 0 = (if z < (1 : Int32) then (0 : Int64) else a) := by
  rcases hz with rfl | rfl | rfl <;> rfl
theorem own_l1 (z : Int32) (a b : Int64) (hz : z = 0 ∨ z = 1 ∨ z = 2) : (own_lst z a b).getD 1 0 = (if z < (2 : Int32) then (0 : Int64) else b) := by
  rcases hz with rfl | rfl | rfl <;> rfl
theorem own_sh (y : Int64) (s : Int32) (h : s = ((y &&& (65535 : Int64)) - ((y &&& (65535 : Int64)) / (27 : Int64)) * (27 : Int64)).toInt32) : 0 ≤ s.toInt ∧ s.toInt < 27 := by
  have h1 := c_maskL y (65535 : Int64) 16 (by decide) (by decide)
  have h2 := (c_lrem (y &&& (65535 : Int64)) (27 : Int64) 27 (by decide)).1 (by rw [h1]; omega)
  have h3 := c_l2i ((y &&& (65535 : Int64)) - ((y &&& (65535 : Int64)) / (27 : Int64)) * (27 : Int64))
  rw [← h, h2] at h3
  have h4 := rng32 s
  omega
theorem own_z1 (s v : Int32) (hs : 0 ≤ s.toInt ∧ s.toInt < 27) (h : v = s % (3 : Int32)) : v = 0 ∨ v = 1 ∨ v = 2 := by
  have h1 := (c_irem s (3 : Int32) 3 (by decide)).1 hs.1
  rw [← h] at h1
  exact own_k3 v (by omega) (by omega)
theorem own_z2 (s v : Int32) (hs : 0 ≤ s.toInt ∧ s.toInt < 27) (h : v = (s / (3 : Int32)) % (3 : Int32)) : v = 0 ∨ v = 1 ∨ v = 2 := by
  have h0 := (c_idiv s (3 : Int32) 3 (by decide) (by decide)).1 hs.1
  have h1 := (c_irem (s / (3 : Int32)) (3 : Int32) 3 (by decide)).1 (by omega)
  rw [← h] at h1
  exact own_k3 v (by omega) (by omega)
theorem own_z3 (s v : Int32) (hs : 0 ≤ s.toInt ∧ s.toInt < 27) (h : v = s / (9 : Int32)) : v = 0 ∨ v = 1 ∨ v = 2 := by
  have h0 := (c_idiv s (9 : Int32) 9 (by decide) (by decide)).1 hs.1
  rw [← h] at h0
  exact own_k3 v (by omega) (by omega)
theorem own_fin (zt ze zs : Int32) (t0 t1 e0 e1 s0 s1 x0 x1 y0 y1 : Int64) (hzt : zt = 0 ∨ zt = 1 ∨ zt = 2) (hze : ze = 0 ∨ ze = 1 ∨ ze = 2) (hzs : zs = 0 ∨ zs = 1 ∨ zs = 2)
    (hx0 : x0 = if ze < (1 : Int32) then (0 : Int64) else e0) (hx1 : x1 = if ze < (2 : Int32) then (0 : Int64) else e1) (hy0 : y0 = if zs < (1 : Int32) then (0 : Int64) else s0) (hy1 : y1 = if zs < (2 : Int32) then (0 : Int64) else s1) :
    own_cov (own_lst zt t0 t1) (own_lst ze e0 e1) (own_lst zs s0 s1) = (if (if zt < (1 : Int32) then (1 : Int32) else if ((t0 &&& (x0 ^^^ (-1 : Int64))) ||| y0) = y0 then (1 : Int32) else (0 : Int32)) = (0 : Int32) then (0 : Int32) else if (if zt < (2 : Int32) then (1 : Int32) else if ((t1 &&& (x1 ^^^ (-1 : Int64))) ||| y1) = y1 then (1 : Int32) else (0 : Int32)) = (0 : Int32) then (0 : Int32) else (1 : Int32)) := by
  have g0 : (own_lst ze e0 e1).getD 0 0 = x0 := by rw [hx0]; exact own_l0 ze e0 e1 hze
  have g1 : (own_lst ze e0 e1).getD 1 0 = x1 := by rw [hx1]; exact own_l1 ze e0 e1 hze
  have k0 : (own_lst zs s0 s1).getD 0 0 = y0 := by rw [hy0]; exact own_l0 zs s0 s1 hzs
  have k1 : (own_lst zs s0 s1).getD 1 0 = y1 := by rw [hy1]; exact own_l1 zs s0 s1 hzs
  obtain ⟨es, hes⟩ : ∃ es, es = own_lst ze e0 e1 := ⟨_, rfl⟩
  obtain ⟨ss, hss⟩ : ∃ ss, ss = own_lst zs s0 s1 := ⟨_, rfl⟩
  rw [← hes] at g0 g1 ⊢
  rw [← hss] at k0 k1 ⊢
  clear hes hss hx0 hx1 hy0 hy1 hze hzs
  rcases hzt with rfl | rfl | rfl
  · rfl
  · have e : own_cov (own_lst 1 t0 t1) es ss = (if ((t0 &&& (es.getD 0 0 ^^^ (-1 : Int64))) &&& (ss.getD 0 0 ^^^ (-1 : Int64))) = (0 : Int64) then (1 : Int32) else (0 : Int32)) := rfl
    rw [e, g0, k0]
    by_cases h0 : ((t0 &&& (x0 ^^^ (-1 : Int64))) ||| y0) = y0
    · rw [if_pos ((own_orr _ y0).mpr h0), if_pos h0]; rfl
    · rw [if_neg (fun q => h0 ((own_orr _ y0).mp q)), if_neg h0]; rfl
  · have e : own_cov (own_lst 2 t0 t1) es ss = (if (if ((t0 &&& (es.getD 0 0 ^^^ (-1 : Int64))) &&& (ss.getD 0 0 ^^^ (-1 : Int64))) = (0 : Int64) then (1 : Int32) else (0 : Int32)) = (0 : Int32) then (if ((t0 &&& (es.getD 0 0 ^^^ (-1 : Int64))) &&& (ss.getD 0 0 ^^^ (-1 : Int64))) = (0 : Int64) then (1 : Int32) else (0 : Int32)) else (if ((t1 &&& (es.getD 1 0 ^^^ (-1 : Int64))) &&& (ss.getD 1 0 ^^^ (-1 : Int64))) = (0 : Int64) then (1 : Int32) else (0 : Int32))) := rfl
    rw [e, g0, g1, k0, k1]
    by_cases h0 : ((t0 &&& (x0 ^^^ (-1 : Int64))) ||| y0) = y0
    · rw [if_pos ((own_orr _ y0).mpr h0), if_pos h0]
      by_cases h1 : ((t1 &&& (x1 ^^^ (-1 : Int64))) ||| y1) = y1
      · rw [if_pos ((own_orr _ y1).mpr h1), if_pos h1]; rfl
      · rw [if_neg (fun q => h1 ((own_orr _ y1).mp q)), if_neg h1]; rfl
    · rw [if_neg (fun q => h0 ((own_orr _ y0).mp q)), if_neg h0]; rfl
theorem d2_0 : decode prog_84_method_10_code 0 = .ok (.iconst 1, 1) := by decide +kernel
theorem d2_1 : decode prog_84_method_10_code 1 = .ok (.istore_n 3, 1) := by decide +kernel
theorem d2_2 : decode prog_84_method_10_code 2 = .ok (.iconst 0, 1) := by decide +kernel
theorem d2_3 : decode prog_84_method_10_code 3 = .ok (.istore 4, 2) := by decide +kernel
theorem d2_5 : decode prog_84_method_10_code 5 = .ok (.iload 4, 2) := by decide +kernel
theorem d2_7 : decode prog_84_method_10_code 7 = .ok (.aload_n 0, 1) := by decide +kernel
theorem d2_8 : decode prog_84_method_10_code 8 = .ok (.arraylength, 1) := by decide +kernel
theorem d2_9 : decode prog_84_method_10_code 9 = .ok (.if_icmp .ge 72, 3) := by decide +kernel
theorem d2_12 : decode prog_84_method_10_code 12 = .ok (.iload_n 3, 1) := by decide +kernel
theorem d2_13 : decode prog_84_method_10_code 13 = .ok (.ifCond .eq 68, 3) := by decide +kernel
theorem d2_16 : decode prog_84_method_10_code 16 = .ok (.aload_n 0, 1) := by decide +kernel
theorem d2_17 : decode prog_84_method_10_code 17 = .ok (.iload 4, 2) := by decide +kernel
theorem d2_19 : decode prog_84_method_10_code 19 = .ok (.laload, 1) := by decide +kernel
theorem d2_20 : decode prog_84_method_10_code 20 = .ok (.iload 4, 2) := by decide +kernel
theorem d2_22 : decode prog_84_method_10_code 22 = .ok (.aload_n 1, 1) := by decide +kernel
theorem d2_23 : decode prog_84_method_10_code 23 = .ok (.arraylength, 1) := by decide +kernel
theorem d2_24 : decode prog_84_method_10_code 24 = .ok (.if_icmp .ge 10, 3) := by decide +kernel
theorem d2_27 : decode prog_84_method_10_code 27 = .ok (.aload_n 1, 1) := by decide +kernel
theorem d2_28 : decode prog_84_method_10_code 28 = .ok (.iload 4, 2) := by decide +kernel
theorem d2_30 : decode prog_84_method_10_code 30 = .ok (.laload, 1) := by decide +kernel
theorem d2_31 : decode prog_84_method_10_code 31 = .ok (.goto 4, 3) := by decide +kernel
theorem d2_34 : decode prog_84_method_10_code 34 = .ok (.lconst 0, 1) := by decide +kernel
theorem d2_35 : decode prog_84_method_10_code 35 = .ok (.ldc2_w 9, 3) := by decide +kernel
theorem d2_38 : decode prog_84_method_10_code 38 = .ok (.lxor, 1) := by decide +kernel
theorem d2_39 : decode prog_84_method_10_code 39 = .ok (.land, 1) := by decide +kernel
theorem d2_40 : decode prog_84_method_10_code 40 = .ok (.lstore 5, 2) := by decide +kernel
theorem d2_42 : decode prog_84_method_10_code 42 = .ok (.lload 5, 2) := by decide +kernel
theorem d2_44 : decode prog_84_method_10_code 44 = .ok (.iload 4, 2) := by decide +kernel
theorem d2_46 : decode prog_84_method_10_code 46 = .ok (.aload_n 2, 1) := by decide +kernel
theorem d2_47 : decode prog_84_method_10_code 47 = .ok (.arraylength, 1) := by decide +kernel
theorem d2_48 : decode prog_84_method_10_code 48 = .ok (.if_icmp .ge 10, 3) := by decide +kernel
theorem d2_51 : decode prog_84_method_10_code 51 = .ok (.aload_n 2, 1) := by decide +kernel
theorem d2_52 : decode prog_84_method_10_code 52 = .ok (.iload 4, 2) := by decide +kernel
theorem d2_54 : decode prog_84_method_10_code 54 = .ok (.laload, 1) := by decide +kernel
theorem d2_55 : decode prog_84_method_10_code 55 = .ok (.goto 4, 3) := by decide +kernel
theorem d2_58 : decode prog_84_method_10_code 58 = .ok (.lconst 0, 1) := by decide +kernel
theorem d2_59 : decode prog_84_method_10_code 59 = .ok (.ldc2_w 9, 3) := by decide +kernel
theorem d2_62 : decode prog_84_method_10_code 62 = .ok (.lxor, 1) := by decide +kernel
theorem d2_63 : decode prog_84_method_10_code 63 = .ok (.land, 1) := by decide +kernel
theorem d2_64 : decode prog_84_method_10_code 64 = .ok (.lconst 0, 1) := by decide +kernel
theorem d2_65 : decode prog_84_method_10_code 65 = .ok (.lcmp, 1) := by decide +kernel
theorem d2_66 : decode prog_84_method_10_code 66 = .ok (.ifCond .ne 7, 3) := by decide +kernel
theorem d2_69 : decode prog_84_method_10_code 69 = .ok (.iconst 1, 1) := by decide +kernel
theorem d2_70 : decode prog_84_method_10_code 70 = .ok (.goto 4, 3) := by decide +kernel
theorem d2_73 : decode prog_84_method_10_code 73 = .ok (.iconst 0, 1) := by decide +kernel
theorem d2_74 : decode prog_84_method_10_code 74 = .ok (.istore_n 3, 1) := by decide +kernel
theorem d2_75 : decode prog_84_method_10_code 75 = .ok (.iinc 4 1, 3) := by decide +kernel
theorem d2_78 : decode prog_84_method_10_code 78 = .ok (.goto (-73), 3) := by decide +kernel
theorem d2_81 : decode prog_84_method_10_code 81 = .ok (.iload_n 3, 1) := by decide +kernel
theorem d2_82 : decode prog_84_method_10_code 82 = .ok (.ireturn, 1) := by decide +kernel
set_option maxRecDepth 65536 in
set_option maxHeartbeats 40000000 in
theorem tnA {p : Program} {l : Launch} {e : Env} {R : Room} {s : State} {m : MethodId} {args : Array Value} {below : List Frame} {meth : Method} {c : Code} {T0 : State} {locs : List Loc} {cells slots : Nat} {Z : State} {a0 : Array Value} {h0 : Heap} (a1 : Addr) (a2 : Addr) (a3 : Addr) (ok : Int32) (i : Int32) (cl1 : Cell) (cl2 : Cell) (cl3 : Cell) (z1 : Int32) (z2 : Int32) (z3 : Int32) (w1 : Int64) (w2 : Int64) (w3 : Int64) (X0 : Stand p l e R s m args below meth c T0 locs cells slots) (hx : p.tables.exec = Jvm.exec) (hZ : Z.Warmed39 s.vm) (hw : ∀ d ∈ tables_1, d.before a0 Z = true) (hby : c.code = prog_84_method_10_code) (hml : c.maxLocals = 7) (hown : s.vm.findClass "com/example/prune/prune/mdp/Words" = some m.cls) (e0 : T0.heap = h0) (Ar1 : Arr Z h0 a1 cl1 .long) (S1 : cl1.slots.size = z1.toNatClampNeg) (M1 : ¬ z1 < 0) (Ar2 : Arr Z h0 a2 cl2 .long) (S2 : cl2.slots.size = z2.toNatClampNeg) (M2 : ¬ z2 < 0) (Ar3 : Arr Z h0 a3 cl3 .long) (S3 : cl3.slots.size = z3.toNatClampNeg) (M3 : ¬ z3 < 0) (hin1 : ¬ (i < 0 ∨ cl1.slots.size ≤ i.toNatClampNeg)) (hat1 : cl1.slots[i.toNatClampNeg]? = some (.long w1)) (hin2 : i < z2 → ¬ (i < 0 ∨ cl2.slots.size ≤ i.toNatClampNeg)) (hat2 : i < z2 → cl2.slots[i.toNatClampNeg]? = some (.long w2)) (hin3 : i < z3 → ¬ (i < 0 ∨ cl3.slots.size ≤ i.toNatClampNeg)) (hat3 : i < z3 → cl3.slots[i.toNatClampNeg]? = some (.long w3)) (hc1 : i < z1) (hc2 : ¬ (ok = (0 : Int32))) :
    ∀ t, Steps p.tables e below (T0.setTop (mkF m 5 #[.val (.ref a1), .val (.ref a2), .val (.ref a3), .val (.int (if ((w1 &&& ((if (i < z2) then w2 else (0 : Int64)) ^^^ (-1 : Int64))) &&& ((if (i < z3) then w3 else (0 : Int64)) ^^^ (-1 : Int64))) = (0 : Int64) then (1 : Int32) else (0 : Int32))), .val (.int (i + (1 : Int32))), .val (.long (w1 &&& ((if (i < z2) then w2 else (0 : Int64)) ^^^ (-1 : Int64)))), .second] [])) t → Steps p.tables e below (T0.setTop (mkF m 5 #[.val (.ref a1), .val (.ref a2), .val (.ref a3), .val (.int ok), .val (.int i), .unset, .unset] [])) t := by
  obtain ⟨v2, hv2⟩ : ∃ z : Int64, z = if (i < z2) then w2 else (0 : Int64) := ⟨_, rfl⟩
  obtain ⟨v3, hv3⟩ : ∃ z : Int64, z = (w1 &&& (v2 ^^^ (-1 : Int64))) := ⟨_, rfl⟩
  obtain ⟨v5, hv5⟩ : ∃ z : Int64, z = if (i < z3) then w3 else (0 : Int64) := ⟨_, rfl⟩
  obtain ⟨v7, hv7⟩ : ∃ z : Int32, z = if ((v3 &&& (v5 ^^^ (-1 : Int64))) = (0 : Int64)) then (1 : Int32) else (0 : Int32) := ⟨_, rfl⟩
  intro t k
  have h5 : v3 = (w1 &&& ((if (i < z2) then w2 else (0 : Int64)) ^^^ (-1 : Int64))) := by rw [hv3, hv2]
  have hE : v7 = (if ((w1 &&& ((if (i < z2) then w2 else (0 : Int64)) ^^^ (-1 : Int64))) &&& ((if (i < z3) then w3 else (0 : Int64)) ^^^ (-1 : Int64))) = (0 : Int64) then (1 : Int32) else (0 : Int32)) := by rw [hv7, hv5, ← h5]
  rw [← hE, ← h5] at k
  show Steps p.tables e below (T0.setTop (mkF m 5 #[.val (.ref a1), .val (.ref a2), .val (.ref a3), .val (.int ok), .val (.int i), .unset, .unset] [])) _
  refine XS.iload X0.here hx rfl (hb hby d2_5) rfl ?_
  show Steps p.tables e below (T0.setTop (mkF m 7 #[.val (.ref a1), .val (.ref a2), .val (.ref a3), .val (.int ok), .val (.int i), .unset, .unset] [(.int i)])) _
  refine XS.aloadN X0.here hx rfl (hb hby d2_7) rfl rfl ?_
  show Steps p.tables e below (T0.setTop (mkF m 8 #[.val (.ref a1), .val (.ref a2), .val (.ref a3), .val (.int ok), .val (.int i), .unset, .unset] [(.ref a1), (.int i)])) _
  refine X0.arraylength hx (by first | exact Ar1.1 | (rw [e0]; exact Ar1.1)) (State.isArrayOf_alike hZ.alike Ar1.2.1) (g := (mkF m 8 #[.val (.ref a1), .val (.ref a2), .val (.ref a3), .val (.int ok), .val (.int i), .unset, .unset] [(.ref a1), (.int i)])) rfl rfl (hb hby d2_8) _ ?_
  rw [len_of S1 M1]
  show Steps p.tables e below (T0.setTop (mkF m 9 #[.val (.ref a1), .val (.ref a2), .val (.ref a3), .val (.int ok), .val (.int i), .unset, .unset] [(.int z1), (.int i)])) _
  refine XS.icmpNo X0.here hx rfl (hb hby d2_9) rfl (tlt hc1).2.1 ?_
  show Steps p.tables e below (T0.setTop (mkF m 12 #[.val (.ref a1), .val (.ref a2), .val (.ref a3), .val (.int ok), .val (.int i), .unset, .unset] [])) _
  refine XS.iloadN X0.here hx rfl (hb hby d2_12) rfl ?_
  show Steps p.tables e below (T0.setTop (mkF m 13 #[.val (.ref a1), .val (.ref a2), .val (.ref a3), .val (.int ok), .val (.int i), .unset, .unset] [(.int ok)])) _
  refine XS.ifNo X0.here hx rfl (hb hby d2_13) rfl ((if0 _ _).trans (feq hc2).1) ?_
  show Steps p.tables e below (T0.setTop (mkF m 16 #[.val (.ref a1), .val (.ref a2), .val (.ref a3), .val (.int ok), .val (.int i), .unset, .unset] [])) _
  refine XS.aloadN X0.here hx rfl (hb hby d2_16) rfl rfl ?_
  show Steps p.tables e below (T0.setTop (mkF m 17 #[.val (.ref a1), .val (.ref a2), .val (.ref a3), .val (.int ok), .val (.int i), .unset, .unset] [(.ref a1)])) _
  refine XS.iload X0.here hx rfl (hb hby d2_17) rfl ?_
  show Steps p.tables e below (T0.setTop (mkF m 19 #[.val (.ref a1), .val (.ref a2), .val (.ref a3), .val (.int ok), .val (.int i), .unset, .unset] [(.int i), (.ref a1)])) _
  refine X0.laload hx (j := i) (v := (.long w1)) (by first | exact Ar1.1 | (rw [e0]; exact Ar1.1)) (State.isArrayOf_alike hZ.alike Ar1.2.1) Ar1.2.2 hin1 hat1 (g := (mkF m 19 #[.val (.ref a1), .val (.ref a2), .val (.ref a3), .val (.int ok), .val (.int i), .unset, .unset] [(.int i), (.ref a1)])) rfl rfl (hb hby d2_19) _ ?_
  show Steps p.tables e below (T0.setTop (mkF m 20 #[.val (.ref a1), .val (.ref a2), .val (.ref a3), .val (.int ok), .val (.int i), .unset, .unset] [(.long w1)])) _
  refine XS.iload X0.here hx rfl (hb hby d2_20) rfl ?_
  show Steps p.tables e below (T0.setTop (mkF m 22 #[.val (.ref a1), .val (.ref a2), .val (.ref a3), .val (.int ok), .val (.int i), .unset, .unset] [(.int i), (.long w1)])) _
  refine XS.aloadN X0.here hx rfl (hb hby d2_22) rfl rfl ?_
  show Steps p.tables e below (T0.setTop (mkF m 23 #[.val (.ref a1), .val (.ref a2), .val (.ref a3), .val (.int ok), .val (.int i), .unset, .unset] [(.ref a2), (.int i), (.long w1)])) _
  refine X0.arraylength hx (by first | exact Ar2.1 | (rw [e0]; exact Ar2.1)) (State.isArrayOf_alike hZ.alike Ar2.2.1) (g := (mkF m 23 #[.val (.ref a1), .val (.ref a2), .val (.ref a3), .val (.int ok), .val (.int i), .unset, .unset] [(.ref a2), (.int i), (.long w1)])) rfl rfl (hb hby d2_23) _ ?_
  rw [len_of S2 M2]
  have sg1 : ∀ t, Steps p.tables e below (T0.setTop (mkF m 35 #[.val (.ref a1), .val (.ref a2), .val (.ref a3), .val (.int ok), .val (.int i), .unset, .unset] [(.long v2), (.long w1)])) t → Steps p.tables e below (T0.setTop (mkF m 24 #[.val (.ref a1), .val (.ref a2), .val (.ref a3), .val (.int ok), .val (.int i), .unset, .unset] [(.int z2), (.int i), (.long w1)])) t := by
    intro t k
    by_cases hc1 : (i < z2)
    · rw [show v2 = w2 from by rw [hv2, if_pos hc1]] at k
      show Steps p.tables e below (T0.setTop (mkF m 24 #[.val (.ref a1), .val (.ref a2), .val (.ref a3), .val (.int ok), .val (.int i), .unset, .unset] [(.int z2), (.int i), (.long w1)])) _
      refine XS.icmpNo X0.here hx rfl (hb hby d2_24) rfl (tlt hc1).2.1 ?_
      show Steps p.tables e below (T0.setTop (mkF m 27 #[.val (.ref a1), .val (.ref a2), .val (.ref a3), .val (.int ok), .val (.int i), .unset, .unset] [(.long w1)])) _
      refine XS.aloadN X0.here hx rfl (hb hby d2_27) rfl rfl ?_
      show Steps p.tables e below (T0.setTop (mkF m 28 #[.val (.ref a1), .val (.ref a2), .val (.ref a3), .val (.int ok), .val (.int i), .unset, .unset] [(.ref a2), (.long w1)])) _
      refine XS.iload X0.here hx rfl (hb hby d2_28) rfl ?_
      show Steps p.tables e below (T0.setTop (mkF m 30 #[.val (.ref a1), .val (.ref a2), .val (.ref a3), .val (.int ok), .val (.int i), .unset, .unset] [(.int i), (.ref a2), (.long w1)])) _
      refine X0.laload hx (j := i) (v := (.long w2)) (by first | exact Ar2.1 | (rw [e0]; exact Ar2.1)) (State.isArrayOf_alike hZ.alike Ar2.2.1) Ar2.2.2 (hin2 hc1) (hat2 hc1) (g := (mkF m 30 #[.val (.ref a1), .val (.ref a2), .val (.ref a3), .val (.int ok), .val (.int i), .unset, .unset] [(.int i), (.ref a2), (.long w1)])) rfl rfl (hb hby d2_30) _ ?_
      show Steps p.tables e below (T0.setTop (mkF m 31 #[.val (.ref a1), .val (.ref a2), .val (.ref a3), .val (.int ok), .val (.int i), .unset, .unset] [(.long w2), (.long w1)])) _
      refine XS.goto X0.here hx rfl (pc0 := 31) (pc' := 35) rfl (hb hby d2_31) (by decide) (by decide) ?_
      exact k
    · rw [show v2 = (0 : Int64) from by rw [hv2, if_neg hc1]] at k
      show Steps p.tables e below (T0.setTop (mkF m 24 #[.val (.ref a1), .val (.ref a2), .val (.ref a3), .val (.int ok), .val (.int i), .unset, .unset] [(.int z2), (.int i), (.long w1)])) _
      refine XS.icmpYes X0.here hx rfl (pc0 := 24) (pc' := 34) rfl (hb hby d2_24) rfl (flt hc1).2.1 (by decide) (by decide) ?_
      show Steps p.tables e below (T0.setTop (mkF m 34 #[.val (.ref a1), .val (.ref a2), .val (.ref a3), .val (.int ok), .val (.int i), .unset, .unset] [(.long w1)])) _
      refine XS.lconst X0.here hx rfl (hb hby d2_34) ?_
      exact k
  refine sg1 _ ?_
  show Steps p.tables e below (T0.setTop (mkF m 35 #[.val (.ref a1), .val (.ref a2), .val (.ref a3), .val (.int ok), .val (.int i), .unset, .unset] [(.long v2), (.long w1)])) _
  refine X0.ldc2Long hx hown (mvT hZ (hw _ (List.mem_of_getElem? (i := 11) rfl))) (g := (mkF m 35 #[.val (.ref a1), .val (.ref a2), .val (.ref a3), .val (.int ok), .val (.int i), .unset, .unset] [(.long v2), (.long w1)])) rfl (hb hby d2_35) _ ?_
  show Steps p.tables e below (T0.setTop (mkF m 38 #[.val (.ref a1), .val (.ref a2), .val (.ref a3), .val (.int ok), .val (.int i), .unset, .unset] [(.long (-1 : Int64)), (.long v2), (.long w1)])) _
  refine XS.lxor X0.here hx rfl (hb hby d2_38) rfl ?_
  show Steps p.tables e below (T0.setTop (mkF m 39 #[.val (.ref a1), .val (.ref a2), .val (.ref a3), .val (.int ok), .val (.int i), .unset, .unset] [(.long (v2 ^^^ (-1 : Int64))), (.long w1)])) _
  refine XS.land X0.here hx rfl (hb hby d2_39) rfl ?_
  show Steps p.tables e below (T0.setTop (mkF m 40 #[.val (.ref a1), .val (.ref a2), .val (.ref a3), .val (.int ok), .val (.int i), .unset, .unset] [(.long (w1 &&& (v2 ^^^ (-1 : Int64))))])) _
  refine XS.lstore X0.here hx rfl (hb hby d2_40) rfl (l' := #[.val (.ref a1), .val (.ref a2), .val (.ref a3), .val (.int ok), .val (.int i), .val (.long (w1 &&& (v2 ^^^ (-1 : Int64)))), .second]) rfl ?_
  refine castTop (g' := (mkF m 42 #[.val (.ref a1), .val (.ref a2), .val (.ref a3), .val (.int ok), .val (.int i), .val (.long v3), .second] [])) (by rw [hv3]) ?_
  show Steps p.tables e below (T0.setTop (mkF m 42 #[.val (.ref a1), .val (.ref a2), .val (.ref a3), .val (.int ok), .val (.int i), .val (.long v3), .second] [])) _
  refine XS.lload X0.here hx rfl (hb hby d2_42) rfl ?_
  show Steps p.tables e below (T0.setTop (mkF m 44 #[.val (.ref a1), .val (.ref a2), .val (.ref a3), .val (.int ok), .val (.int i), .val (.long v3), .second] [(.long v3)])) _
  refine XS.iload X0.here hx rfl (hb hby d2_44) rfl ?_
  show Steps p.tables e below (T0.setTop (mkF m 46 #[.val (.ref a1), .val (.ref a2), .val (.ref a3), .val (.int ok), .val (.int i), .val (.long v3), .second] [(.int i), (.long v3)])) _
  refine XS.aloadN X0.here hx rfl (hb hby d2_46) rfl rfl ?_
  show Steps p.tables e below (T0.setTop (mkF m 47 #[.val (.ref a1), .val (.ref a2), .val (.ref a3), .val (.int ok), .val (.int i), .val (.long v3), .second] [(.ref a3), (.int i), (.long v3)])) _
  refine X0.arraylength hx (by first | exact Ar3.1 | (rw [e0]; exact Ar3.1)) (State.isArrayOf_alike hZ.alike Ar3.2.1) (g := (mkF m 47 #[.val (.ref a1), .val (.ref a2), .val (.ref a3), .val (.int ok), .val (.int i), .val (.long v3), .second] [(.ref a3), (.int i), (.long v3)])) rfl rfl (hb hby d2_47) _ ?_
  rw [len_of S3 M3]
  have sg4 : ∀ t, Steps p.tables e below (T0.setTop (mkF m 59 #[.val (.ref a1), .val (.ref a2), .val (.ref a3), .val (.int ok), .val (.int i), .val (.long v3), .second] [(.long v5), (.long v3)])) t → Steps p.tables e below (T0.setTop (mkF m 48 #[.val (.ref a1), .val (.ref a2), .val (.ref a3), .val (.int ok), .val (.int i), .val (.long v3), .second] [(.int z3), (.int i), (.long v3)])) t := by
    intro t k
    by_cases hc4 : (i < z3)
    · rw [show v5 = w3 from by rw [hv5, if_pos hc4]] at k
      show Steps p.tables e below (T0.setTop (mkF m 48 #[.val (.ref a1), .val (.ref a2), .val (.ref a3), .val (.int ok), .val (.int i), .val (.long v3), .second] [(.int z3), (.int i), (.long v3)])) _
      refine XS.icmpNo X0.here hx rfl (hb hby d2_48) rfl (tlt hc4).2.1 ?_
      show Steps p.tables e below (T0.setTop (mkF m 51 #[.val (.ref a1), .val (.ref a2), .val (.ref a3), .val (.int ok), .val (.int i), .val (.long v3), .second] [(.long v3)])) _
      refine XS.aloadN X0.here hx rfl (hb hby d2_51) rfl rfl ?_
      show Steps p.tables e below (T0.setTop (mkF m 52 #[.val (.ref a1), .val (.ref a2), .val (.ref a3), .val (.int ok), .val (.int i), .val (.long v3), .second] [(.ref a3), (.long v3)])) _
      refine XS.iload X0.here hx rfl (hb hby d2_52) rfl ?_
      show Steps p.tables e below (T0.setTop (mkF m 54 #[.val (.ref a1), .val (.ref a2), .val (.ref a3), .val (.int ok), .val (.int i), .val (.long v3), .second] [(.int i), (.ref a3), (.long v3)])) _
      refine X0.laload hx (j := i) (v := (.long w3)) (by first | exact Ar3.1 | (rw [e0]; exact Ar3.1)) (State.isArrayOf_alike hZ.alike Ar3.2.1) Ar3.2.2 (hin3 hc4) (hat3 hc4) (g := (mkF m 54 #[.val (.ref a1), .val (.ref a2), .val (.ref a3), .val (.int ok), .val (.int i), .val (.long v3), .second] [(.int i), (.ref a3), (.long v3)])) rfl rfl (hb hby d2_54) _ ?_
      show Steps p.tables e below (T0.setTop (mkF m 55 #[.val (.ref a1), .val (.ref a2), .val (.ref a3), .val (.int ok), .val (.int i), .val (.long v3), .second] [(.long w3), (.long v3)])) _
      refine XS.goto X0.here hx rfl (pc0 := 55) (pc' := 59) rfl (hb hby d2_55) (by decide) (by decide) ?_
      exact k
    · rw [show v5 = (0 : Int64) from by rw [hv5, if_neg hc4]] at k
      show Steps p.tables e below (T0.setTop (mkF m 48 #[.val (.ref a1), .val (.ref a2), .val (.ref a3), .val (.int ok), .val (.int i), .val (.long v3), .second] [(.int z3), (.int i), (.long v3)])) _
      refine XS.icmpYes X0.here hx rfl (pc0 := 48) (pc' := 58) rfl (hb hby d2_48) rfl (flt hc4).2.1 (by decide) (by decide) ?_
      show Steps p.tables e below (T0.setTop (mkF m 58 #[.val (.ref a1), .val (.ref a2), .val (.ref a3), .val (.int ok), .val (.int i), .val (.long v3), .second] [(.long v3)])) _
      refine XS.lconst X0.here hx rfl (hb hby d2_58) ?_
      exact k
  refine sg4 _ ?_
  show Steps p.tables e below (T0.setTop (mkF m 59 #[.val (.ref a1), .val (.ref a2), .val (.ref a3), .val (.int ok), .val (.int i), .val (.long v3), .second] [(.long v5), (.long v3)])) _
  refine X0.ldc2Long hx hown (mvT hZ (hw _ (List.mem_of_getElem? (i := 11) rfl))) (g := (mkF m 59 #[.val (.ref a1), .val (.ref a2), .val (.ref a3), .val (.int ok), .val (.int i), .val (.long v3), .second] [(.long v5), (.long v3)])) rfl (hb hby d2_59) _ ?_
  show Steps p.tables e below (T0.setTop (mkF m 62 #[.val (.ref a1), .val (.ref a2), .val (.ref a3), .val (.int ok), .val (.int i), .val (.long v3), .second] [(.long (-1 : Int64)), (.long v5), (.long v3)])) _
  refine XS.lxor X0.here hx rfl (hb hby d2_62) rfl ?_
  show Steps p.tables e below (T0.setTop (mkF m 63 #[.val (.ref a1), .val (.ref a2), .val (.ref a3), .val (.int ok), .val (.int i), .val (.long v3), .second] [(.long (v5 ^^^ (-1 : Int64))), (.long v3)])) _
  refine XS.land X0.here hx rfl (hb hby d2_63) rfl ?_
  show Steps p.tables e below (T0.setTop (mkF m 64 #[.val (.ref a1), .val (.ref a2), .val (.ref a3), .val (.int ok), .val (.int i), .val (.long v3), .second] [(.long (v3 &&& (v5 ^^^ (-1 : Int64))))])) _
  refine XS.lconst X0.here hx rfl (hb hby d2_64) ?_
  show Steps p.tables e below (T0.setTop (mkF m 65 #[.val (.ref a1), .val (.ref a2), .val (.ref a3), .val (.int ok), .val (.int i), .val (.long v3), .second] [(.long (0 : Int64)), (.long (v3 &&& (v5 ^^^ (-1 : Int64))))])) _
  refine XS.lcmp X0.here hx rfl (hb hby d2_65) rfl ?_
  have sg6 : ∀ t, Steps p.tables e below (T0.setTop (mkF m 74 #[.val (.ref a1), .val (.ref a2), .val (.ref a3), .val (.int ok), .val (.int i), .val (.long v3), .second] [(.int v7)])) t → Steps p.tables e below (T0.setTop (mkF m 66 #[.val (.ref a1), .val (.ref a2), .val (.ref a3), .val (.int ok), .val (.int i), .val (.long v3), .second] [(.int (lcmpW (v3 &&& (v5 ^^^ (-1 : Int64))) (0 : Int64)))])) t := by
    intro t k
    by_cases hc6 : ((v3 &&& (v5 ^^^ (-1 : Int64))) = (0 : Int64))
    · rw [show v7 = (1 : Int32) from by rw [hv7, if_pos hc6]] at k
      show Steps p.tables e below (T0.setTop (mkF m 66 #[.val (.ref a1), .val (.ref a2), .val (.ref a3), .val (.int ok), .val (.int i), .val (.long v3), .second] [(.int (lcmpW (v3 &&& (v5 ^^^ (-1 : Int64))) (0 : Int64)))])) _
      refine XS.ifNo X0.here hx rfl (hb hby d2_66) rfl ((if0 _ _).trans (teq ((lw_eq (v3 &&& (v5 ^^^ (-1 : Int64))) (0 : Int64)).mpr hc6)).2) ?_
      show Steps p.tables e below (T0.setTop (mkF m 69 #[.val (.ref a1), .val (.ref a2), .val (.ref a3), .val (.int ok), .val (.int i), .val (.long v3), .second] [])) _
      refine XS.iconst X0.here hx rfl (hb hby d2_69) ?_
      show Steps p.tables e below (T0.setTop (mkF m 70 #[.val (.ref a1), .val (.ref a2), .val (.ref a3), .val (.int ok), .val (.int i), .val (.long v3), .second] [(.int (1 : Int32))])) _
      refine XS.goto X0.here hx rfl (pc0 := 70) (pc' := 74) rfl (hb hby d2_70) (by decide) (by decide) ?_
      exact k
    · rw [show v7 = (0 : Int32) from by rw [hv7, if_neg hc6]] at k
      show Steps p.tables e below (T0.setTop (mkF m 66 #[.val (.ref a1), .val (.ref a2), .val (.ref a3), .val (.int ok), .val (.int i), .val (.long v3), .second] [(.int (lcmpW (v3 &&& (v5 ^^^ (-1 : Int64))) (0 : Int64)))])) _
      refine XS.ifYes X0.here hx rfl (pc0 := 66) (pc' := 73) rfl (hb hby d2_66) rfl ((if0 _ _).trans (feq (fun q => hc6 ((lw_eq (v3 &&& (v5 ^^^ (-1 : Int64))) (0 : Int64)).mp q))).2) (by decide) (by decide) ?_
      show Steps p.tables e below (T0.setTop (mkF m 73 #[.val (.ref a1), .val (.ref a2), .val (.ref a3), .val (.int ok), .val (.int i), .val (.long v3), .second] [])) _
      refine XS.iconst X0.here hx rfl (hb hby d2_73) ?_
      exact k
  refine sg6 _ ?_
  show Steps p.tables e below (T0.setTop (mkF m 74 #[.val (.ref a1), .val (.ref a2), .val (.ref a3), .val (.int ok), .val (.int i), .val (.long v3), .second] [(.int v7)])) _
  refine XS.istoreN X0.here hx rfl (hb hby d2_74) rfl (l' := #[.val (.ref a1), .val (.ref a2), .val (.ref a3), .val (.int v7), .val (.int i), .val (.long v3), .second]) rfl ?_
  show Steps p.tables e below (T0.setTop (mkF m 75 #[.val (.ref a1), .val (.ref a2), .val (.ref a3), .val (.int v7), .val (.int i), .val (.long v3), .second] [])) _
  refine XS.iinc X0.here hx rfl (hb hby d2_75) rfl (l' := #[.val (.ref a1), .val (.ref a2), .val (.ref a3), .val (.int v7), .val (.int (i + (1 : Int32))), .val (.long v3), .second]) rfl ?_
  show Steps p.tables e below (T0.setTop (mkF m 78 #[.val (.ref a1), .val (.ref a2), .val (.ref a3), .val (.int v7), .val (.int (i + (1 : Int32))), .val (.long v3), .second] [])) _
  refine XS.goto X0.here hx rfl (pc0 := 78) (pc' := 5) rfl (hb hby d2_78) (by decide) (by decide) ?_
  exact k
set_option maxRecDepth 65536 in
set_option maxHeartbeats 40000000 in
theorem tnB {p : Program} {l : Launch} {e : Env} {R : Room} {s : State} {m : MethodId} {args : Array Value} {below : List Frame} {meth : Method} {c : Code} {T0 : State} {locs : List Loc} {cells slots : Nat} {Z : State} {a0 : Array Value} {h0 : Heap} (a1 : Addr) (a2 : Addr) (a3 : Addr) (ok : Int32) (i : Int32) (cl1 : Cell) (cl2 : Cell) (cl3 : Cell) (z1 : Int32) (z2 : Int32) (z3 : Int32) (w1 : Int64) (w2 : Int64) (w3 : Int64) (u5 : Int64) (X0 : Stand p l e R s m args below meth c T0 locs cells slots) (hx : p.tables.exec = Jvm.exec) (hZ : Z.Warmed39 s.vm) (hw : ∀ d ∈ tables_1, d.before a0 Z = true) (hby : c.code = prog_84_method_10_code) (hml : c.maxLocals = 7) (hown : s.vm.findClass "com/example/prune/prune/mdp/Words" = some m.cls) (e0 : T0.heap = h0) (Ar1 : Arr Z h0 a1 cl1 .long) (S1 : cl1.slots.size = z1.toNatClampNeg) (M1 : ¬ z1 < 0) (Ar2 : Arr Z h0 a2 cl2 .long) (S2 : cl2.slots.size = z2.toNatClampNeg) (M2 : ¬ z2 < 0) (Ar3 : Arr Z h0 a3 cl3 .long) (S3 : cl3.slots.size = z3.toNatClampNeg) (M3 : ¬ z3 < 0) (hin1 : ¬ (i < 0 ∨ cl1.slots.size ≤ i.toNatClampNeg)) (hat1 : cl1.slots[i.toNatClampNeg]? = some (.long w1)) (hin2 : i < z2 → ¬ (i < 0 ∨ cl2.slots.size ≤ i.toNatClampNeg)) (hat2 : i < z2 → cl2.slots[i.toNatClampNeg]? = some (.long w2)) (hin3 : i < z3 → ¬ (i < 0 ∨ cl3.slots.size ≤ i.toNatClampNeg)) (hat3 : i < z3 → cl3.slots[i.toNatClampNeg]? = some (.long w3)) (hc1 : i < z1) (hc2 : ¬ (ok = (0 : Int32))) :
    ∀ t, Steps p.tables e below (T0.setTop (mkF m 5 #[.val (.ref a1), .val (.ref a2), .val (.ref a3), .val (.int (if ((w1 &&& ((if (i < z2) then w2 else (0 : Int64)) ^^^ (-1 : Int64))) &&& ((if (i < z3) then w3 else (0 : Int64)) ^^^ (-1 : Int64))) = (0 : Int64) then (1 : Int32) else (0 : Int32))), .val (.int (i + (1 : Int32))), .val (.long (w1 &&& ((if (i < z2) then w2 else (0 : Int64)) ^^^ (-1 : Int64)))), .second] [])) t → Steps p.tables e below (T0.setTop (mkF m 5 #[.val (.ref a1), .val (.ref a2), .val (.ref a3), .val (.int ok), .val (.int i), .val (.long u5), .second] [])) t := by
  obtain ⟨v2, hv2⟩ : ∃ z : Int64, z = if (i < z2) then w2 else (0 : Int64) := ⟨_, rfl⟩
  obtain ⟨v3, hv3⟩ : ∃ z : Int64, z = (w1 &&& (v2 ^^^ (-1 : Int64))) := ⟨_, rfl⟩
  obtain ⟨v5, hv5⟩ : ∃ z : Int64, z = if (i < z3) then w3 else (0 : Int64) := ⟨_, rfl⟩
  obtain ⟨v7, hv7⟩ : ∃ z : Int32, z = if ((v3 &&& (v5 ^^^ (-1 : Int64))) = (0 : Int64)) then (1 : Int32) else (0 : Int32) := ⟨_, rfl⟩
  intro t k
  have h5 : v3 = (w1 &&& ((if (i < z2) then w2 else (0 : Int64)) ^^^ (-1 : Int64))) := by rw [hv3, hv2]
  have hE : v7 = (if ((w1 &&& ((if (i < z2) then w2 else (0 : Int64)) ^^^ (-1 : Int64))) &&& ((if (i < z3) then w3 else (0 : Int64)) ^^^ (-1 : Int64))) = (0 : Int64) then (1 : Int32) else (0 : Int32)) := by rw [hv7, hv5, ← h5]
  rw [← hE, ← h5] at k
  show Steps p.tables e below (T0.setTop (mkF m 5 #[.val (.ref a1), .val (.ref a2), .val (.ref a3), .val (.int ok), .val (.int i), .val (.long u5), .second] [])) _
  refine XS.iload X0.here hx rfl (hb hby d2_5) rfl ?_
  show Steps p.tables e below (T0.setTop (mkF m 7 #[.val (.ref a1), .val (.ref a2), .val (.ref a3), .val (.int ok), .val (.int i), .val (.long u5), .second] [(.int i)])) _
  refine XS.aloadN X0.here hx rfl (hb hby d2_7) rfl rfl ?_
  show Steps p.tables e below (T0.setTop (mkF m 8 #[.val (.ref a1), .val (.ref a2), .val (.ref a3), .val (.int ok), .val (.int i), .val (.long u5), .second] [(.ref a1), (.int i)])) _
  refine X0.arraylength hx (by first | exact Ar1.1 | (rw [e0]; exact Ar1.1)) (State.isArrayOf_alike hZ.alike Ar1.2.1) (g := (mkF m 8 #[.val (.ref a1), .val (.ref a2), .val (.ref a3), .val (.int ok), .val (.int i), .val (.long u5), .second] [(.ref a1), (.int i)])) rfl rfl (hb hby d2_8) _ ?_
  rw [len_of S1 M1]
  show Steps p.tables e below (T0.setTop (mkF m 9 #[.val (.ref a1), .val (.ref a2), .val (.ref a3), .val (.int ok), .val (.int i), .val (.long u5), .second] [(.int z1), (.int i)])) _
  refine XS.icmpNo X0.here hx rfl (hb hby d2_9) rfl (tlt hc1).2.1 ?_
  show Steps p.tables e below (T0.setTop (mkF m 12 #[.val (.ref a1), .val (.ref a2), .val (.ref a3), .val (.int ok), .val (.int i), .val (.long u5), .second] [])) _
  refine XS.iloadN X0.here hx rfl (hb hby d2_12) rfl ?_
  show Steps p.tables e below (T0.setTop (mkF m 13 #[.val (.ref a1), .val (.ref a2), .val (.ref a3), .val (.int ok), .val (.int i), .val (.long u5), .second] [(.int ok)])) _
  refine XS.ifNo X0.here hx rfl (hb hby d2_13) rfl ((if0 _ _).trans (feq hc2).1) ?_
  show Steps p.tables e below (T0.setTop (mkF m 16 #[.val (.ref a1), .val (.ref a2), .val (.ref a3), .val (.int ok), .val (.int i), .val (.long u5), .second] [])) _
  refine XS.aloadN X0.here hx rfl (hb hby d2_16) rfl rfl ?_
  show Steps p.tables e below (T0.setTop (mkF m 17 #[.val (.ref a1), .val (.ref a2), .val (.ref a3), .val (.int ok), .val (.int i), .val (.long u5), .second] [(.ref a1)])) _
  refine XS.iload X0.here hx rfl (hb hby d2_17) rfl ?_
  show Steps p.tables e below (T0.setTop (mkF m 19 #[.val (.ref a1), .val (.ref a2), .val (.ref a3), .val (.int ok), .val (.int i), .val (.long u5), .second] [(.int i), (.ref a1)])) _
  refine X0.laload hx (j := i) (v := (.long w1)) (by first | exact Ar1.1 | (rw [e0]; exact Ar1.1)) (State.isArrayOf_alike hZ.alike Ar1.2.1) Ar1.2.2 hin1 hat1 (g := (mkF m 19 #[.val (.ref a1), .val (.ref a2), .val (.ref a3), .val (.int ok), .val (.int i), .val (.long u5), .second] [(.int i), (.ref a1)])) rfl rfl (hb hby d2_19) _ ?_
  show Steps p.tables e below (T0.setTop (mkF m 20 #[.val (.ref a1), .val (.ref a2), .val (.ref a3), .val (.int ok), .val (.int i), .val (.long u5), .second] [(.long w1)])) _
  refine XS.iload X0.here hx rfl (hb hby d2_20) rfl ?_
  show Steps p.tables e below (T0.setTop (mkF m 22 #[.val (.ref a1), .val (.ref a2), .val (.ref a3), .val (.int ok), .val (.int i), .val (.long u5), .second] [(.int i), (.long w1)])) _
  refine XS.aloadN X0.here hx rfl (hb hby d2_22) rfl rfl ?_
  show Steps p.tables e below (T0.setTop (mkF m 23 #[.val (.ref a1), .val (.ref a2), .val (.ref a3), .val (.int ok), .val (.int i), .val (.long u5), .second] [(.ref a2), (.int i), (.long w1)])) _
  refine X0.arraylength hx (by first | exact Ar2.1 | (rw [e0]; exact Ar2.1)) (State.isArrayOf_alike hZ.alike Ar2.2.1) (g := (mkF m 23 #[.val (.ref a1), .val (.ref a2), .val (.ref a3), .val (.int ok), .val (.int i), .val (.long u5), .second] [(.ref a2), (.int i), (.long w1)])) rfl rfl (hb hby d2_23) _ ?_
  rw [len_of S2 M2]
  have sg1 : ∀ t, Steps p.tables e below (T0.setTop (mkF m 35 #[.val (.ref a1), .val (.ref a2), .val (.ref a3), .val (.int ok), .val (.int i), .val (.long u5), .second] [(.long v2), (.long w1)])) t → Steps p.tables e below (T0.setTop (mkF m 24 #[.val (.ref a1), .val (.ref a2), .val (.ref a3), .val (.int ok), .val (.int i), .val (.long u5), .second] [(.int z2), (.int i), (.long w1)])) t := by
    intro t k
    by_cases hc1 : (i < z2)
    · rw [show v2 = w2 from by rw [hv2, if_pos hc1]] at k
      show Steps p.tables e below (T0.setTop (mkF m 24 #[.val (.ref a1), .val (.ref a2), .val (.ref a3), .val (.int ok), .val (.int i), .val (.long u5), .second] [(.int z2), (.int i), (.long w1)])) _
      refine XS.icmpNo X0.here hx rfl (hb hby d2_24) rfl (tlt hc1).2.1 ?_
      show Steps p.tables e below (T0.setTop (mkF m 27 #[.val (.ref a1), .val (.ref a2), .val (.ref a3), .val (.int ok), .val (.int i), .val (.long u5), .second] [(.long w1)])) _
      refine XS.aloadN X0.here hx rfl (hb hby d2_27) rfl rfl ?_
      show Steps p.tables e below (T0.setTop (mkF m 28 #[.val (.ref a1), .val (.ref a2), .val (.ref a3), .val (.int ok), .val (.int i), .val (.long u5), .second] [(.ref a2), (.long w1)])) _
      refine XS.iload X0.here hx rfl (hb hby d2_28) rfl ?_
      show Steps p.tables e below (T0.setTop (mkF m 30 #[.val (.ref a1), .val (.ref a2), .val (.ref a3), .val (.int ok), .val (.int i), .val (.long u5), .second] [(.int i), (.ref a2), (.long w1)])) _
      refine X0.laload hx (j := i) (v := (.long w2)) (by first | exact Ar2.1 | (rw [e0]; exact Ar2.1)) (State.isArrayOf_alike hZ.alike Ar2.2.1) Ar2.2.2 (hin2 hc1) (hat2 hc1) (g := (mkF m 30 #[.val (.ref a1), .val (.ref a2), .val (.ref a3), .val (.int ok), .val (.int i), .val (.long u5), .second] [(.int i), (.ref a2), (.long w1)])) rfl rfl (hb hby d2_30) _ ?_
      show Steps p.tables e below (T0.setTop (mkF m 31 #[.val (.ref a1), .val (.ref a2), .val (.ref a3), .val (.int ok), .val (.int i), .val (.long u5), .second] [(.long w2), (.long w1)])) _
      refine XS.goto X0.here hx rfl (pc0 := 31) (pc' := 35) rfl (hb hby d2_31) (by decide) (by decide) ?_
      exact k
    · rw [show v2 = (0 : Int64) from by rw [hv2, if_neg hc1]] at k
      show Steps p.tables e below (T0.setTop (mkF m 24 #[.val (.ref a1), .val (.ref a2), .val (.ref a3), .val (.int ok), .val (.int i), .val (.long u5), .second] [(.int z2), (.int i), (.long w1)])) _
      refine XS.icmpYes X0.here hx rfl (pc0 := 24) (pc' := 34) rfl (hb hby d2_24) rfl (flt hc1).2.1 (by decide) (by decide) ?_
      show Steps p.tables e below (T0.setTop (mkF m 34 #[.val (.ref a1), .val (.ref a2), .val (.ref a3), .val (.int ok), .val (.int i), .val (.long u5), .second] [(.long w1)])) _
      refine XS.lconst X0.here hx rfl (hb hby d2_34) ?_
      exact k
  refine sg1 _ ?_
  show Steps p.tables e below (T0.setTop (mkF m 35 #[.val (.ref a1), .val (.ref a2), .val (.ref a3), .val (.int ok), .val (.int i), .val (.long u5), .second] [(.long v2), (.long w1)])) _
  refine X0.ldc2Long hx hown (mvT hZ (hw _ (List.mem_of_getElem? (i := 11) rfl))) (g := (mkF m 35 #[.val (.ref a1), .val (.ref a2), .val (.ref a3), .val (.int ok), .val (.int i), .val (.long u5), .second] [(.long v2), (.long w1)])) rfl (hb hby d2_35) _ ?_
  show Steps p.tables e below (T0.setTop (mkF m 38 #[.val (.ref a1), .val (.ref a2), .val (.ref a3), .val (.int ok), .val (.int i), .val (.long u5), .second] [(.long (-1 : Int64)), (.long v2), (.long w1)])) _
  refine XS.lxor X0.here hx rfl (hb hby d2_38) rfl ?_
  show Steps p.tables e below (T0.setTop (mkF m 39 #[.val (.ref a1), .val (.ref a2), .val (.ref a3), .val (.int ok), .val (.int i), .val (.long u5), .second] [(.long (v2 ^^^ (-1 : Int64))), (.long w1)])) _
  refine XS.land X0.here hx rfl (hb hby d2_39) rfl ?_
  show Steps p.tables e below (T0.setTop (mkF m 40 #[.val (.ref a1), .val (.ref a2), .val (.ref a3), .val (.int ok), .val (.int i), .val (.long u5), .second] [(.long (w1 &&& (v2 ^^^ (-1 : Int64))))])) _
  refine XS.lstore X0.here hx rfl (hb hby d2_40) rfl (l' := #[.val (.ref a1), .val (.ref a2), .val (.ref a3), .val (.int ok), .val (.int i), .val (.long (w1 &&& (v2 ^^^ (-1 : Int64)))), .second]) rfl ?_
  refine castTop (g' := (mkF m 42 #[.val (.ref a1), .val (.ref a2), .val (.ref a3), .val (.int ok), .val (.int i), .val (.long v3), .second] [])) (by rw [hv3]) ?_
  show Steps p.tables e below (T0.setTop (mkF m 42 #[.val (.ref a1), .val (.ref a2), .val (.ref a3), .val (.int ok), .val (.int i), .val (.long v3), .second] [])) _
  refine XS.lload X0.here hx rfl (hb hby d2_42) rfl ?_
  show Steps p.tables e below (T0.setTop (mkF m 44 #[.val (.ref a1), .val (.ref a2), .val (.ref a3), .val (.int ok), .val (.int i), .val (.long v3), .second] [(.long v3)])) _
  refine XS.iload X0.here hx rfl (hb hby d2_44) rfl ?_
  show Steps p.tables e below (T0.setTop (mkF m 46 #[.val (.ref a1), .val (.ref a2), .val (.ref a3), .val (.int ok), .val (.int i), .val (.long v3), .second] [(.int i), (.long v3)])) _
  refine XS.aloadN X0.here hx rfl (hb hby d2_46) rfl rfl ?_
  show Steps p.tables e below (T0.setTop (mkF m 47 #[.val (.ref a1), .val (.ref a2), .val (.ref a3), .val (.int ok), .val (.int i), .val (.long v3), .second] [(.ref a3), (.int i), (.long v3)])) _
  refine X0.arraylength hx (by first | exact Ar3.1 | (rw [e0]; exact Ar3.1)) (State.isArrayOf_alike hZ.alike Ar3.2.1) (g := (mkF m 47 #[.val (.ref a1), .val (.ref a2), .val (.ref a3), .val (.int ok), .val (.int i), .val (.long v3), .second] [(.ref a3), (.int i), (.long v3)])) rfl rfl (hb hby d2_47) _ ?_
  rw [len_of S3 M3]
  have sg4 : ∀ t, Steps p.tables e below (T0.setTop (mkF m 59 #[.val (.ref a1), .val (.ref a2), .val (.ref a3), .val (.int ok), .val (.int i), .val (.long v3), .second] [(.long v5), (.long v3)])) t → Steps p.tables e below (T0.setTop (mkF m 48 #[.val (.ref a1), .val (.ref a2), .val (.ref a3), .val (.int ok), .val (.int i), .val (.long v3), .second] [(.int z3), (.int i), (.long v3)])) t := by
    intro t k
    by_cases hc4 : (i < z3)
    · rw [show v5 = w3 from by rw [hv5, if_pos hc4]] at k
      show Steps p.tables e below (T0.setTop (mkF m 48 #[.val (.ref a1), .val (.ref a2), .val (.ref a3), .val (.int ok), .val (.int i), .val (.long v3), .second] [(.int z3), (.int i), (.long v3)])) _
      refine XS.icmpNo X0.here hx rfl (hb hby d2_48) rfl (tlt hc4).2.1 ?_
      show Steps p.tables e below (T0.setTop (mkF m 51 #[.val (.ref a1), .val (.ref a2), .val (.ref a3), .val (.int ok), .val (.int i), .val (.long v3), .second] [(.long v3)])) _
      refine XS.aloadN X0.here hx rfl (hb hby d2_51) rfl rfl ?_
      show Steps p.tables e below (T0.setTop (mkF m 52 #[.val (.ref a1), .val (.ref a2), .val (.ref a3), .val (.int ok), .val (.int i), .val (.long v3), .second] [(.ref a3), (.long v3)])) _
      refine XS.iload X0.here hx rfl (hb hby d2_52) rfl ?_
      show Steps p.tables e below (T0.setTop (mkF m 54 #[.val (.ref a1), .val (.ref a2), .val (.ref a3), .val (.int ok), .val (.int i), .val (.long v3), .second] [(.int i), (.ref a3), (.long v3)])) _
      refine X0.laload hx (j := i) (v := (.long w3)) (by first | exact Ar3.1 | (rw [e0]; exact Ar3.1)) (State.isArrayOf_alike hZ.alike Ar3.2.1) Ar3.2.2 (hin3 hc4) (hat3 hc4) (g := (mkF m 54 #[.val (.ref a1), .val (.ref a2), .val (.ref a3), .val (.int ok), .val (.int i), .val (.long v3), .second] [(.int i), (.ref a3), (.long v3)])) rfl rfl (hb hby d2_54) _ ?_
      show Steps p.tables e below (T0.setTop (mkF m 55 #[.val (.ref a1), .val (.ref a2), .val (.ref a3), .val (.int ok), .val (.int i), .val (.long v3), .second] [(.long w3), (.long v3)])) _
      refine XS.goto X0.here hx rfl (pc0 := 55) (pc' := 59) rfl (hb hby d2_55) (by decide) (by decide) ?_
      exact k
    · rw [show v5 = (0 : Int64) from by rw [hv5, if_neg hc4]] at k
      show Steps p.tables e below (T0.setTop (mkF m 48 #[.val (.ref a1), .val (.ref a2), .val (.ref a3), .val (.int ok), .val (.int i), .val (.long v3), .second] [(.int z3), (.int i), (.long v3)])) _
      refine XS.icmpYes X0.here hx rfl (pc0 := 48) (pc' := 58) rfl (hb hby d2_48) rfl (flt hc4).2.1 (by decide) (by decide) ?_
      show Steps p.tables e below (T0.setTop (mkF m 58 #[.val (.ref a1), .val (.ref a2), .val (.ref a3), .val (.int ok), .val (.int i), .val (.long v3), .second] [(.long v3)])) _
      refine XS.lconst X0.here hx rfl (hb hby d2_58) ?_
      exact k
  refine sg4 _ ?_
  show Steps p.tables e below (T0.setTop (mkF m 59 #[.val (.ref a1), .val (.ref a2), .val (.ref a3), .val (.int ok), .val (.int i), .val (.long v3), .second] [(.long v5), (.long v3)])) _
  refine X0.ldc2Long hx hown (mvT hZ (hw _ (List.mem_of_getElem? (i := 11) rfl))) (g := (mkF m 59 #[.val (.ref a1), .val (.ref a2), .val (.ref a3), .val (.int ok), .val (.int i), .val (.long v3), .second] [(.long v5), (.long v3)])) rfl (hb hby d2_59) _ ?_
  show Steps p.tables e below (T0.setTop (mkF m 62 #[.val (.ref a1), .val (.ref a2), .val (.ref a3), .val (.int ok), .val (.int i), .val (.long v3), .second] [(.long (-1 : Int64)), (.long v5), (.long v3)])) _
  refine XS.lxor X0.here hx rfl (hb hby d2_62) rfl ?_
  show Steps p.tables e below (T0.setTop (mkF m 63 #[.val (.ref a1), .val (.ref a2), .val (.ref a3), .val (.int ok), .val (.int i), .val (.long v3), .second] [(.long (v5 ^^^ (-1 : Int64))), (.long v3)])) _
  refine XS.land X0.here hx rfl (hb hby d2_63) rfl ?_
  show Steps p.tables e below (T0.setTop (mkF m 64 #[.val (.ref a1), .val (.ref a2), .val (.ref a3), .val (.int ok), .val (.int i), .val (.long v3), .second] [(.long (v3 &&& (v5 ^^^ (-1 : Int64))))])) _
  refine XS.lconst X0.here hx rfl (hb hby d2_64) ?_
  show Steps p.tables e below (T0.setTop (mkF m 65 #[.val (.ref a1), .val (.ref a2), .val (.ref a3), .val (.int ok), .val (.int i), .val (.long v3), .second] [(.long (0 : Int64)), (.long (v3 &&& (v5 ^^^ (-1 : Int64))))])) _
  refine XS.lcmp X0.here hx rfl (hb hby d2_65) rfl ?_
  have sg6 : ∀ t, Steps p.tables e below (T0.setTop (mkF m 74 #[.val (.ref a1), .val (.ref a2), .val (.ref a3), .val (.int ok), .val (.int i), .val (.long v3), .second] [(.int v7)])) t → Steps p.tables e below (T0.setTop (mkF m 66 #[.val (.ref a1), .val (.ref a2), .val (.ref a3), .val (.int ok), .val (.int i), .val (.long v3), .second] [(.int (lcmpW (v3 &&& (v5 ^^^ (-1 : Int64))) (0 : Int64)))])) t := by
    intro t k
    by_cases hc6 : ((v3 &&& (v5 ^^^ (-1 : Int64))) = (0 : Int64))
    · rw [show v7 = (1 : Int32) from by rw [hv7, if_pos hc6]] at k
      show Steps p.tables e below (T0.setTop (mkF m 66 #[.val (.ref a1), .val (.ref a2), .val (.ref a3), .val (.int ok), .val (.int i), .val (.long v3), .second] [(.int (lcmpW (v3 &&& (v5 ^^^ (-1 : Int64))) (0 : Int64)))])) _
      refine XS.ifNo X0.here hx rfl (hb hby d2_66) rfl ((if0 _ _).trans (teq ((lw_eq (v3 &&& (v5 ^^^ (-1 : Int64))) (0 : Int64)).mpr hc6)).2) ?_
      show Steps p.tables e below (T0.setTop (mkF m 69 #[.val (.ref a1), .val (.ref a2), .val (.ref a3), .val (.int ok), .val (.int i), .val (.long v3), .second] [])) _
      refine XS.iconst X0.here hx rfl (hb hby d2_69) ?_
      show Steps p.tables e below (T0.setTop (mkF m 70 #[.val (.ref a1), .val (.ref a2), .val (.ref a3), .val (.int ok), .val (.int i), .val (.long v3), .second] [(.int (1 : Int32))])) _
      refine XS.goto X0.here hx rfl (pc0 := 70) (pc' := 74) rfl (hb hby d2_70) (by decide) (by decide) ?_
      exact k
    · rw [show v7 = (0 : Int32) from by rw [hv7, if_neg hc6]] at k
      show Steps p.tables e below (T0.setTop (mkF m 66 #[.val (.ref a1), .val (.ref a2), .val (.ref a3), .val (.int ok), .val (.int i), .val (.long v3), .second] [(.int (lcmpW (v3 &&& (v5 ^^^ (-1 : Int64))) (0 : Int64)))])) _
      refine XS.ifYes X0.here hx rfl (pc0 := 66) (pc' := 73) rfl (hb hby d2_66) rfl ((if0 _ _).trans (feq (fun q => hc6 ((lw_eq (v3 &&& (v5 ^^^ (-1 : Int64))) (0 : Int64)).mp q))).2) (by decide) (by decide) ?_
      show Steps p.tables e below (T0.setTop (mkF m 73 #[.val (.ref a1), .val (.ref a2), .val (.ref a3), .val (.int ok), .val (.int i), .val (.long v3), .second] [])) _
      refine XS.iconst X0.here hx rfl (hb hby d2_73) ?_
      exact k
  refine sg6 _ ?_
  show Steps p.tables e below (T0.setTop (mkF m 74 #[.val (.ref a1), .val (.ref a2), .val (.ref a3), .val (.int ok), .val (.int i), .val (.long v3), .second] [(.int v7)])) _
  refine XS.istoreN X0.here hx rfl (hb hby d2_74) rfl (l' := #[.val (.ref a1), .val (.ref a2), .val (.ref a3), .val (.int v7), .val (.int i), .val (.long v3), .second]) rfl ?_
  show Steps p.tables e below (T0.setTop (mkF m 75 #[.val (.ref a1), .val (.ref a2), .val (.ref a3), .val (.int v7), .val (.int i), .val (.long v3), .second] [])) _
  refine XS.iinc X0.here hx rfl (hb hby d2_75) rfl (l' := #[.val (.ref a1), .val (.ref a2), .val (.ref a3), .val (.int v7), .val (.int (i + (1 : Int32))), .val (.long v3), .second]) rfl ?_
  show Steps p.tables e below (T0.setTop (mkF m 78 #[.val (.ref a1), .val (.ref a2), .val (.ref a3), .val (.int v7), .val (.int (i + (1 : Int32))), .val (.long v3), .second] [])) _
  refine XS.goto X0.here hx rfl (pc0 := 78) (pc' := 5) rfl (hb hby d2_78) (by decide) (by decide) ?_
  exact k
set_option maxRecDepth 65536 in
set_option maxHeartbeats 40000000 in
theorem lv1 {p : Program} {l : Launch} {e : Env} {R : Room} {s : State} {m : MethodId} {args : Array Value} {below : List Frame} {meth : Method} {c : Code} {T0 : State} {locs : List Loc} {cells slots : Nat} {Z : State} {a0 : Array Value} {h0 : Heap} (a1 : Addr) (a2 : Addr) (a3 : Addr) (ok : Int32) (i : Int32) (cl1 : Cell) (cl2 : Cell) (cl3 : Cell) (z1 : Int32) (z2 : Int32) (z3 : Int32) (s5 : Slot) (s6 : Slot) (X0 : Stand p l e R s m args below meth c T0 locs cells slots) (hx : p.tables.exec = Jvm.exec) (hZ : Z.Warmed39 s.vm) (hw : ∀ d ∈ tables_1, d.before a0 Z = true) (hby : c.code = prog_84_method_10_code) (hml : c.maxLocals = 7) (hown : s.vm.findClass "com/example/prune/prune/mdp/Words" = some m.cls) (e0 : T0.heap = h0) (Ar1 : Arr Z h0 a1 cl1 .long) (S1 : cl1.slots.size = z1.toNatClampNeg) (M1 : ¬ z1 < 0) (Ar2 : Arr Z h0 a2 cl2 .long) (S2 : cl2.slots.size = z2.toNatClampNeg) (M2 : ¬ z2 < 0) (Ar3 : Arr Z h0 a3 cl3 .long) (S3 : cl3.slots.size = z3.toNatClampNeg) (M3 : ¬ z3 < 0) (hc1 : ¬ (i < z1)) :
    ∀ t, Steps p.tables e below (T0.setTop (mkF m 81 #[.val (.ref a1), .val (.ref a2), .val (.ref a3), .val (.int ok), .val (.int i), s5, s6] [])) t → Steps p.tables e below (T0.setTop (mkF m 5 #[.val (.ref a1), .val (.ref a2), .val (.ref a3), .val (.int ok), .val (.int i), s5, s6] [])) t := by
  intro t k
  show Steps p.tables e below (T0.setTop (mkF m 5 #[.val (.ref a1), .val (.ref a2), .val (.ref a3), .val (.int ok), .val (.int i), s5, s6] [])) _
  refine XS.iload X0.here hx rfl (hb hby d2_5) rfl ?_
  show Steps p.tables e below (T0.setTop (mkF m 7 #[.val (.ref a1), .val (.ref a2), .val (.ref a3), .val (.int ok), .val (.int i), s5, s6] [(.int i)])) _
  refine XS.aloadN X0.here hx rfl (hb hby d2_7) rfl rfl ?_
  show Steps p.tables e below (T0.setTop (mkF m 8 #[.val (.ref a1), .val (.ref a2), .val (.ref a3), .val (.int ok), .val (.int i), s5, s6] [(.ref a1), (.int i)])) _
  refine X0.arraylength hx (by first | exact Ar1.1 | (rw [e0]; exact Ar1.1)) (State.isArrayOf_alike hZ.alike Ar1.2.1) (g := (mkF m 8 #[.val (.ref a1), .val (.ref a2), .val (.ref a3), .val (.int ok), .val (.int i), s5, s6] [(.ref a1), (.int i)])) rfl rfl (hb hby d2_8) _ ?_
  rw [len_of S1 M1]
  show Steps p.tables e below (T0.setTop (mkF m 9 #[.val (.ref a1), .val (.ref a2), .val (.ref a3), .val (.int ok), .val (.int i), s5, s6] [(.int z1), (.int i)])) _
  refine XS.icmpYes X0.here hx rfl (pc0 := 9) (pc' := 81) rfl (hb hby d2_9) rfl (flt hc1).2.1 (by decide) (by decide) ?_
  exact k
set_option maxRecDepth 65536 in
set_option maxHeartbeats 40000000 in
theorem lv2 {p : Program} {l : Launch} {e : Env} {R : Room} {s : State} {m : MethodId} {args : Array Value} {below : List Frame} {meth : Method} {c : Code} {T0 : State} {locs : List Loc} {cells slots : Nat} {Z : State} {a0 : Array Value} {h0 : Heap} (a1 : Addr) (a2 : Addr) (a3 : Addr) (ok : Int32) (i : Int32) (cl1 : Cell) (cl2 : Cell) (cl3 : Cell) (z1 : Int32) (z2 : Int32) (z3 : Int32) (s5 : Slot) (s6 : Slot) (X0 : Stand p l e R s m args below meth c T0 locs cells slots) (hx : p.tables.exec = Jvm.exec) (hZ : Z.Warmed39 s.vm) (hw : ∀ d ∈ tables_1, d.before a0 Z = true) (hby : c.code = prog_84_method_10_code) (hml : c.maxLocals = 7) (hown : s.vm.findClass "com/example/prune/prune/mdp/Words" = some m.cls) (e0 : T0.heap = h0) (Ar1 : Arr Z h0 a1 cl1 .long) (S1 : cl1.slots.size = z1.toNatClampNeg) (M1 : ¬ z1 < 0) (Ar2 : Arr Z h0 a2 cl2 .long) (S2 : cl2.slots.size = z2.toNatClampNeg) (M2 : ¬ z2 < 0) (Ar3 : Arr Z h0 a3 cl3 .long) (S3 : cl3.slots.size = z3.toNatClampNeg) (M3 : ¬ z3 < 0) (hc1 : i < z1) (hc2 : ok = (0 : Int32)) :
    ∀ t, Steps p.tables e below (T0.setTop (mkF m 81 #[.val (.ref a1), .val (.ref a2), .val (.ref a3), .val (.int ok), .val (.int i), s5, s6] [])) t → Steps p.tables e below (T0.setTop (mkF m 5 #[.val (.ref a1), .val (.ref a2), .val (.ref a3), .val (.int ok), .val (.int i), s5, s6] [])) t := by
  intro t k
  show Steps p.tables e below (T0.setTop (mkF m 5 #[.val (.ref a1), .val (.ref a2), .val (.ref a3), .val (.int ok), .val (.int i), s5, s6] [])) _
  refine XS.iload X0.here hx rfl (hb hby d2_5) rfl ?_
  show Steps p.tables e below (T0.setTop (mkF m 7 #[.val (.ref a1), .val (.ref a2), .val (.ref a3), .val (.int ok), .val (.int i), s5, s6] [(.int i)])) _
  refine XS.aloadN X0.here hx rfl (hb hby d2_7) rfl rfl ?_
  show Steps p.tables e below (T0.setTop (mkF m 8 #[.val (.ref a1), .val (.ref a2), .val (.ref a3), .val (.int ok), .val (.int i), s5, s6] [(.ref a1), (.int i)])) _
  refine X0.arraylength hx (by first | exact Ar1.1 | (rw [e0]; exact Ar1.1)) (State.isArrayOf_alike hZ.alike Ar1.2.1) (g := (mkF m 8 #[.val (.ref a1), .val (.ref a2), .val (.ref a3), .val (.int ok), .val (.int i), s5, s6] [(.ref a1), (.int i)])) rfl rfl (hb hby d2_8) _ ?_
  rw [len_of S1 M1]
  show Steps p.tables e below (T0.setTop (mkF m 9 #[.val (.ref a1), .val (.ref a2), .val (.ref a3), .val (.int ok), .val (.int i), s5, s6] [(.int z1), (.int i)])) _
  refine XS.icmpNo X0.here hx rfl (hb hby d2_9) rfl (tlt hc1).2.1 ?_
  show Steps p.tables e below (T0.setTop (mkF m 12 #[.val (.ref a1), .val (.ref a2), .val (.ref a3), .val (.int ok), .val (.int i), s5, s6] [])) _
  refine XS.iloadN X0.here hx rfl (hb hby d2_12) rfl ?_
  show Steps p.tables e below (T0.setTop (mkF m 13 #[.val (.ref a1), .val (.ref a2), .val (.ref a3), .val (.int ok), .val (.int i), s5, s6] [(.int ok)])) _
  refine XS.ifYes X0.here hx rfl (pc0 := 13) (pc' := 81) rfl (hb hby d2_13) rfl ((if0 _ _).trans (teq hc2).1) (by decide) (by decide) ?_
  exact k
set_option maxRecDepth 65536 in
set_option maxHeartbeats 40000000 in
theorem loop1 {p : Program} {l : Launch} {e : Env} {R : Room} {s : State} {m : MethodId} {args : Array Value} {below : List Frame} {meth : Method} {c : Code} {T0 : State} {locs : List Loc} {cells slots : Nat} {Z : State} {a0 : Array Value} {h0 : Heap} (a1 a2 a3 : Addr) (cl1 cl2 cl3 : Cell) (xs es ss : List Int64) (hn1 : xs.length ≤ 2) (hn2 : es.length ≤ 2) (hn3 : ss.length ≤ 2) (X0 : Stand p l e R s m args below meth c T0 locs cells slots) (hx : p.tables.exec = Jvm.exec) (hZ : Z.Warmed39 s.vm) (hw : ∀ d ∈ tables_1, d.before a0 Z = true) (hby : c.code = prog_84_method_10_code) (hml : c.maxLocals = 7) (hown : s.vm.findClass "com/example/prune/prune/mdp/Words" = some m.cls) (e0 : T0.heap = h0) (Ar1 : Arr Z h0 a1 cl1 .long) (S1 : cl1.slots.size = (Int32.ofNat xs.length).toNatClampNeg) (Ar2 : Arr Z h0 a2 cl2 .long) (S2 : cl2.slots.size = (Int32.ofNat es.length).toNatClampNeg) (Ar3 : Arr Z h0 a3 cl3 .long) (S3 : cl3.slots.size = (Int32.ofNat ss.length).toNatClampNeg) (H1 : Has cl1 (xs.map Value.long) (.long 0)) (H2 : Has cl2 (es.map Value.long) (.long 0)) (H3 : Has cl3 (ss.map Value.long) (.long 0)) :
    ∀ (k i : Nat) (ok : Int32) (s5 s6 : Slot), i + k = xs.length → (s5 = .unset ∧ s6 = .unset) ∨ (∃ u, s5 = .val (.long u) ∧ s6 = .second) → ∃ (j : Int32) (r5 r6 : Slot), ∀ t, Steps p.tables e below (T0.setTop (mkF m 81 #[.val (.ref a1), .val (.ref a2), .val (.ref a3), .val (.int (own_go xs es ss k i ok)), .val (.int j), r5, r6] [])) t → Steps p.tables e below (T0.setTop (mkF m 5 #[.val (.ref a1), .val (.ref a2), .val (.ref a3), .val (.int ok), .val (.int (Int32.ofNat i)), s5, s6] [])) t := by
  intro k
  induction k with
  | zero =>
    intro i ok s5 s6 hi h56
    refine ⟨Int32.ofNat i, s5, s6, fun t h => ?_⟩
    exact lv1 a1 a2 a3 ok (Int32.ofNat i) cl1 cl2 cl3 (Int32.ofNat xs.length) (Int32.ofNat es.length) (Int32.ofNat ss.length) s5 s6 X0 hx hZ hw hby hml hown e0 Ar1 S1 (own_nn (by omega)) Ar2 S2 (own_nn (by omega)) Ar3 S3 (own_nn (by omega)) (by rw [show i = xs.length by omega]; exact Int32.lt_irrefl) t h
  | succ k ih =>
    intro i ok s5 s6 hi h56
    have hlt : Int32.ofNat i < Int32.ofNat xs.length := own_lt (by omega) (by omega)
    by_cases hok : ok = (0 : Int32)
    · refine ⟨Int32.ofNat i, s5, s6, fun t h => ?_⟩
      have hg : own_go xs es ss (k + 1) i ok = ok := by unfold own_go; rw [if_pos hok]
      rw [hg] at h
      exact lv2 a1 a2 a3 ok (Int32.ofNat i) cl1 cl2 cl3 (Int32.ofNat xs.length) (Int32.ofNat es.length) (Int32.ofNat ss.length) s5 s6 X0 hx hZ hw hby hml hown e0 Ar1 S1 (own_nn (by omega)) Ar2 S2 (own_nn (by omega)) Ar3 S3 (own_nn (by omega)) hlt hok t h
    · obtain ⟨j, r5, r6, hj⟩ := ih (i + 1) (own_bit xs es ss i) _ _ (by omega) (Or.inr ⟨(xs.getD i 0 &&& (es.getD i 0 ^^^ (-1 : Int64))), rfl, rfl⟩)
      refine ⟨j, r5, r6, fun t h => ?_⟩
      have hg : own_go xs es ss (k + 1) i ok = own_go xs es ss k (i + 1) (own_bit xs es ss i) := by rw [own_go, if_neg hok]
      rw [hg] at h
      rcases h56 with ⟨rfl, rfl⟩ | ⟨u, rfl, rfl⟩
      · refine tnA a1 a2 a3 ok (Int32.ofNat i) cl1 cl2 cl3 (Int32.ofNat xs.length) (Int32.ofNat es.length) (Int32.ofNat ss.length) (xs.getD i 0) (es.getD i 0) (ss.getD i 0) X0 hx hZ hw hby hml hown e0 Ar1 S1 (own_nn (by omega)) Ar2 S2 (own_nn (by omega)) Ar3 S3 (own_nn (by omega)) (own_in S1 hn1 (by omega)) (own_hat S1 H1 hn1 (by omega)) (fun q => own_in S2 hn2 (own_ltN (by omega) hn2 q)) (fun q => own_hat S2 H2 hn2 (own_ltN (by omega) hn2 q)) (fun q => own_in S3 hn3 (own_ltN (by omega) hn3 q)) (fun q => own_hat S3 H3 hn3 (own_ltN (by omega) hn3 q)) hlt hok t ?_
        rw [own_sel es i hn2 (by omega), own_sel ss i hn3 (by omega), own_one]
        exact hj t h
      · refine tnB a1 a2 a3 ok (Int32.ofNat i) cl1 cl2 cl3 (Int32.ofNat xs.length) (Int32.ofNat es.length) (Int32.ofNat ss.length) (xs.getD i 0) (es.getD i 0) (ss.getD i 0) u X0 hx hZ hw hby hml hown e0 Ar1 S1 (own_nn (by omega)) Ar2 S2 (own_nn (by omega)) Ar3 S3 (own_nn (by omega)) (own_in S1 hn1 (by omega)) (own_hat S1 H1 hn1 (by omega)) (fun q => own_in S2 hn2 (own_ltN (by omega) hn2 q)) (fun q => own_hat S2 H2 hn2 (own_ltN (by omega) hn2 q)) (fun q => own_in S3 hn3 (own_ltN (by omega) hn3 q)) (fun q => own_hat S3 H3 hn3 (own_ltN (by omega) hn3 q)) hlt hok t ?_
        rw [own_sel es i hn2 (by omega), own_sel ss i hn3 (by omega), own_one]
        exact hj t h
theorem pn_2 : plainName "com/example/prune/prune/mdp/Words" = true := by first | (simp [plainName, overriddenIn]; done) | decide +kernel
theorem ef_2 (m : MethodId) (x0 : Addr) (x1 : Addr) (x2 : Addr) : entryFrame m #[(.ref x0), (.ref x1), (.ref x2)] 7 = mkF m 0 #[.val (.ref x0), .val (.ref x1), .val (.ref x2), .unset, .unset, .unset, .unset] [] := by first | (simp [entryFrame, mkF, argsToLocals, Value.category]; done) | rfl
def Q2 (Z : State) (a1 : Addr) (a2 : Addr) (a3 : Addr) (xs : List Int64) (es : List Int64) (ss : List Int64) (h0 : Heap) (n0 : Nat) (v : Option Value) (h : Heap) (L : List Loc) : Prop := v = some (.int (own_cov xs es ss)) ∧ Fr n0 L ∧ h = h0
set_option maxRecDepth 65536 in
set_option maxHeartbeats 40000000 in
theorem rm2 (l : Launch) (Z : State) (a0 : Array Value) (hw : ∀ d ∈ tables_1, d.before a0 Z = true) (ws : List Jvm.Cond) (a1 : Addr) (a2 : Addr) (a3 : Addr) (xs : List Int64) (es : List Int64) (ss : List Int64) (h0 : Heap) (n0 : Nat) (Z0 : n0 ≤ h0.size) (hn1 : xs.length ≤ 2) (hn2 : es.length ≤ 2) (hn3 : ss.length ≤ 2) (V1 : own_A Z h0 a1 xs) (V2 : own_A Z h0 a2 es) (V3 : own_A Z h0 a3 ss) :
    MetFree l (⟨"com/example/prune/prune/mdp/Words", "isCovered", "([J[J[J)Z"⟩ : MethodName) (head1 (Jvm.Cond.code (⟨"com/example/prune/prune/mdp/Words", "isCovered", "([J[J[J)Z"⟩ : MethodName) prog_84_method_10_code 7 (some .boolean) :: ws) ({ frames := 0, cells := 0, slots := 0, locals := 0 } : Room)) (fun a U => a = #[(.ref a1), (.ref a2), (.ref a3)] ∧ Z.Warmed39 U.vm ∧ U.heap = h0) (fun _ _ _ _ _ => True) (fun _ U o U' => ∃ v L, o = .returned v ∧ Q2 Z a1 a2 a3 xs es ss h0 n0 v U'.heap L ∧ FrameEnd U o U' L ({ frames := 0, cells := 0, slots := 0, locals := 0 } : Room).cells ({ frames := 0, cells := 0, slots := 0, locals := 0 } : Room).slots) := by
  refine MetFree.of_bodySF (plainFor_of_name pn_2) hisR ?_
  intro p e s m args below meth c s₁ Bd hml0 hP hK
  obtain ⟨rfl, hZ, hh⟩ := hP
  have hx := Bd.exec
  have hby := Bd.bytes
  have hml : c.maxLocals = 7 := hml0
  have hown : s.vm.findClass "com/example/prune/prune/mdp/Words" = some m.cls := findClass_of_methodNamed Bd.named
  have hnm := (name_of_methodNamed Bd.named Bd.method).1
  have X0 : Stand p l e ({ frames := 0, cells := 0, slots := 0, locals := 0 } : Room) s m #[(.ref a1), (.ref a2), (.ref a3)] below meth c s₁ [] 0 0 := Stand.of_body Bd
  have e0 : s₁.heap = h0 := by rw [← hh, Bd.state]; rfl
  have N0 := Fr.nil n0
  have pre0 : ∀ t, Steps p.tables e below (s₁.setTop (mkF m 0 #[.val (.ref a1), .val (.ref a2), .val (.ref a3), .unset, .unset, .unset, .unset] [])) t → Steps p.tables e below (s₁.setTop (entryFrame m #[(.ref a1), (.ref a2), (.ref a3)] 7)) t := fun t k => castTop (ef_2 m a1 a2 a3) k
  obtain ⟨k1, cl1, Ar1, -, S1, M1, H1, -⟩ := V1
  obtain ⟨k2, cl2, Ar2, -, S2, M2, H2, -⟩ := V2
  obtain ⟨k3, cl3, Ar3, -, S3, M3, H3, -⟩ := V3
  obtain ⟨j, r5, r6, st1⟩ := loop1 a1 a2 a3 cl1 cl2 cl3 xs es ss hn1 hn2 hn3 X0 hx hZ hw hby hml hown e0 Ar1 S1 Ar2 S2 Ar3 S3 H1 H2 H3 xs.length 0 1 .unset .unset (by omega) (Or.inl ⟨rfl, rfl⟩)
  obtain ⟨fs, hr, hrun, hended, hW, hsame⟩ := X0.leave (v := some (.int (nar .boolean (own_go xs es ss xs.length 0 1)))) (fun h => by rw [Bd.returns] at h; cases h)
  refine ⟨_, _, pre0 _ ?_, hrun, hended, _, _, rfl, ?_, ⟨_, rfl⟩, hW, hsame.mono (by decide) (by decide)⟩
  · show Steps p.tables e below (s₁.setTop (mkF m 0 #[.val (.ref a1), .val (.ref a2), .val (.ref a3), .unset, .unset, .unset, .unset] [])) _
    refine XS.iconst X0.here hx rfl (hb hby d2_0) ?_
    show Steps p.tables e below (s₁.setTop (mkF m 1 #[.val (.ref a1), .val (.ref a2), .val (.ref a3), .unset, .unset, .unset, .unset] [(.int (1 : Int32))])) _
    refine XS.istoreN X0.here hx rfl (hb hby d2_1) rfl (l' := #[.val (.ref a1), .val (.ref a2), .val (.ref a3), .val (.int (1 : Int32)), .unset, .unset, .unset]) rfl ?_
    show Steps p.tables e below (s₁.setTop (mkF m 2 #[.val (.ref a1), .val (.ref a2), .val (.ref a3), .val (.int (1 : Int32)), .unset, .unset, .unset] [])) _
    refine XS.iconst X0.here hx rfl (hb hby d2_2) ?_
    show Steps p.tables e below (s₁.setTop (mkF m 3 #[.val (.ref a1), .val (.ref a2), .val (.ref a3), .val (.int (1 : Int32)), .unset, .unset, .unset] [(.int (0 : Int32))])) _
    refine XS.istore X0.here hx rfl (hb hby d2_3) rfl (l' := #[.val (.ref a1), .val (.ref a2), .val (.ref a3), .val (.int (1 : Int32)), .val (.int (0 : Int32)), .unset, .unset]) rfl ?_
    show Steps p.tables e below (s₁.setTop (mkF m 5 #[.val (.ref a1), .val (.ref a2), .val (.ref a3), .val (.int (1 : Int32)), .val (.int (0 : Int32)), .unset, .unset] [])) _
    refine st1 _ ?_
    show Steps p.tables e below (s₁.setTop (mkF m 81 #[.val (.ref a1), .val (.ref a2), .val (.ref a3), .val (.int (own_go xs es ss xs.length 0 1)), .val (.int j), r5, r6] [])) _
    refine XS.iloadN X0.here hx rfl (hb hby d2_81) rfl ?_
    show Steps p.tables e below (s₁.setTop (mkF m 82 #[.val (.ref a1), .val (.ref a2), .val (.ref a3), .val (.int (own_go xs es ss xs.length 0 1)), .val (.int j), r5, r6] [(.int (own_go xs es ss xs.length 0 1))])) _
    exact retN X0 hx (t := .boolean) Bd.returns (by simp) (hb hby d2_82) hr
  · show Q2 Z a1 a2 a3 xs es ss h0 n0 _ s₁.heap _
    rw [e0]
    exact ⟨by rw [← own_nb xs es ss]; rfl, N0, rfl⟩
theorem d1_0 : decode method_3_code 0 = .ok (.iload_n 0, 1) := by decide +kernel
theorem d1_1 : decode method_3_code 1 = .ok (.ifCond .ne 7, 3) := by decide +kernel
theorem d1_4 : decode method_3_code 4 = .ok (.iconst 0, 1) := by decide +kernel
theorem d1_5 : decode method_3_code 5 = .ok (.newarray .long, 2) := by decide +kernel
theorem d1_7 : decode method_3_code 7 = .ok (.areturn, 1) := by decide +kernel
theorem d1_8 : decode method_3_code 8 = .ok (.iload_n 0, 1) := by decide +kernel
theorem d1_9 : decode method_3_code 9 = .ok (.iconst 1, 1) := by decide +kernel
theorem d1_10 : decode method_3_code 10 = .ok (.if_icmp .ne 11, 3) := by decide +kernel
theorem d1_13 : decode method_3_code 13 = .ok (.iconst 1, 1) := by decide +kernel
theorem d1_14 : decode method_3_code 14 = .ok (.newarray .long, 2) := by decide +kernel
theorem d1_16 : decode method_3_code 16 = .ok (.dup, 1) := by decide +kernel
theorem d1_17 : decode method_3_code 17 = .ok (.iconst 0, 1) := by decide +kernel
theorem d1_18 : decode method_3_code 18 = .ok (.lload_n 1, 1) := by decide +kernel
theorem d1_19 : decode method_3_code 19 = .ok (.lastore, 1) := by decide +kernel
theorem d1_20 : decode method_3_code 20 = .ok (.areturn, 1) := by decide +kernel
theorem d1_21 : decode method_3_code 21 = .ok (.iconst 2, 1) := by decide +kernel
theorem d1_22 : decode method_3_code 22 = .ok (.newarray .long, 2) := by decide +kernel
theorem d1_24 : decode method_3_code 24 = .ok (.dup, 1) := by decide +kernel
theorem d1_25 : decode method_3_code 25 = .ok (.iconst 0, 1) := by decide +kernel
theorem d1_26 : decode method_3_code 26 = .ok (.lload_n 1, 1) := by decide +kernel
theorem d1_27 : decode method_3_code 27 = .ok (.lastore, 1) := by decide +kernel
theorem d1_28 : decode method_3_code 28 = .ok (.dup, 1) := by decide +kernel
theorem d1_29 : decode method_3_code 29 = .ok (.iconst 1, 1) := by decide +kernel
theorem d1_30 : decode method_3_code 30 = .ok (.lload_n 3, 1) := by decide +kernel
theorem d1_31 : decode method_3_code 31 = .ok (.lastore, 1) := by decide +kernel
theorem d1_32 : decode method_3_code 32 = .ok (.areturn, 1) := by decide +kernel
theorem pn_1 : plainName "com/example/prune/prune/mdp/WordsIsCoveredPinLaw" = true := by first | (simp [plainName, overriddenIn]; done) | decide +kernel
theorem ef_1 (m : MethodId) (x0 : Int32) (x1 : Int64) (x2 : Int64) : entryFrame m #[(.int x0), (.long x1), (.long x2)] 5 = mkF m 0 #[.val (.int x0), .val (.long x1), .second, .val (.long x2), .second] [] := by first | (simp [entryFrame, mkF, argsToLocals, Value.category]; done) | rfl
def Q1 (Z : State) (p1 : Int32) (q1 : Int64) (q2 : Int64) (h0 : Heap) (n0 : Nat) (v : Option Value) (h : Heap) (L : List Loc) : Prop := ∃ b : Addr, v = some (.ref b) ∧ Fr n0 L ∧ Keep h0 h [] ∧ h0.size ≤ b ∧ own_A Z h b (own_lst p1 q1 q2)
set_option maxRecDepth 65536 in
set_option maxHeartbeats 40000000 in
theorem rm1_a (l : Launch) (Z : State) (a0 : Array Value) (hw : ∀ d ∈ tables_1, d.before a0 Z = true) (ws : List Jvm.Cond) (p1 : Int32) (q1 : Int64) (q2 : Int64) (h0 : Heap) (n0 : Nat) (Z0 : n0 ≤ h0.size) (hp1 : p1 = (0 : Int32)) :
    MetFree l (⟨"com/example/prune/prune/mdp/WordsIsCoveredPinLaw", "words", "(IJJ)[J"⟩ : MethodName) (head1 (Jvm.Cond.code (⟨"com/example/prune/prune/mdp/WordsIsCoveredPinLaw", "words", "(IJJ)[J"⟩ : MethodName) method_3_code 5 (some (.array .long)) :: ws) ({ frames := 0, cells := 1, slots := 2, locals := 0 } : Room)) (fun a U => a = #[(.int p1), (.long q1), (.long q2)] ∧ Z.Warmed39 U.vm ∧ U.heap = h0) (fun _ _ _ _ _ => True) (fun _ U o U' => ∃ v L, o = .returned v ∧ Q1 Z p1 q1 q2 h0 n0 v U'.heap L ∧ FrameEnd U o U' L ({ frames := 0, cells := 1, slots := 2, locals := 0 } : Room).cells ({ frames := 0, cells := 1, slots := 2, locals := 0 } : Room).slots) := by
  refine MetFree.of_bodySF (plainFor_of_name pn_1) hisR ?_
  intro p e s m args below meth c s₁ Bd hml0 hP hK
  obtain ⟨rfl, hZ, hh⟩ := hP
  have hx := Bd.exec
  have hby := Bd.bytes
  have hml : c.maxLocals = 5 := hml0
  have hown : s.vm.findClass "com/example/prune/prune/mdp/WordsIsCoveredPinLaw" = some m.cls := findClass_of_methodNamed Bd.named
  have hnm := (name_of_methodNamed Bd.named Bd.method).1
  have X0 : Stand p l e ({ frames := 0, cells := 1, slots := 2, locals := 0 } : Room) s m #[(.int p1), (.long q1), (.long q2)] below meth c s₁ [] 0 0 := Stand.of_body Bd
  have e0 : s₁.heap = h0 := by rw [← hh, Bd.state]; rfl
  have N0 := Fr.nil n0
  have pre0 : ∀ t, Steps p.tables e below (s₁.setTop (mkF m 0 #[.val (.int p1), .val (.long q1), .second, .val (.long q2), .second] [])) t → Steps p.tables e below (s₁.setTop (entryFrame m #[(.int p1), (.long q1), (.long q2)] 5)) t := fun t k => castTop (ef_1 m p1 q1 q2) k
  obtain ⟨T1, h1, k1, X1, e1, E1, A1, st1⟩ := newP X0 hx hZ (hw _ (List.mem_of_getElem? (i := 6) rfl)) e0 (g := (mkF m 5 #[.val (.int p1), .val (.long q1), .second, .val (.long q2), .second] [(.int (0 : Int32))])) rfl (hb hby d1_5) rfl (by decide) (cap := 2) (by decide) (by decide) (by decide) (by decide)
  obtain ⟨b, g1⟩ : ∃ z, z = h0.size := ⟨_, rfl⟩
  rw [← g1] at A1 st1
  have K0 : Keep h0 h1 [] := (Keep.refl h0 []).ext E1
  have gb : n0 ≤ b := Nat.le_trans Z0 (Nat.le_of_eq g1.symm)
  have V0 : Arv Z h1 b k1 .long (0 : Int32) [] (.long (0 : Int64)) := Arv.new A1 (by decide)
  obtain ⟨fs, hr, hrun, hended, hW, hsame⟩ := X1.leave (v := some (.ref b)) (fun h => by rw [Bd.returns] at h; cases h)
  refine ⟨_, _, pre0 _ ?_, hrun, hended, _, _, rfl, ?_, ⟨_, rfl⟩, hW, hsame.mono (by decide) (by decide)⟩
  · show Steps p.tables e below (s₁.setTop (mkF m 0 #[.val (.int p1), .val (.long q1), .second, .val (.long q2), .second] [])) _
    refine XS.iloadN X0.here hx rfl (hb hby d1_0) rfl ?_
    show Steps p.tables e below (s₁.setTop (mkF m 1 #[.val (.int p1), .val (.long q1), .second, .val (.long q2), .second] [(.int p1)])) _
    refine XS.ifNo X0.here hx rfl (hb hby d1_1) rfl ((if0 _ _).trans (teq hp1).2) ?_
    show Steps p.tables e below (s₁.setTop (mkF m 4 #[.val (.int p1), .val (.long q1), .second, .val (.long q2), .second] [])) _
    refine XS.iconst X0.here hx rfl (hb hby d1_4) ?_
    show Steps p.tables e below (s₁.setTop (mkF m 5 #[.val (.int p1), .val (.long q1), .second, .val (.long q2), .second] [(.int (0 : Int32))])) _
    refine st1 _ ?_
    show Steps p.tables e below (T1.setTop (mkF m 7 #[.val (.int p1), .val (.long q1), .second, .val (.long q2), .second] [(.ref b)])) _
    exact X1.areturnOut hx rfl Bd.returns rfl (hb hby d1_7) hr
  · show Q1 Z p1 q1 q2 h0 n0 _ T1.heap _
    rw [e1]
    have hl : own_lst p1 q1 q2 = [] := by unfold own_lst; rw [if_pos hp1]
    exact ⟨b, rfl, N0, K0, Nat.le_of_eq g1.symm, by rw [hl]; exact ⟨_, V0⟩⟩
set_option maxRecDepth 65536 in
set_option maxHeartbeats 40000000 in
theorem rm1_b (l : Launch) (Z : State) (a0 : Array Value) (hw : ∀ d ∈ tables_1, d.before a0 Z = true) (ws : List Jvm.Cond) (p1 : Int32) (q1 : Int64) (q2 : Int64) (h0 : Heap) (n0 : Nat) (Z0 : n0 ≤ h0.size) (hp1 : ¬ (p1 = (0 : Int32))) (hp2 : p1 = (1 : Int32)) :
    MetFree l (⟨"com/example/prune/prune/mdp/WordsIsCoveredPinLaw", "words", "(IJJ)[J"⟩ : MethodName) (head1 (Jvm.Cond.code (⟨"com/example/prune/prune/mdp/WordsIsCoveredPinLaw", "words", "(IJJ)[J"⟩ : MethodName) method_3_code 5 (some (.array .long)) :: ws) ({ frames := 0, cells := 1, slots := 2, locals := 0 } : Room)) (fun a U => a = #[(.int p1), (.long q1), (.long q2)] ∧ Z.Warmed39 U.vm ∧ U.heap = h0) (fun _ _ _ _ _ => True) (fun _ U o U' => ∃ v L, o = .returned v ∧ Q1 Z p1 q1 q2 h0 n0 v U'.heap L ∧ FrameEnd U o U' L ({ frames := 0, cells := 1, slots := 2, locals := 0 } : Room).cells ({ frames := 0, cells := 1, slots := 2, locals := 0 } : Room).slots) := by
  refine MetFree.of_bodySF (plainFor_of_name pn_1) hisR ?_
  intro p e s m args below meth c s₁ Bd hml0 hP hK
  obtain ⟨rfl, hZ, hh⟩ := hP
  have hx := Bd.exec
  have hby := Bd.bytes
  have hml : c.maxLocals = 5 := hml0
  have hown : s.vm.findClass "com/example/prune/prune/mdp/WordsIsCoveredPinLaw" = some m.cls := findClass_of_methodNamed Bd.named
  have hnm := (name_of_methodNamed Bd.named Bd.method).1
  have X0 : Stand p l e ({ frames := 0, cells := 1, slots := 2, locals := 0 } : Room) s m #[(.int p1), (.long q1), (.long q2)] below meth c s₁ [] 0 0 := Stand.of_body Bd
  have e0 : s₁.heap = h0 := by rw [← hh, Bd.state]; rfl
  have N0 := Fr.nil n0
  have pre0 : ∀ t, Steps p.tables e below (s₁.setTop (mkF m 0 #[.val (.int p1), .val (.long q1), .second, .val (.long q2), .second] [])) t → Steps p.tables e below (s₁.setTop (entryFrame m #[(.int p1), (.long q1), (.long q2)] 5)) t := fun t k => castTop (ef_1 m p1 q1 q2) k
  obtain ⟨T1, h1, k1, X1, e1, E1, A1, st1⟩ := newP X0 hx hZ (hw _ (List.mem_of_getElem? (i := 6) rfl)) e0 (g := (mkF m 14 #[.val (.int p1), .val (.long q1), .second, .val (.long q2), .second] [(.int (1 : Int32))])) rfl (hb hby d1_14) rfl (by decide) (cap := 2) (by decide) (by decide) (by decide) (by decide)
  obtain ⟨b, g1⟩ : ∃ z, z = h0.size := ⟨_, rfl⟩
  rw [← g1] at A1 st1
  have K0 : Keep h0 h1 [] := (Keep.refl h0 []).ext E1
  have gb : n0 ≤ b := Nat.le_trans Z0 (Nat.le_of_eq g1.symm)
  have V_b : Arv Z h1 b k1 .long (1 : Int32) [(.long (0 : Int64))] (.long (0 : Int64)) := (Arv.new A1 (by decide)).pad (pad_rep [] (.long (0 : Int64)) 1)
  obtain ⟨cl2, Ar2, qq2, S2, M2, H2, G2⟩ := id V_b
  obtain ⟨T3, h3, X3, e3, W3, st3⟩ := stJ X1 hx hZ e1 Ar2 (j := (0 : Int32)) (inb_of S2 ⟨(by decide : ¬ ((0 : Int32) < (0 : Int32))), (by decide : (0 : Int32) < (1 : Int32))⟩) (g := (mkF m 19 #[.val (.int p1), .val (.long q1), .second, .val (.long q2), .second] [(.long q1), (.int (0 : Int32)), (.ref b), (.ref b)])) rfl rfl (hb hby d1_19)
  have V_b_3 : Arv Z h3 b k1 .long (1 : Int32) [(.long q1)] (.long (0 : Int64)) := Arv.set Ar2 qq2 S2 M2 H2 G2 rfl W3 0 rfl (Nat.le_of_ble_eq_true rfl)
  have N3 := Fr.snoc X3 N0 gb
  have K3 : Keep h0 h3 [] := K0.wr W3 (Or.inr (Nat.le_of_eq g1.symm))
  obtain ⟨fs, hr, hrun, hended, hW, hsame⟩ := X3.leave (v := some (.ref b)) (fun h => by rw [Bd.returns] at h; cases h)
  refine ⟨_, _, pre0 _ ?_, hrun, hended, _, _, rfl, ?_, ⟨_, rfl⟩, hW, hsame.mono (by decide) (by decide)⟩
  · show Steps p.tables e below (s₁.setTop (mkF m 0 #[.val (.int p1), .val (.long q1), .second, .val (.long q2), .second] [])) _
    refine XS.iloadN X0.here hx rfl (hb hby d1_0) rfl ?_
    show Steps p.tables e below (s₁.setTop (mkF m 1 #[.val (.int p1), .val (.long q1), .second, .val (.long q2), .second] [(.int p1)])) _
    refine XS.ifYes X0.here hx rfl (pc0 := 1) (pc' := 8) rfl (hb hby d1_1) rfl ((if0 _ _).trans (feq hp1).2) (by decide) (by decide) ?_
    show Steps p.tables e below (s₁.setTop (mkF m 8 #[.val (.int p1), .val (.long q1), .second, .val (.long q2), .second] [])) _
    refine XS.iloadN X0.here hx rfl (hb hby d1_8) rfl ?_
    show Steps p.tables e below (s₁.setTop (mkF m 9 #[.val (.int p1), .val (.long q1), .second, .val (.long q2), .second] [(.int p1)])) _
    refine XS.iconst X0.here hx rfl (hb hby d1_9) ?_
    show Steps p.tables e below (s₁.setTop (mkF m 10 #[.val (.int p1), .val (.long q1), .second, .val (.long q2), .second] [(.int (1 : Int32)), (.int p1)])) _
    refine XS.icmpNo X0.here hx rfl (hb hby d1_10) rfl (teq hp2).2 ?_
    show Steps p.tables e below (s₁.setTop (mkF m 13 #[.val (.int p1), .val (.long q1), .second, .val (.long q2), .second] [])) _
    refine XS.iconst X0.here hx rfl (hb hby d1_13) ?_
    show Steps p.tables e below (s₁.setTop (mkF m 14 #[.val (.int p1), .val (.long q1), .second, .val (.long q2), .second] [(.int (1 : Int32))])) _
    refine st1 _ ?_
    show Steps p.tables e below (T1.setTop (mkF m 16 #[.val (.int p1), .val (.long q1), .second, .val (.long q2), .second] [(.ref b)])) _
    refine XS.dup X1.here hx rfl (hb hby d1_16) rfl rfl ?_
    show Steps p.tables e below (T1.setTop (mkF m 17 #[.val (.int p1), .val (.long q1), .second, .val (.long q2), .second] [(.ref b), (.ref b)])) _
    refine XS.iconst X1.here hx rfl (hb hby d1_17) ?_
    show Steps p.tables e below (T1.setTop (mkF m 18 #[.val (.int p1), .val (.long q1), .second, .val (.long q2), .second] [(.int (0 : Int32)), (.ref b), (.ref b)])) _
    refine XS.lloadN X1.here hx rfl (hb hby d1_18) rfl ?_
    show Steps p.tables e below (T1.setTop (mkF m 19 #[.val (.int p1), .val (.long q1), .second, .val (.long q2), .second] [(.long q1), (.int (0 : Int32)), (.ref b), (.ref b)])) _
    refine st3 _ ?_
    show Steps p.tables e below (T3.setTop (mkF m 20 #[.val (.int p1), .val (.long q1), .second, .val (.long q2), .second] [(.ref b)])) _
    exact X3.areturnOut hx rfl Bd.returns rfl (hb hby d1_20) hr
  · show Q1 Z p1 q1 q2 h0 n0 _ T3.heap _
    rw [e3]
    have hl : own_lst p1 q1 q2 = [q1] := by unfold own_lst; rw [if_neg hp1, if_pos hp2]
    exact ⟨b, rfl, N3, K3, Nat.le_of_eq g1.symm, by rw [hl]; exact ⟨_, V_b_3⟩⟩
set_option maxRecDepth 65536 in
set_option maxHeartbeats 40000000 in
theorem rm1_c (l : Launch) (Z : State) (a0 : Array Value) (hw : ∀ d ∈ tables_1, d.before a0 Z = true) (ws : List Jvm.Cond) (p1 : Int32) (q1 : Int64) (q2 : Int64) (h0 : Heap) (n0 : Nat) (Z0 : n0 ≤ h0.size) (hp1 : ¬ (p1 = (0 : Int32))) (hp2 : ¬ (p1 = (1 : Int32))) :
    MetFree l (⟨"com/example/prune/prune/mdp/WordsIsCoveredPinLaw", "words", "(IJJ)[J"⟩ : MethodName) (head1 (Jvm.Cond.code (⟨"com/example/prune/prune/mdp/WordsIsCoveredPinLaw", "words", "(IJJ)[J"⟩ : MethodName) method_3_code 5 (some (.array .long)) :: ws) ({ frames := 0, cells := 1, slots := 2, locals := 0 } : Room)) (fun a U => a = #[(.int p1), (.long q1), (.long q2)] ∧ Z.Warmed39 U.vm ∧ U.heap = h0) (fun _ _ _ _ _ => True) (fun _ U o U' => ∃ v L, o = .returned v ∧ Q1 Z p1 q1 q2 h0 n0 v U'.heap L ∧ FrameEnd U o U' L ({ frames := 0, cells := 1, slots := 2, locals := 0 } : Room).cells ({ frames := 0, cells := 1, slots := 2, locals := 0 } : Room).slots) := by
  refine MetFree.of_bodySF (plainFor_of_name pn_1) hisR ?_
  intro p e s m args below meth c s₁ Bd hml0 hP hK
  obtain ⟨rfl, hZ, hh⟩ := hP
  have hx := Bd.exec
  have hby := Bd.bytes
  have hml : c.maxLocals = 5 := hml0
  have hown : s.vm.findClass "com/example/prune/prune/mdp/WordsIsCoveredPinLaw" = some m.cls := findClass_of_methodNamed Bd.named
  have hnm := (name_of_methodNamed Bd.named Bd.method).1
  have X0 : Stand p l e ({ frames := 0, cells := 1, slots := 2, locals := 0 } : Room) s m #[(.int p1), (.long q1), (.long q2)] below meth c s₁ [] 0 0 := Stand.of_body Bd
  have e0 : s₁.heap = h0 := by rw [← hh, Bd.state]; rfl
  have N0 := Fr.nil n0
  have pre0 : ∀ t, Steps p.tables e below (s₁.setTop (mkF m 0 #[.val (.int p1), .val (.long q1), .second, .val (.long q2), .second] [])) t → Steps p.tables e below (s₁.setTop (entryFrame m #[(.int p1), (.long q1), (.long q2)] 5)) t := fun t k => castTop (ef_1 m p1 q1 q2) k
  obtain ⟨T1, h1, k1, X1, e1, E1, A1, st1⟩ := newP X0 hx hZ (hw _ (List.mem_of_getElem? (i := 6) rfl)) e0 (g := (mkF m 22 #[.val (.int p1), .val (.long q1), .second, .val (.long q2), .second] [(.int (2 : Int32))])) rfl (hb hby d1_22) rfl (by decide) (cap := 2) (by decide) (by decide) (by decide) (by decide)
  obtain ⟨b, g1⟩ : ∃ z, z = h0.size := ⟨_, rfl⟩
  rw [← g1] at A1 st1
  have K0 : Keep h0 h1 [] := (Keep.refl h0 []).ext E1
  have gb : n0 ≤ b := Nat.le_trans Z0 (Nat.le_of_eq g1.symm)
  have V_b : Arv Z h1 b k1 .long (2 : Int32) [(.long (0 : Int64)), (.long (0 : Int64))] (.long (0 : Int64)) := (Arv.new A1 (by decide)).pad (pad_rep [] (.long (0 : Int64)) 2)
  obtain ⟨cl2, Ar2, qq2, S2, M2, H2, G2⟩ := id V_b
  obtain ⟨T3, h3, X3, e3, W3, st3⟩ := stJ X1 hx hZ e1 Ar2 (j := (0 : Int32)) (inb_of S2 ⟨(by decide : ¬ ((0 : Int32) < (0 : Int32))), (by decide : (0 : Int32) < (2 : Int32))⟩) (g := (mkF m 27 #[.val (.int p1), .val (.long q1), .second, .val (.long q2), .second] [(.long q1), (.int (0 : Int32)), (.ref b), (.ref b)])) rfl rfl (hb hby d1_27)
  have V_b_3 : Arv Z h3 b k1 .long (2 : Int32) [(.long q1), (.long (0 : Int64))] (.long (0 : Int64)) := Arv.set Ar2 qq2 S2 M2 H2 G2 rfl W3 0 rfl (Nat.le_of_ble_eq_true rfl)
  have N3 := Fr.snoc X3 N0 gb
  have K3 : Keep h0 h3 [] := K0.wr W3 (Or.inr (Nat.le_of_eq g1.symm))
  obtain ⟨cl4, Ar4, qq4, S4, M4, H4, G4⟩ := id V_b_3
  obtain ⟨T5, h5, X5, e5, W5, st5⟩ := stJ X3 hx hZ e3 Ar4 (j := (1 : Int32)) (inb_of S4 ⟨(by decide : ¬ ((1 : Int32) < (0 : Int32))), (by decide : (1 : Int32) < (2 : Int32))⟩) (g := (mkF m 31 #[.val (.int p1), .val (.long q1), .second, .val (.long q2), .second] [(.long q2), (.int (1 : Int32)), (.ref b), (.ref b)])) rfl rfl (hb hby d1_31)
  have V_b_5 : Arv Z h5 b k1 .long (2 : Int32) [(.long q1), (.long q2)] (.long (0 : Int64)) := Arv.set Ar4 qq4 S4 M4 H4 G4 rfl W5 1 rfl (Nat.le_of_ble_eq_true rfl)
  have N5 := Fr.snoc X5 N3 gb
  have K5 : Keep h0 h5 [] := K3.wr W5 (Or.inr (Nat.le_of_eq g1.symm))
  obtain ⟨fs, hr, hrun, hended, hW, hsame⟩ := X5.leave (v := some (.ref b)) (fun h => by rw [Bd.returns] at h; cases h)
  refine ⟨_, _, pre0 _ ?_, hrun, hended, _, _, rfl, ?_, ⟨_, rfl⟩, hW, hsame.mono (by decide) (by decide)⟩
  · show Steps p.tables e below (s₁.setTop (mkF m 0 #[.val (.int p1), .val (.long q1), .second, .val (.long q2), .second] [])) _
    refine XS.iloadN X0.here hx rfl (hb hby d1_0) rfl ?_
    show Steps p.tables e below (s₁.setTop (mkF m 1 #[.val (.int p1), .val (.long q1), .second, .val (.long q2), .second] [(.int p1)])) _
    refine XS.ifYes X0.here hx rfl (pc0 := 1) (pc' := 8) rfl (hb hby d1_1) rfl ((if0 _ _).trans (feq hp1).2) (by decide) (by decide) ?_
    show Steps p.tables e below (s₁.setTop (mkF m 8 #[.val (.int p1), .val (.long q1), .second, .val (.long q2), .second] [])) _
    refine XS.iloadN X0.here hx rfl (hb hby d1_8) rfl ?_
    show Steps p.tables e below (s₁.setTop (mkF m 9 #[.val (.int p1), .val (.long q1), .second, .val (.long q2), .second] [(.int p1)])) _
    refine XS.iconst X0.here hx rfl (hb hby d1_9) ?_
    show Steps p.tables e below (s₁.setTop (mkF m 10 #[.val (.int p1), .val (.long q1), .second, .val (.long q2), .second] [(.int (1 : Int32)), (.int p1)])) _
    refine XS.icmpYes X0.here hx rfl (pc0 := 10) (pc' := 21) rfl (hb hby d1_10) rfl (feq hp2).2 (by decide) (by decide) ?_
    show Steps p.tables e below (s₁.setTop (mkF m 21 #[.val (.int p1), .val (.long q1), .second, .val (.long q2), .second] [])) _
    refine XS.iconst X0.here hx rfl (hb hby d1_21) ?_
    show Steps p.tables e below (s₁.setTop (mkF m 22 #[.val (.int p1), .val (.long q1), .second, .val (.long q2), .second] [(.int (2 : Int32))])) _
    refine st1 _ ?_
    show Steps p.tables e below (T1.setTop (mkF m 24 #[.val (.int p1), .val (.long q1), .second, .val (.long q2), .second] [(.ref b)])) _
    refine XS.dup X1.here hx rfl (hb hby d1_24) rfl rfl ?_
    show Steps p.tables e below (T1.setTop (mkF m 25 #[.val (.int p1), .val (.long q1), .second, .val (.long q2), .second] [(.ref b), (.ref b)])) _
    refine XS.iconst X1.here hx rfl (hb hby d1_25) ?_
    show Steps p.tables e below (T1.setTop (mkF m 26 #[.val (.int p1), .val (.long q1), .second, .val (.long q2), .second] [(.int (0 : Int32)), (.ref b), (.ref b)])) _
    refine XS.lloadN X1.here hx rfl (hb hby d1_26) rfl ?_
    show Steps p.tables e below (T1.setTop (mkF m 27 #[.val (.int p1), .val (.long q1), .second, .val (.long q2), .second] [(.long q1), (.int (0 : Int32)), (.ref b), (.ref b)])) _
    refine st3 _ ?_
    show Steps p.tables e below (T3.setTop (mkF m 28 #[.val (.int p1), .val (.long q1), .second, .val (.long q2), .second] [(.ref b)])) _
    refine XS.dup X3.here hx rfl (hb hby d1_28) rfl rfl ?_
    show Steps p.tables e below (T3.setTop (mkF m 29 #[.val (.int p1), .val (.long q1), .second, .val (.long q2), .second] [(.ref b), (.ref b)])) _
    refine XS.iconst X3.here hx rfl (hb hby d1_29) ?_
    show Steps p.tables e below (T3.setTop (mkF m 30 #[.val (.int p1), .val (.long q1), .second, .val (.long q2), .second] [(.int (1 : Int32)), (.ref b), (.ref b)])) _
    refine XS.lloadN X3.here hx rfl (hb hby d1_30) rfl ?_
    show Steps p.tables e below (T3.setTop (mkF m 31 #[.val (.int p1), .val (.long q1), .second, .val (.long q2), .second] [(.long q2), (.int (1 : Int32)), (.ref b), (.ref b)])) _
    refine st5 _ ?_
    show Steps p.tables e below (T5.setTop (mkF m 32 #[.val (.int p1), .val (.long q1), .second, .val (.long q2), .second] [(.ref b)])) _
    exact X5.areturnOut hx rfl Bd.returns rfl (hb hby d1_32) hr
  · show Q1 Z p1 q1 q2 h0 n0 _ T5.heap _
    rw [e5]
    have hl : own_lst p1 q1 q2 = [q1, q2] := by unfold own_lst; rw [if_neg hp1, if_neg hp2]
    exact ⟨b, rfl, N5, K5, Nat.le_of_eq g1.symm, by rw [hl]; exact ⟨_, V_b_5⟩⟩
set_option maxRecDepth 65536 in
set_option maxHeartbeats 40000000 in
theorem rm1 (l : Launch) (Z : State) (a0 : Array Value) (hw : ∀ d ∈ tables_1, d.before a0 Z = true) (ws : List Jvm.Cond) (p1 : Int32) (q1 : Int64) (q2 : Int64) (h0 : Heap) (n0 : Nat) (Z0 : n0 ≤ h0.size)  :
    MetFree l (⟨"com/example/prune/prune/mdp/WordsIsCoveredPinLaw", "words", "(IJJ)[J"⟩ : MethodName) (head1 (Jvm.Cond.code (⟨"com/example/prune/prune/mdp/WordsIsCoveredPinLaw", "words", "(IJJ)[J"⟩ : MethodName) method_3_code 5 (some (.array .long)) :: ws) ({ frames := 0, cells := 1, slots := 2, locals := 0 } : Room)) (fun a U => a = #[(.int p1), (.long q1), (.long q2)] ∧ Z.Warmed39 U.vm ∧ U.heap = h0) (fun _ _ _ _ _ => True) (fun _ U o U' => ∃ v L, o = .returned v ∧ Q1 Z p1 q1 q2 h0 n0 v U'.heap L ∧ FrameEnd U o U' L ({ frames := 0, cells := 1, slots := 2, locals := 0 } : Room).cells ({ frames := 0, cells := 1, slots := 2, locals := 0 } : Room).slots) := by
  by_cases h1 : p1 = (0 : Int32)
  · exact rm1_a l Z a0 hw ws p1 q1 q2 h0 n0 Z0 h1
  · by_cases h2 : p1 = (1 : Int32)
    · exact rm1_b l Z a0 hw ws p1 q1 q2 h0 n0 Z0 h1 h2
    · exact rm1_c l Z a0 hw ws p1 q1 q2 h0 n0 Z0 h1 h2
theorem pd_0_0 : parseMethodDescriptor "(IJJ)[J" = some ⟨[.int, .long, .long], some (.array .long)⟩ := by decide +kernel
theorem pd_0_1 : parseMethodDescriptor "([J[J[J)Z" = some ⟨[(.array .long), (.array .long), (.array .long)], some .boolean⟩ := by decide +kernel
theorem pn_0 : plainName "com/example/prune/prune/mdp/WordsIsCoveredPinLaw" = true := by first | (simp [plainName, overriddenIn]; done) | decide +kernel
theorem ef_0 (m : MethodId) (x0 : Int64) (x1 : Int64) (x2 : Int64) (x3 : Int64) (x4 : Int64) (x5 : Int64) : entryFrame m #[(.long x0), (.long x1), (.long x2), (.long x3), (.long x4), (.long x5)] maxLocals = mkF m 0 #[.val (.long x0), .second, .val (.long x1), .second, .val (.long x2), .second, .val (.long x3), .second, .val (.long x4), .second, .val (.long x5), .second, .unset, .unset, .unset, .unset, .unset, .unset, .unset, .unset, .unset, .unset, .unset, .unset, .unset, .unset, .unset, .unset, .unset, .unset] [] := by first | (simp [entryFrame, mkF, argsToLocals, Value.category, maxLocals]; done) | rfl
def Q0 (Z : State) (q1 : Int64) (q2 : Int64) (q3 : Int64) (q4 : Int64) (q5 : Int64) (q6 : Int64) (h0 : Heap) (n0 : Nat) (v : Option Value) (h : Heap) (L : List Loc) : Prop := v = some (.int 1) ∧ Fr n0 L
set_option maxRecDepth 65536 in
set_option maxHeartbeats 40000000 in
theorem rm0 (l : Launch) (Z : State) (a0 : Array Value) (hw : ∀ d ∈ tables_1, d.before a0 Z = true) (ws : List Jvm.Cond) (q1 : Int64) (q2 : Int64) (q3 : Int64) (q4 : Int64) (q5 : Int64) (q6 : Int64) (h0 : Heap) (n0 : Nat) (Z0 : n0 ≤ h0.size)  :
    MetFree l x (head1 (Jvm.Cond.code x code maxLocals ret :: ws) room_1) (fun a U => a = #[(.long q1), (.long q2), (.long q3), (.long q4), (.long q5), (.long q6)] ∧ Z.Warmed39 U.vm ∧ U.heap = h0) (fun _ _ _ _ _ => True) (fun _ U o U' => ∃ v L, o = .returned v ∧ Q0 Z q1 q2 q3 q4 q5 q6 h0 n0 v U'.heap L ∧ FrameEnd U o U' L room_1.cells room_1.slots) := by
  refine MetFree.of_bodySF (plainFor_of_name pn_0) hisR ?_
  intro p e s m args below meth c s₁ Bd hml0 hP hK
  obtain ⟨rfl, hZ, hh⟩ := hP
  have hx := Bd.exec
  have hby := Bd.bytes
  have hml : c.maxLocals = 30 := hml0
  have hown : s.vm.findClass "com/example/prune/prune/mdp/WordsIsCoveredPinLaw" = some m.cls := findClass_of_methodNamed Bd.named
  have hnm := (name_of_methodNamed Bd.named Bd.method).1
  have X0 : Stand p l e room_1 s m #[(.long q1), (.long q2), (.long q3), (.long q4), (.long q5), (.long q6)] below meth c s₁ [] 0 0 := Stand.of_body Bd
  have e0 : s₁.heap = h0 := by rw [← hh, Bd.state]; rfl
  have N0 := Fr.nil n0
  have pre0 : ∀ t, Steps p.tables e below (s₁.setTop (mkF m 0 #[.val (.long q1), .second, .val (.long q2), .second, .val (.long q3), .second, .val (.long q4), .second, .val (.long q5), .second, .val (.long q6), .second, .unset, .unset, .unset, .unset, .unset, .unset, .unset, .unset, .unset, .unset, .unset, .unset, .unset, .unset, .unset, .unset, .unset, .unset] [])) t → Steps p.tables e below (s₁.setTop (entryFrame m #[(.long q1), (.long q2), (.long q3), (.long q4), (.long q5), (.long q6)] maxLocals)) t := fun t k => castTop (ef_0 m q1 q2 q3 q4 q5 q6) k
  obtain ⟨v1, hv1⟩ : ∃ z : Int32, z = ((((((((q1 ^^^ q2) ^^^ q3) ^^^ q4) ^^^ q5) ^^^ q6) &&& (65535 : Int64)) - (((((((q1 ^^^ q2) ^^^ q3) ^^^ q4) ^^^ q5) ^^^ q6) &&& (65535 : Int64)) / (27 : Int64)) * (27 : Int64)).toInt32) := ⟨_, rfl⟩
  obtain ⟨v2, hv2⟩ : ∃ z : Int32, z = (v1 % (3 : Int32)) := ⟨_, rfl⟩
  obtain ⟨v3, hv3⟩ : ∃ z : Int32, z = ((v1 / (3 : Int32)) % (3 : Int32)) := ⟨_, rfl⟩
  obtain ⟨v4, hv4⟩ : ∃ z : Int32, z = (v1 / (9 : Int32)) := ⟨_, rfl⟩
  have hsh := own_sh _ v1 hv1
  have hz1 := own_z1 v1 v2 hsh hv2
  have hz2 := own_z2 v1 v3 hsh hv3
  have hz3 := own_z3 v1 v4 hsh hv4
  obtain ⟨_, _, ⟨T5, L5, k5, n5⟩, -, X5, ⟨Lc5, hQ5, l5, y5, z5⟩, st5⟩ := Jvm.LawKit.callS X0 hx (y := (⟨"com/example/prune/prune/mdp/WordsIsCoveredPinLaw", "words", "(IJJ)[J"⟩ : MethodName)) hown (mvT hZ (hw _ (List.mem_of_getElem? (i := 2) rfl))) (mvT hZ (hw _ (List.mem_of_getElem? (i := 3) rfl))) (mvT hZ (hw _ (List.mem_of_getElem? (i := 4) rfl))) (mvT hZ (hw _ (List.mem_of_getElem? (i := 5) rfl))) (by decide) (backOf (W := 0) (rm1 l Z a0 hw [] v2 q1 q2 h0 n0 Z0) hZ (hw _ (List.mem_of_getElem? (i := 5) rfl)) (hw _ (List.mem_of_getElem? (i := 4) rfl)) (by decide) (by decide)) (g := (mkF m 51 #[.val (.long q1), .second, .val (.long q2), .second, .val (.long q3), .second, .val (.long q4), .second, .val (.long q5), .second, .val (.long q6), .second, .val (.int v1), .val (.int v2), .val (.int v3), .val (.int v4), .unset, .unset, .unset, .unset, .unset, .unset, .unset, .unset, .unset, .unset, .unset, .unset, .unset, .unset] [(.long q2), (.long q1), (.int v2)])) rfl (by rw [hml]; rfl) (argsL := [(.int v2), (.long q1), (.long q2)]) (rest := []) (lenOf pd_0_0 rfl) rfl (by show 2 * 0 + _ ≤ _; exact Nat.le_of_eq rfl) (hb hby at_51) (fun _ _ => ⟨rfl, e0, (by decide : 0 + 1 ≤ _), (by decide : 0 + 2 ≤ _)⟩)
  dsimp only [Pt.U, Pt.locs, Pt.cells, Pt.slots] at X5 l5 y5 z5 st5 hQ5
  subst l5 y5 z5
  obtain ⟨b1, rfl, N5q, K5, gs5, V1⟩ := hQ5
  have N5 := Fr.app N0 N5q
  have Z5 : n0 ≤ T5.heap.size := Nat.le_trans Z0 K5.1
  obtain ⟨_, _, ⟨T6, L6, k6, n6⟩, -, X6, ⟨Lc6, hQ6, l6, y6, z6⟩, st6⟩ := Jvm.LawKit.callS X5 hx (y := (⟨"com/example/prune/prune/mdp/WordsIsCoveredPinLaw", "words", "(IJJ)[J"⟩ : MethodName)) hown (mvT hZ (hw _ (List.mem_of_getElem? (i := 2) rfl))) (mvT hZ (hw _ (List.mem_of_getElem? (i := 3) rfl))) (mvT hZ (hw _ (List.mem_of_getElem? (i := 4) rfl))) (mvT hZ (hw _ (List.mem_of_getElem? (i := 5) rfl))) (by decide) (backOf (W := 0) (rm1 l Z a0 hw [] v3 q3 q4 T5.heap n0 Z5) hZ (hw _ (List.mem_of_getElem? (i := 5) rfl)) (hw _ (List.mem_of_getElem? (i := 4) rfl)) (by decide) (by decide)) (g := (mkF m 62 #[.val (.long q1), .second, .val (.long q2), .second, .val (.long q3), .second, .val (.long q4), .second, .val (.long q5), .second, .val (.long q6), .second, .val (.int v1), .val (.int v2), .val (.int v3), .val (.int v4), .val (.ref b1), .unset, .unset, .unset, .unset, .unset, .unset, .unset, .unset, .unset, .unset, .unset, .unset, .unset] [(.long q4), (.long q3), (.int v3)])) rfl (by rw [hml]; rfl) (argsL := [(.int v3), (.long q3), (.long q4)]) (rest := []) (lenOf pd_0_0 rfl) rfl (by show 2 * 0 + _ ≤ _; exact Nat.le_of_eq rfl) (hb hby at_62) (fun _ _ => ⟨rfl, rfl, (by decide : 1 + 1 ≤ _), (by decide : 2 + 2 ≤ _)⟩)
  dsimp only [Pt.U, Pt.locs, Pt.cells, Pt.slots] at X6 l6 y6 z6 st6 hQ6
  subst l6 y6 z6
  obtain ⟨b2, rfl, N6q, K6, gs6, V2⟩ := hQ6
  have N6 := Fr.app N5 N6q
  have Z6 : n0 ≤ T6.heap.size := Nat.le_trans Z5 K6.1
  have V1_6 := own_A.keep V1 K6 nin0
  obtain ⟨_, _, ⟨T7, L7, k7, n7⟩, -, X7, ⟨Lc7, hQ7, l7, y7, z7⟩, st7⟩ := Jvm.LawKit.callS X6 hx (y := (⟨"com/example/prune/prune/mdp/WordsIsCoveredPinLaw", "words", "(IJJ)[J"⟩ : MethodName)) hown (mvT hZ (hw _ (List.mem_of_getElem? (i := 2) rfl))) (mvT hZ (hw _ (List.mem_of_getElem? (i := 3) rfl))) (mvT hZ (hw _ (List.mem_of_getElem? (i := 4) rfl))) (mvT hZ (hw _ (List.mem_of_getElem? (i := 5) rfl))) (by decide) (backOf (W := 0) (rm1 l Z a0 hw [] v4 q5 q6 T6.heap n0 Z6) hZ (hw _ (List.mem_of_getElem? (i := 5) rfl)) (hw _ (List.mem_of_getElem? (i := 4) rfl)) (by decide) (by decide)) (g := (mkF m 73 #[.val (.long q1), .second, .val (.long q2), .second, .val (.long q3), .second, .val (.long q4), .second, .val (.long q5), .second, .val (.long q6), .second, .val (.int v1), .val (.int v2), .val (.int v3), .val (.int v4), .val (.ref b1), .val (.ref b2), .unset, .unset, .unset, .unset, .unset, .unset, .unset, .unset, .unset, .unset, .unset, .unset] [(.long q6), (.long q5), (.int v4)])) rfl (by rw [hml]; rfl) (argsL := [(.int v4), (.long q5), (.long q6)]) (rest := []) (lenOf pd_0_0 rfl) rfl (by show 2 * 0 + _ ≤ _; exact Nat.le_of_eq rfl) (hb hby at_73) (fun _ _ => ⟨rfl, rfl, (by decide : 2 + 1 ≤ _), (by decide : 4 + 2 ≤ _)⟩)
  dsimp only [Pt.U, Pt.locs, Pt.cells, Pt.slots] at X7 l7 y7 z7 st7 hQ7
  subst l7 y7 z7
  obtain ⟨b3, rfl, N7q, K7, gs7, V3⟩ := hQ7
  have N7 := Fr.app N6 N7q
  have Z7 : n0 ≤ T7.heap.size := Nat.le_trans Z6 K7.1
  have V1_7 := own_A.keep V1_6 K7 nin0
  have V2_7 := own_A.keep V2 K7 nin0
  obtain ⟨_, _, ⟨T8, L8, k8, n8⟩, -, X8, ⟨Lc8, hQ8, l8, y8, z8⟩, st8⟩ := Jvm.LawKit.callS X7 hx (y := (⟨"com/example/prune/prune/mdp/Words", "isCovered", "([J[J[J)Z"⟩ : MethodName)) hown (mvT hZ (hw _ (List.mem_of_getElem? (i := 7) rfl))) (mvT hZ (hw _ (List.mem_of_getElem? (i := 8) rfl))) (mvT hZ (hw _ (List.mem_of_getElem? (i := 9) rfl))) (mvT hZ (hw _ (List.mem_of_getElem? (i := 10) rfl))) (by decide) (backOf (W := 0) (rm2 l Z a0 hw [] b1 b2 b3 (own_lst v2 q1 q2) (own_lst v3 q3 q4) (own_lst v4 q5 q6) T7.heap n0 Z7 (own_lst2 _ _ _) (own_lst2 _ _ _) (own_lst2 _ _ _) V1_7 V2_7 V3) hZ (hw _ (List.mem_of_getElem? (i := 10) rfl)) (hw _ (List.mem_of_getElem? (i := 9) rfl)) (by decide) (by decide)) (g := (mkF m 84 #[.val (.long q1), .second, .val (.long q2), .second, .val (.long q3), .second, .val (.long q4), .second, .val (.long q5), .second, .val (.long q6), .second, .val (.int v1), .val (.int v2), .val (.int v3), .val (.int v4), .val (.ref b1), .val (.ref b2), .val (.ref b3), .unset, .unset, .unset, .unset, .unset, .unset, .unset, .unset, .unset, .unset, .unset] [(.ref b3), (.ref b2), (.ref b1)])) rfl (by rw [hml]; rfl) (argsL := [(.ref b1), (.ref b2), (.ref b3)]) (rest := []) (lenOf pd_0_1 rfl) rfl (by show 2 * 0 + _ ≤ _; exact Nat.le_of_eq rfl) (hb hby at_84) (fun _ _ => ⟨rfl, rfl, (by decide : 3 + 0 ≤ _), (by decide : 6 + 0 ≤ _)⟩)
  dsimp only [Pt.U, Pt.locs, Pt.cells, Pt.slots] at X8 l8 y8 z8 st8 hQ8
  subst l8 y8 z8
  obtain ⟨rfl, N8q, e8⟩ := hQ8
  have N8 := Fr.app N7 N8q
  obtain ⟨v10, hv10⟩ : ∃ z : Int64, z = if (v3 < (1 : Int32)) then (0 : Int64) else q3 := ⟨_, rfl⟩
  obtain ⟨v12, hv12⟩ : ∃ z : Int64, z = if (v3 < (2 : Int32)) then (0 : Int64) else q4 := ⟨_, rfl⟩
  obtain ⟨v14, hv14⟩ : ∃ z : Int64, z = if (v4 < (1 : Int32)) then (0 : Int64) else q5 := ⟨_, rfl⟩
  obtain ⟨v16, hv16⟩ : ∃ z : Int64, z = if (v4 < (2 : Int32)) then (0 : Int64) else q6 := ⟨_, rfl⟩
  obtain ⟨v19, hv19⟩ : ∃ z : Int32, z = if (((q1 &&& (v10 ^^^ (-1 : Int64))) ||| v14) = v14) then (1 : Int32) else (0 : Int32) := ⟨_, rfl⟩
  obtain ⟨v20, hv20⟩ : ∃ z : Int32, z = if (v2 < (1 : Int32)) then (1 : Int32) else v19 := ⟨_, rfl⟩
  obtain ⟨v23, hv23⟩ : ∃ z : Int32, z = if (((q2 &&& (v12 ^^^ (-1 : Int64))) ||| v16) = v16) then (1 : Int32) else (0 : Int32) := ⟨_, rfl⟩
  obtain ⟨v24, hv24⟩ : ∃ z : Int32, z = if (v2 < (2 : Int32)) then (1 : Int32) else v23 := ⟨_, rfl⟩
  obtain ⟨v27, hv27⟩ : ∃ z : Int32, z = if (v24 = (0 : Int32)) then (0 : Int32) else (1 : Int32) := ⟨_, rfl⟩
  obtain ⟨v28, hv28⟩ : ∃ z : Int32, z = if (v20 = (0 : Int32)) then (0 : Int32) else v27 := ⟨_, rfl⟩
  have hfin : own_cov (own_lst v2 q1 q2) (own_lst v3 q3 q4) (own_lst v4 q5 q6) = v28 := by
    rw [hv28, hv27, hv24, hv23, hv20, hv19]
    exact own_fin v2 v3 v4 q1 q2 q3 q4 q5 q6 v10 v12 v14 v16 hz1 hz2 hz3 hv10 hv12 hv14 hv16
  obtain ⟨fs, hr, hrun, hended, hW, hsame⟩ := X8.leave (v := some (.int (1 : Int32))) (fun h => by rw [Bd.returns] at h; cases h)
  refine ⟨_, _, pre0 _ ?_, hrun, hended, _, _, rfl, ?_, ⟨_, rfl⟩, hW, hsame.mono (by decide) (by decide)⟩
  · show Steps p.tables e below (s₁.setTop (mkF m 0 #[.val (.long q1), .second, .val (.long q2), .second, .val (.long q3), .second, .val (.long q4), .second, .val (.long q5), .second, .val (.long q6), .second, .unset, .unset, .unset, .unset, .unset, .unset, .unset, .unset, .unset, .unset, .unset, .unset, .unset, .unset, .unset, .unset, .unset, .unset] [])) _
    refine XS.lloadN X0.here hx rfl (hb hby at_0) rfl ?_
    show Steps p.tables e below (s₁.setTop (mkF m 1 #[.val (.long q1), .second, .val (.long q2), .second, .val (.long q3), .second, .val (.long q4), .second, .val (.long q5), .second, .val (.long q6), .second, .unset, .unset, .unset, .unset, .unset, .unset, .unset, .unset, .unset, .unset, .unset, .unset, .unset, .unset, .unset, .unset, .unset, .unset] [(.long q1)])) _
    refine XS.lloadN X0.here hx rfl (hb hby at_1) rfl ?_
    show Steps p.tables e below (s₁.setTop (mkF m 2 #[.val (.long q1), .second, .val (.long q2), .second, .val (.long q3), .second, .val (.long q4), .second, .val (.long q5), .second, .val (.long q6), .second, .unset, .unset, .unset, .unset, .unset, .unset, .unset, .unset, .unset, .unset, .unset, .unset, .unset, .unset, .unset, .unset, .unset, .unset] [(.long q2), (.long q1)])) _
    refine XS.lxor X0.here hx rfl (hb hby at_2) rfl ?_
    show Steps p.tables e below (s₁.setTop (mkF m 3 #[.val (.long q1), .second, .val (.long q2), .second, .val (.long q3), .second, .val (.long q4), .second, .val (.long q5), .second, .val (.long q6), .second, .unset, .unset, .unset, .unset, .unset, .unset, .unset, .unset, .unset, .unset, .unset, .unset, .unset, .unset, .unset, .unset, .unset, .unset] [(.long (q1 ^^^ q2))])) _
    refine XS.lload X0.here hx rfl (hb hby at_3) rfl ?_
    show Steps p.tables e below (s₁.setTop (mkF m 5 #[.val (.long q1), .second, .val (.long q2), .second, .val (.long q3), .second, .val (.long q4), .second, .val (.long q5), .second, .val (.long q6), .second, .unset, .unset, .unset, .unset, .unset, .unset, .unset, .unset, .unset, .unset, .unset, .unset, .unset, .unset, .unset, .unset, .unset, .unset] [(.long q3), (.long (q1 ^^^ q2))])) _
    refine XS.lxor X0.here hx rfl (hb hby at_5) rfl ?_
    show Steps p.tables e below (s₁.setTop (mkF m 6 #[.val (.long q1), .second, .val (.long q2), .second, .val (.long q3), .second, .val (.long q4), .second, .val (.long q5), .second, .val (.long q6), .second, .unset, .unset, .unset, .unset, .unset, .unset, .unset, .unset, .unset, .unset, .unset, .unset, .unset, .unset, .unset, .unset, .unset, .unset] [(.long ((q1 ^^^ q2) ^^^ q3))])) _
    refine XS.lload X0.here hx rfl (hb hby at_6) rfl ?_
    show Steps p.tables e below (s₁.setTop (mkF m 8 #[.val (.long q1), .second, .val (.long q2), .second, .val (.long q3), .second, .val (.long q4), .second, .val (.long q5), .second, .val (.long q6), .second, .unset, .unset, .unset, .unset, .unset, .unset, .unset, .unset, .unset, .unset, .unset, .unset, .unset, .unset, .unset, .unset, .unset, .unset] [(.long q4), (.long ((q1 ^^^ q2) ^^^ q3))])) _
    refine XS.lxor X0.here hx rfl (hb hby at_8) rfl ?_
    show Steps p.tables e below (s₁.setTop (mkF m 9 #[.val (.long q1), .second, .val (.long q2), .second, .val (.long q3), .second, .val (.long q4), .second, .val (.long q5), .second, .val (.long q6), .second, .unset, .unset, .unset, .unset, .unset, .unset, .unset, .unset, .unset, .unset, .unset, .unset, .unset, .unset, .unset, .unset, .unset, .unset] [(.long (((q1 ^^^ q2) ^^^ q3) ^^^ q4))])) _
    refine XS.lload X0.here hx rfl (hb hby at_9) rfl ?_
    show Steps p.tables e below (s₁.setTop (mkF m 11 #[.val (.long q1), .second, .val (.long q2), .second, .val (.long q3), .second, .val (.long q4), .second, .val (.long q5), .second, .val (.long q6), .second, .unset, .unset, .unset, .unset, .unset, .unset, .unset, .unset, .unset, .unset, .unset, .unset, .unset, .unset, .unset, .unset, .unset, .unset] [(.long q5), (.long (((q1 ^^^ q2) ^^^ q3) ^^^ q4))])) _
    refine XS.lxor X0.here hx rfl (hb hby at_11) rfl ?_
    show Steps p.tables e below (s₁.setTop (mkF m 12 #[.val (.long q1), .second, .val (.long q2), .second, .val (.long q3), .second, .val (.long q4), .second, .val (.long q5), .second, .val (.long q6), .second, .unset, .unset, .unset, .unset, .unset, .unset, .unset, .unset, .unset, .unset, .unset, .unset, .unset, .unset, .unset, .unset, .unset, .unset] [(.long ((((q1 ^^^ q2) ^^^ q3) ^^^ q4) ^^^ q5))])) _
    refine XS.lload X0.here hx rfl (hb hby at_12) rfl ?_
    show Steps p.tables e below (s₁.setTop (mkF m 14 #[.val (.long q1), .second, .val (.long q2), .second, .val (.long q3), .second, .val (.long q4), .second, .val (.long q5), .second, .val (.long q6), .second, .unset, .unset, .unset, .unset, .unset, .unset, .unset, .unset, .unset, .unset, .unset, .unset, .unset, .unset, .unset, .unset, .unset, .unset] [(.long q6), (.long ((((q1 ^^^ q2) ^^^ q3) ^^^ q4) ^^^ q5))])) _
    refine XS.lxor X0.here hx rfl (hb hby at_14) rfl ?_
    show Steps p.tables e below (s₁.setTop (mkF m 15 #[.val (.long q1), .second, .val (.long q2), .second, .val (.long q3), .second, .val (.long q4), .second, .val (.long q5), .second, .val (.long q6), .second, .unset, .unset, .unset, .unset, .unset, .unset, .unset, .unset, .unset, .unset, .unset, .unset, .unset, .unset, .unset, .unset, .unset, .unset] [(.long (((((q1 ^^^ q2) ^^^ q3) ^^^ q4) ^^^ q5) ^^^ q6))])) _
    refine X0.ldc2Long hx hown (mvT hZ (hw _ (List.mem_of_getElem? (i := 0) rfl))) (g := (mkF m 15 #[.val (.long q1), .second, .val (.long q2), .second, .val (.long q3), .second, .val (.long q4), .second, .val (.long q5), .second, .val (.long q6), .second, .unset, .unset, .unset, .unset, .unset, .unset, .unset, .unset, .unset, .unset, .unset, .unset, .unset, .unset, .unset, .unset, .unset, .unset] [(.long (((((q1 ^^^ q2) ^^^ q3) ^^^ q4) ^^^ q5) ^^^ q6))])) rfl (hb hby at_15) _ ?_
    show Steps p.tables e below (s₁.setTop (mkF m 18 #[.val (.long q1), .second, .val (.long q2), .second, .val (.long q3), .second, .val (.long q4), .second, .val (.long q5), .second, .val (.long q6), .second, .unset, .unset, .unset, .unset, .unset, .unset, .unset, .unset, .unset, .unset, .unset, .unset, .unset, .unset, .unset, .unset, .unset, .unset] [(.long (65535 : Int64)), (.long (((((q1 ^^^ q2) ^^^ q3) ^^^ q4) ^^^ q5) ^^^ q6))])) _
    refine XS.land X0.here hx rfl (hb hby at_18) rfl ?_
    show Steps p.tables e below (s₁.setTop (mkF m 19 #[.val (.long q1), .second, .val (.long q2), .second, .val (.long q3), .second, .val (.long q4), .second, .val (.long q5), .second, .val (.long q6), .second, .unset, .unset, .unset, .unset, .unset, .unset, .unset, .unset, .unset, .unset, .unset, .unset, .unset, .unset, .unset, .unset, .unset, .unset] [(.long ((((((q1 ^^^ q2) ^^^ q3) ^^^ q4) ^^^ q5) ^^^ q6) &&& (65535 : Int64)))])) _
    refine X0.ldc2Long hx hown (mvT hZ (hw _ (List.mem_of_getElem? (i := 1) rfl))) (g := (mkF m 19 #[.val (.long q1), .second, .val (.long q2), .second, .val (.long q3), .second, .val (.long q4), .second, .val (.long q5), .second, .val (.long q6), .second, .unset, .unset, .unset, .unset, .unset, .unset, .unset, .unset, .unset, .unset, .unset, .unset, .unset, .unset, .unset, .unset, .unset, .unset] [(.long ((((((q1 ^^^ q2) ^^^ q3) ^^^ q4) ^^^ q5) ^^^ q6) &&& (65535 : Int64)))])) rfl (hb hby at_19) _ ?_
    show Steps p.tables e below (s₁.setTop (mkF m 22 #[.val (.long q1), .second, .val (.long q2), .second, .val (.long q3), .second, .val (.long q4), .second, .val (.long q5), .second, .val (.long q6), .second, .unset, .unset, .unset, .unset, .unset, .unset, .unset, .unset, .unset, .unset, .unset, .unset, .unset, .unset, .unset, .unset, .unset, .unset] [(.long (27 : Int64)), (.long ((((((q1 ^^^ q2) ^^^ q3) ^^^ q4) ^^^ q5) ^^^ q6) &&& (65535 : Int64)))])) _
    refine XS.lrem X0.here hx rfl (hb hby at_22) rfl (by decide) ?_
    show Steps p.tables e below (s₁.setTop (mkF m 23 #[.val (.long q1), .second, .val (.long q2), .second, .val (.long q3), .second, .val (.long q4), .second, .val (.long q5), .second, .val (.long q6), .second, .unset, .unset, .unset, .unset, .unset, .unset, .unset, .unset, .unset, .unset, .unset, .unset, .unset, .unset, .unset, .unset, .unset, .unset] [(.long (((((((q1 ^^^ q2) ^^^ q3) ^^^ q4) ^^^ q5) ^^^ q6) &&& (65535 : Int64)) - (((((((q1 ^^^ q2) ^^^ q3) ^^^ q4) ^^^ q5) ^^^ q6) &&& (65535 : Int64)) / (27 : Int64)) * (27 : Int64)))])) _
    refine XS.l2i X0.here hx rfl (hb hby at_23) rfl ?_
    show Steps p.tables e below (s₁.setTop (mkF m 24 #[.val (.long q1), .second, .val (.long q2), .second, .val (.long q3), .second, .val (.long q4), .second, .val (.long q5), .second, .val (.long q6), .second, .unset, .unset, .unset, .unset, .unset, .unset, .unset, .unset, .unset, .unset, .unset, .unset, .unset, .unset, .unset, .unset, .unset, .unset] [(.int ((((((((q1 ^^^ q2) ^^^ q3) ^^^ q4) ^^^ q5) ^^^ q6) &&& (65535 : Int64)) - (((((((q1 ^^^ q2) ^^^ q3) ^^^ q4) ^^^ q5) ^^^ q6) &&& (65535 : Int64)) / (27 : Int64)) * (27 : Int64)).toInt32))])) _
    refine XS.istore X0.here hx rfl (hb hby at_24) rfl (l' := #[.val (.long q1), .second, .val (.long q2), .second, .val (.long q3), .second, .val (.long q4), .second, .val (.long q5), .second, .val (.long q6), .second, .val (.int ((((((((q1 ^^^ q2) ^^^ q3) ^^^ q4) ^^^ q5) ^^^ q6) &&& (65535 : Int64)) - (((((((q1 ^^^ q2) ^^^ q3) ^^^ q4) ^^^ q5) ^^^ q6) &&& (65535 : Int64)) / (27 : Int64)) * (27 : Int64)).toInt32)), .unset, .unset, .unset, .unset, .unset, .unset, .unset, .unset, .unset, .unset, .unset, .unset, .unset, .unset, .unset, .unset, .unset]) rfl ?_
    refine castTop (g' := (mkF m 26 #[.val (.long q1), .second, .val (.long q2), .second, .val (.long q3), .second, .val (.long q4), .second, .val (.long q5), .second, .val (.long q6), .second, .val (.int v1), .unset, .unset, .unset, .unset, .unset, .unset, .unset, .unset, .unset, .unset, .unset, .unset, .unset, .unset, .unset, .unset, .unset] [])) (by rw [hv1]) ?_
    show Steps p.tables e below (s₁.setTop (mkF m 26 #[.val (.long q1), .second, .val (.long q2), .second, .val (.long q3), .second, .val (.long q4), .second, .val (.long q5), .second, .val (.long q6), .second, .val (.int v1), .unset, .unset, .unset, .unset, .unset, .unset, .unset, .unset, .unset, .unset, .unset, .unset, .unset, .unset, .unset, .unset, .unset] [])) _
    refine XS.iload X0.here hx rfl (hb hby at_26) rfl ?_
    show Steps p.tables e below (s₁.setTop (mkF m 28 #[.val (.long q1), .second, .val (.long q2), .second, .val (.long q3), .second, .val (.long q4), .second, .val (.long q5), .second, .val (.long q6), .second, .val (.int v1), .unset, .unset, .unset, .unset, .unset, .unset, .unset, .unset, .unset, .unset, .unset, .unset, .unset, .unset, .unset, .unset, .unset] [(.int v1)])) _
    refine XS.iconst X0.here hx rfl (hb hby at_28) ?_
    show Steps p.tables e below (s₁.setTop (mkF m 29 #[.val (.long q1), .second, .val (.long q2), .second, .val (.long q3), .second, .val (.long q4), .second, .val (.long q5), .second, .val (.long q6), .second, .val (.int v1), .unset, .unset, .unset, .unset, .unset, .unset, .unset, .unset, .unset, .unset, .unset, .unset, .unset, .unset, .unset, .unset, .unset] [(.int (3 : Int32)), (.int v1)])) _
    refine Jvm.RoadKit.iremM X0 hx rfl (hb hby at_29) rfl (by decide) ?_
    show Steps p.tables e below (s₁.setTop (mkF m 30 #[.val (.long q1), .second, .val (.long q2), .second, .val (.long q3), .second, .val (.long q4), .second, .val (.long q5), .second, .val (.long q6), .second, .val (.int v1), .unset, .unset, .unset, .unset, .unset, .unset, .unset, .unset, .unset, .unset, .unset, .unset, .unset, .unset, .unset, .unset, .unset] [(.int (v1 % (3 : Int32)))])) _
    refine XS.istore X0.here hx rfl (hb hby at_30) rfl (l' := #[.val (.long q1), .second, .val (.long q2), .second, .val (.long q3), .second, .val (.long q4), .second, .val (.long q5), .second, .val (.long q6), .second, .val (.int v1), .val (.int (v1 % (3 : Int32))), .unset, .unset, .unset, .unset, .unset, .unset, .unset, .unset, .unset, .unset, .unset, .unset, .unset, .unset, .unset, .unset]) rfl ?_
    refine castTop (g' := (mkF m 32 #[.val (.long q1), .second, .val (.long q2), .second, .val (.long q3), .second, .val (.long q4), .second, .val (.long q5), .second, .val (.long q6), .second, .val (.int v1), .val (.int v2), .unset, .unset, .unset, .unset, .unset, .unset, .unset, .unset, .unset, .unset, .unset, .unset, .unset, .unset, .unset, .unset] [])) (by rw [hv2]) ?_
    show Steps p.tables e below (s₁.setTop (mkF m 32 #[.val (.long q1), .second, .val (.long q2), .second, .val (.long q3), .second, .val (.long q4), .second, .val (.long q5), .second, .val (.long q6), .second, .val (.int v1), .val (.int v2), .unset, .unset, .unset, .unset, .unset, .unset, .unset, .unset, .unset, .unset, .unset, .unset, .unset, .unset, .unset, .unset] [])) _
    refine XS.iload X0.here hx rfl (hb hby at_32) rfl ?_
    show Steps p.tables e below (s₁.setTop (mkF m 34 #[.val (.long q1), .second, .val (.long q2), .second, .val (.long q3), .second, .val (.long q4), .second, .val (.long q5), .second, .val (.long q6), .second, .val (.int v1), .val (.int v2), .unset, .unset, .unset, .unset, .unset, .unset, .unset, .unset, .unset, .unset, .unset, .unset, .unset, .unset, .unset, .unset] [(.int v1)])) _
    refine XS.iconst X0.here hx rfl (hb hby at_34) ?_
    show Steps p.tables e below (s₁.setTop (mkF m 35 #[.val (.long q1), .second, .val (.long q2), .second, .val (.long q3), .second, .val (.long q4), .second, .val (.long q5), .second, .val (.long q6), .second, .val (.int v1), .val (.int v2), .unset, .unset, .unset, .unset, .unset, .unset, .unset, .unset, .unset, .unset, .unset, .unset, .unset, .unset, .unset, .unset] [(.int (3 : Int32)), (.int v1)])) _
    refine XS.idiv X0.here hx rfl (hb hby at_35) rfl (by decide) ?_
    show Steps p.tables e below (s₁.setTop (mkF m 36 #[.val (.long q1), .second, .val (.long q2), .second, .val (.long q3), .second, .val (.long q4), .second, .val (.long q5), .second, .val (.long q6), .second, .val (.int v1), .val (.int v2), .unset, .unset, .unset, .unset, .unset, .unset, .unset, .unset, .unset, .unset, .unset, .unset, .unset, .unset, .unset, .unset] [(.int (v1 / (3 : Int32)))])) _
    refine XS.iconst X0.here hx rfl (hb hby at_36) ?_
    show Steps p.tables e below (s₁.setTop (mkF m 37 #[.val (.long q1), .second, .val (.long q2), .second, .val (.long q3), .second, .val (.long q4), .second, .val (.long q5), .second, .val (.long q6), .second, .val (.int v1), .val (.int v2), .unset, .unset, .unset, .unset, .unset, .unset, .unset, .unset, .unset, .unset, .unset, .unset, .unset, .unset, .unset, .unset] [(.int (3 : Int32)), (.int (v1 / (3 : Int32)))])) _
    refine Jvm.RoadKit.iremM X0 hx rfl (hb hby at_37) rfl (by decide) ?_
    show Steps p.tables e below (s₁.setTop (mkF m 38 #[.val (.long q1), .second, .val (.long q2), .second, .val (.long q3), .second, .val (.long q4), .second, .val (.long q5), .second, .val (.long q6), .second, .val (.int v1), .val (.int v2), .unset, .unset, .unset, .unset, .unset, .unset, .unset, .unset, .unset, .unset, .unset, .unset, .unset, .unset, .unset, .unset] [(.int ((v1 / (3 : Int32)) % (3 : Int32)))])) _
    refine XS.istore X0.here hx rfl (hb hby at_38) rfl (l' := #[.val (.long q1), .second, .val (.long q2), .second, .val (.long q3), .second, .val (.long q4), .second, .val (.long q5), .second, .val (.long q6), .second, .val (.int v1), .val (.int v2), .val (.int ((v1 / (3 : Int32)) % (3 : Int32))), .unset, .unset, .unset, .unset, .unset, .unset, .unset, .unset, .unset, .unset, .unset, .unset, .unset, .unset, .unset]) rfl ?_
    refine castTop (g' := (mkF m 40 #[.val (.long q1), .second, .val (.long q2), .second, .val (.long q3), .second, .val (.long q4), .second, .val (.long q5), .second, .val (.long q6), .second, .val (.int v1), .val (.int v2), .val (.int v3), .unset, .unset, .unset, .unset, .unset, .unset, .unset, .unset, .unset, .unset, .unset, .unset, .unset, .unset, .unset] [])) (by rw [hv3]) ?_
    show Steps p.tables e below (s₁.setTop (mkF m 40 #[.val (.long q1), .second, .val (.long q2), .second, .val (.long q3), .second, .val (.long q4), .second, .val (.long q5), .second, .val (.long q6), .second, .val (.int v1), .val (.int v2), .val (.int v3), .unset, .unset, .unset, .unset, .unset, .unset, .unset, .unset, .unset, .unset, .unset, .unset, .unset, .unset, .unset] [])) _
    refine XS.iload X0.here hx rfl (hb hby at_40) rfl ?_
    show Steps p.tables e below (s₁.setTop (mkF m 42 #[.val (.long q1), .second, .val (.long q2), .second, .val (.long q3), .second, .val (.long q4), .second, .val (.long q5), .second, .val (.long q6), .second, .val (.int v1), .val (.int v2), .val (.int v3), .unset, .unset, .unset, .unset, .unset, .unset, .unset, .unset, .unset, .unset, .unset, .unset, .unset, .unset, .unset] [(.int v1)])) _
    refine XS.bipush X0.here hx rfl (hb hby at_42) ?_
    show Steps p.tables e below (s₁.setTop (mkF m 44 #[.val (.long q1), .second, .val (.long q2), .second, .val (.long q3), .second, .val (.long q4), .second, .val (.long q5), .second, .val (.long q6), .second, .val (.int v1), .val (.int v2), .val (.int v3), .unset, .unset, .unset, .unset, .unset, .unset, .unset, .unset, .unset, .unset, .unset, .unset, .unset, .unset, .unset] [(.int (9 : Int32)), (.int v1)])) _
    refine XS.idiv X0.here hx rfl (hb hby at_44) rfl (by decide) ?_
    show Steps p.tables e below (s₁.setTop (mkF m 45 #[.val (.long q1), .second, .val (.long q2), .second, .val (.long q3), .second, .val (.long q4), .second, .val (.long q5), .second, .val (.long q6), .second, .val (.int v1), .val (.int v2), .val (.int v3), .unset, .unset, .unset, .unset, .unset, .unset, .unset, .unset, .unset, .unset, .unset, .unset, .unset, .unset, .unset] [(.int (v1 / (9 : Int32)))])) _
    refine XS.istore X0.here hx rfl (hb hby at_45) rfl (l' := #[.val (.long q1), .second, .val (.long q2), .second, .val (.long q3), .second, .val (.long q4), .second, .val (.long q5), .second, .val (.long q6), .second, .val (.int v1), .val (.int v2), .val (.int v3), .val (.int (v1 / (9 : Int32))), .unset, .unset, .unset, .unset, .unset, .unset, .unset, .unset, .unset, .unset, .unset, .unset, .unset, .unset]) rfl ?_
    refine castTop (g' := (mkF m 47 #[.val (.long q1), .second, .val (.long q2), .second, .val (.long q3), .second, .val (.long q4), .second, .val (.long q5), .second, .val (.long q6), .second, .val (.int v1), .val (.int v2), .val (.int v3), .val (.int v4), .unset, .unset, .unset, .unset, .unset, .unset, .unset, .unset, .unset, .unset, .unset, .unset, .unset, .unset] [])) (by rw [hv4]) ?_
    show Steps p.tables e below (s₁.setTop (mkF m 47 #[.val (.long q1), .second, .val (.long q2), .second, .val (.long q3), .second, .val (.long q4), .second, .val (.long q5), .second, .val (.long q6), .second, .val (.int v1), .val (.int v2), .val (.int v3), .val (.int v4), .unset, .unset, .unset, .unset, .unset, .unset, .unset, .unset, .unset, .unset, .unset, .unset, .unset, .unset] [])) _
    refine XS.iload X0.here hx rfl (hb hby at_47) rfl ?_
    show Steps p.tables e below (s₁.setTop (mkF m 49 #[.val (.long q1), .second, .val (.long q2), .second, .val (.long q3), .second, .val (.long q4), .second, .val (.long q5), .second, .val (.long q6), .second, .val (.int v1), .val (.int v2), .val (.int v3), .val (.int v4), .unset, .unset, .unset, .unset, .unset, .unset, .unset, .unset, .unset, .unset, .unset, .unset, .unset, .unset] [(.int v2)])) _
    refine XS.lloadN X0.here hx rfl (hb hby at_49) rfl ?_
    show Steps p.tables e below (s₁.setTop (mkF m 50 #[.val (.long q1), .second, .val (.long q2), .second, .val (.long q3), .second, .val (.long q4), .second, .val (.long q5), .second, .val (.long q6), .second, .val (.int v1), .val (.int v2), .val (.int v3), .val (.int v4), .unset, .unset, .unset, .unset, .unset, .unset, .unset, .unset, .unset, .unset, .unset, .unset, .unset, .unset] [(.long q1), (.int v2)])) _
    refine XS.lloadN X0.here hx rfl (hb hby at_50) rfl ?_
    show Steps p.tables e below (s₁.setTop (mkF m 51 #[.val (.long q1), .second, .val (.long q2), .second, .val (.long q3), .second, .val (.long q4), .second, .val (.long q5), .second, .val (.long q6), .second, .val (.int v1), .val (.int v2), .val (.int v3), .val (.int v4), .unset, .unset, .unset, .unset, .unset, .unset, .unset, .unset, .unset, .unset, .unset, .unset, .unset, .unset] [(.long q2), (.long q1), (.int v2)])) _
    refine st5 _ ?_
    show Steps p.tables e below (T5.setTop (mkF m 54 #[.val (.long q1), .second, .val (.long q2), .second, .val (.long q3), .second, .val (.long q4), .second, .val (.long q5), .second, .val (.long q6), .second, .val (.int v1), .val (.int v2), .val (.int v3), .val (.int v4), .unset, .unset, .unset, .unset, .unset, .unset, .unset, .unset, .unset, .unset, .unset, .unset, .unset, .unset] [(.ref b1)])) _
    refine XS.astore X5.here hx rfl (hb hby at_54) rfl rfl (l' := #[.val (.long q1), .second, .val (.long q2), .second, .val (.long q3), .second, .val (.long q4), .second, .val (.long q5), .second, .val (.long q6), .second, .val (.int v1), .val (.int v2), .val (.int v3), .val (.int v4), .val (.ref b1), .unset, .unset, .unset, .unset, .unset, .unset, .unset, .unset, .unset, .unset, .unset, .unset, .unset]) rfl ?_
    show Steps p.tables e below (T5.setTop (mkF m 56 #[.val (.long q1), .second, .val (.long q2), .second, .val (.long q3), .second, .val (.long q4), .second, .val (.long q5), .second, .val (.long q6), .second, .val (.int v1), .val (.int v2), .val (.int v3), .val (.int v4), .val (.ref b1), .unset, .unset, .unset, .unset, .unset, .unset, .unset, .unset, .unset, .unset, .unset, .unset, .unset] [])) _
    refine XS.iload X5.here hx rfl (hb hby at_56) rfl ?_
    show Steps p.tables e below (T5.setTop (mkF m 58 #[.val (.long q1), .second, .val (.long q2), .second, .val (.long q3), .second, .val (.long q4), .second, .val (.long q5), .second, .val (.long q6), .second, .val (.int v1), .val (.int v2), .val (.int v3), .val (.int v4), .val (.ref b1), .unset, .unset, .unset, .unset, .unset, .unset, .unset, .unset, .unset, .unset, .unset, .unset, .unset] [(.int v3)])) _
    refine XS.lload X5.here hx rfl (hb hby at_58) rfl ?_
    show Steps p.tables e below (T5.setTop (mkF m 60 #[.val (.long q1), .second, .val (.long q2), .second, .val (.long q3), .second, .val (.long q4), .second, .val (.long q5), .second, .val (.long q6), .second, .val (.int v1), .val (.int v2), .val (.int v3), .val (.int v4), .val (.ref b1), .unset, .unset, .unset, .unset, .unset, .unset, .unset, .unset, .unset, .unset, .unset, .unset, .unset] [(.long q3), (.int v3)])) _
    refine XS.lload X5.here hx rfl (hb hby at_60) rfl ?_
    show Steps p.tables e below (T5.setTop (mkF m 62 #[.val (.long q1), .second, .val (.long q2), .second, .val (.long q3), .second, .val (.long q4), .second, .val (.long q5), .second, .val (.long q6), .second, .val (.int v1), .val (.int v2), .val (.int v3), .val (.int v4), .val (.ref b1), .unset, .unset, .unset, .unset, .unset, .unset, .unset, .unset, .unset, .unset, .unset, .unset, .unset] [(.long q4), (.long q3), (.int v3)])) _
    refine st6 _ ?_
    show Steps p.tables e below (T6.setTop (mkF m 65 #[.val (.long q1), .second, .val (.long q2), .second, .val (.long q3), .second, .val (.long q4), .second, .val (.long q5), .second, .val (.long q6), .second, .val (.int v1), .val (.int v2), .val (.int v3), .val (.int v4), .val (.ref b1), .unset, .unset, .unset, .unset, .unset, .unset, .unset, .unset, .unset, .unset, .unset, .unset, .unset] [(.ref b2)])) _
    refine XS.astore X6.here hx rfl (hb hby at_65) rfl rfl (l' := #[.val (.long q1), .second, .val (.long q2), .second, .val (.long q3), .second, .val (.long q4), .second, .val (.long q5), .second, .val (.long q6), .second, .val (.int v1), .val (.int v2), .val (.int v3), .val (.int v4), .val (.ref b1), .val (.ref b2), .unset, .unset, .unset, .unset, .unset, .unset, .unset, .unset, .unset, .unset, .unset, .unset]) rfl ?_
    show Steps p.tables e below (T6.setTop (mkF m 67 #[.val (.long q1), .second, .val (.long q2), .second, .val (.long q3), .second, .val (.long q4), .second, .val (.long q5), .second, .val (.long q6), .second, .val (.int v1), .val (.int v2), .val (.int v3), .val (.int v4), .val (.ref b1), .val (.ref b2), .unset, .unset, .unset, .unset, .unset, .unset, .unset, .unset, .unset, .unset, .unset, .unset] [])) _
    refine XS.iload X6.here hx rfl (hb hby at_67) rfl ?_
    show Steps p.tables e below (T6.setTop (mkF m 69 #[.val (.long q1), .second, .val (.long q2), .second, .val (.long q3), .second, .val (.long q4), .second, .val (.long q5), .second, .val (.long q6), .second, .val (.int v1), .val (.int v2), .val (.int v3), .val (.int v4), .val (.ref b1), .val (.ref b2), .unset, .unset, .unset, .unset, .unset, .unset, .unset, .unset, .unset, .unset, .unset, .unset] [(.int v4)])) _
    refine XS.lload X6.here hx rfl (hb hby at_69) rfl ?_
    show Steps p.tables e below (T6.setTop (mkF m 71 #[.val (.long q1), .second, .val (.long q2), .second, .val (.long q3), .second, .val (.long q4), .second, .val (.long q5), .second, .val (.long q6), .second, .val (.int v1), .val (.int v2), .val (.int v3), .val (.int v4), .val (.ref b1), .val (.ref b2), .unset, .unset, .unset, .unset, .unset, .unset, .unset, .unset, .unset, .unset, .unset, .unset] [(.long q5), (.int v4)])) _
    refine XS.lload X6.here hx rfl (hb hby at_71) rfl ?_
    show Steps p.tables e below (T6.setTop (mkF m 73 #[.val (.long q1), .second, .val (.long q2), .second, .val (.long q3), .second, .val (.long q4), .second, .val (.long q5), .second, .val (.long q6), .second, .val (.int v1), .val (.int v2), .val (.int v3), .val (.int v4), .val (.ref b1), .val (.ref b2), .unset, .unset, .unset, .unset, .unset, .unset, .unset, .unset, .unset, .unset, .unset, .unset] [(.long q6), (.long q5), (.int v4)])) _
    refine st7 _ ?_
    show Steps p.tables e below (T7.setTop (mkF m 76 #[.val (.long q1), .second, .val (.long q2), .second, .val (.long q3), .second, .val (.long q4), .second, .val (.long q5), .second, .val (.long q6), .second, .val (.int v1), .val (.int v2), .val (.int v3), .val (.int v4), .val (.ref b1), .val (.ref b2), .unset, .unset, .unset, .unset, .unset, .unset, .unset, .unset, .unset, .unset, .unset, .unset] [(.ref b3)])) _
    refine XS.astore X7.here hx rfl (hb hby at_76) rfl rfl (l' := #[.val (.long q1), .second, .val (.long q2), .second, .val (.long q3), .second, .val (.long q4), .second, .val (.long q5), .second, .val (.long q6), .second, .val (.int v1), .val (.int v2), .val (.int v3), .val (.int v4), .val (.ref b1), .val (.ref b2), .val (.ref b3), .unset, .unset, .unset, .unset, .unset, .unset, .unset, .unset, .unset, .unset, .unset]) rfl ?_
    show Steps p.tables e below (T7.setTop (mkF m 78 #[.val (.long q1), .second, .val (.long q2), .second, .val (.long q3), .second, .val (.long q4), .second, .val (.long q5), .second, .val (.long q6), .second, .val (.int v1), .val (.int v2), .val (.int v3), .val (.int v4), .val (.ref b1), .val (.ref b2), .val (.ref b3), .unset, .unset, .unset, .unset, .unset, .unset, .unset, .unset, .unset, .unset, .unset] [])) _
    refine XS.aload X7.here hx rfl (hb hby at_78) rfl rfl ?_
    show Steps p.tables e below (T7.setTop (mkF m 80 #[.val (.long q1), .second, .val (.long q2), .second, .val (.long q3), .second, .val (.long q4), .second, .val (.long q5), .second, .val (.long q6), .second, .val (.int v1), .val (.int v2), .val (.int v3), .val (.int v4), .val (.ref b1), .val (.ref b2), .val (.ref b3), .unset, .unset, .unset, .unset, .unset, .unset, .unset, .unset, .unset, .unset, .unset] [(.ref b1)])) _
    refine XS.aload X7.here hx rfl (hb hby at_80) rfl rfl ?_
    show Steps p.tables e below (T7.setTop (mkF m 82 #[.val (.long q1), .second, .val (.long q2), .second, .val (.long q3), .second, .val (.long q4), .second, .val (.long q5), .second, .val (.long q6), .second, .val (.int v1), .val (.int v2), .val (.int v3), .val (.int v4), .val (.ref b1), .val (.ref b2), .val (.ref b3), .unset, .unset, .unset, .unset, .unset, .unset, .unset, .unset, .unset, .unset, .unset] [(.ref b2), (.ref b1)])) _
    refine XS.aload X7.here hx rfl (hb hby at_82) rfl rfl ?_
    show Steps p.tables e below (T7.setTop (mkF m 84 #[.val (.long q1), .second, .val (.long q2), .second, .val (.long q3), .second, .val (.long q4), .second, .val (.long q5), .second, .val (.long q6), .second, .val (.int v1), .val (.int v2), .val (.int v3), .val (.int v4), .val (.ref b1), .val (.ref b2), .val (.ref b3), .unset, .unset, .unset, .unset, .unset, .unset, .unset, .unset, .unset, .unset, .unset] [(.ref b3), (.ref b2), (.ref b1)])) _
    refine st8 _ ?_
    show Steps p.tables e below (T8.setTop (mkF m 87 #[.val (.long q1), .second, .val (.long q2), .second, .val (.long q3), .second, .val (.long q4), .second, .val (.long q5), .second, .val (.long q6), .second, .val (.int v1), .val (.int v2), .val (.int v3), .val (.int v4), .val (.ref b1), .val (.ref b2), .val (.ref b3), .unset, .unset, .unset, .unset, .unset, .unset, .unset, .unset, .unset, .unset, .unset] [(.int (own_cov (own_lst v2 q1 q2) (own_lst v3 q3 q4) (own_lst v4 q5 q6)))])) _
    refine XS.istore X8.here hx rfl (hb hby at_87) rfl (l' := #[.val (.long q1), .second, .val (.long q2), .second, .val (.long q3), .second, .val (.long q4), .second, .val (.long q5), .second, .val (.long q6), .second, .val (.int v1), .val (.int v2), .val (.int v3), .val (.int v4), .val (.ref b1), .val (.ref b2), .val (.ref b3), .val (.int (own_cov (own_lst v2 q1 q2) (own_lst v3 q3 q4) (own_lst v4 q5 q6))), .unset, .unset, .unset, .unset, .unset, .unset, .unset, .unset, .unset, .unset]) rfl ?_
    show Steps p.tables e below (T8.setTop (mkF m 89 #[.val (.long q1), .second, .val (.long q2), .second, .val (.long q3), .second, .val (.long q4), .second, .val (.long q5), .second, .val (.long q6), .second, .val (.int v1), .val (.int v2), .val (.int v3), .val (.int v4), .val (.ref b1), .val (.ref b2), .val (.ref b3), .val (.int (own_cov (own_lst v2 q1 q2) (own_lst v3 q3 q4) (own_lst v4 q5 q6))), .unset, .unset, .unset, .unset, .unset, .unset, .unset, .unset, .unset, .unset] [])) _
    refine XS.iload X8.here hx rfl (hb hby at_89) rfl ?_
    show Steps p.tables e below (T8.setTop (mkF m 91 #[.val (.long q1), .second, .val (.long q2), .second, .val (.long q3), .second, .val (.long q4), .second, .val (.long q5), .second, .val (.long q6), .second, .val (.int v1), .val (.int v2), .val (.int v3), .val (.int v4), .val (.ref b1), .val (.ref b2), .val (.ref b3), .val (.int (own_cov (own_lst v2 q1 q2) (own_lst v3 q3 q4) (own_lst v4 q5 q6))), .unset, .unset, .unset, .unset, .unset, .unset, .unset, .unset, .unset, .unset] [(.int v3)])) _
    refine XS.iconst X8.here hx rfl (hb hby at_91) ?_
    have sg9 : ∀ t, Steps p.tables e below (T8.setTop (mkF m 101 #[.val (.long q1), .second, .val (.long q2), .second, .val (.long q3), .second, .val (.long q4), .second, .val (.long q5), .second, .val (.long q6), .second, .val (.int v1), .val (.int v2), .val (.int v3), .val (.int v4), .val (.ref b1), .val (.ref b2), .val (.ref b3), .val (.int (own_cov (own_lst v2 q1 q2) (own_lst v3 q3 q4) (own_lst v4 q5 q6))), .unset, .unset, .unset, .unset, .unset, .unset, .unset, .unset, .unset, .unset] [(.long v10)])) t → Steps p.tables e below (T8.setTop (mkF m 92 #[.val (.long q1), .second, .val (.long q2), .second, .val (.long q3), .second, .val (.long q4), .second, .val (.long q5), .second, .val (.long q6), .second, .val (.int v1), .val (.int v2), .val (.int v3), .val (.int v4), .val (.ref b1), .val (.ref b2), .val (.ref b3), .val (.int (own_cov (own_lst v2 q1 q2) (own_lst v3 q3 q4) (own_lst v4 q5 q6))), .unset, .unset, .unset, .unset, .unset, .unset, .unset, .unset, .unset, .unset] [(.int (1 : Int32)), (.int v3)])) t := by
      intro t k
      by_cases hc9 : (v3 < (1 : Int32))
      · rw [show v10 = (0 : Int64) from by rw [hv10, if_pos hc9]] at k
        show Steps p.tables e below (T8.setTop (mkF m 92 #[.val (.long q1), .second, .val (.long q2), .second, .val (.long q3), .second, .val (.long q4), .second, .val (.long q5), .second, .val (.long q6), .second, .val (.int v1), .val (.int v2), .val (.int v3), .val (.int v4), .val (.ref b1), .val (.ref b2), .val (.ref b3), .val (.int (own_cov (own_lst v2 q1 q2) (own_lst v3 q3 q4) (own_lst v4 q5 q6))), .unset, .unset, .unset, .unset, .unset, .unset, .unset, .unset, .unset, .unset] [(.int (1 : Int32)), (.int v3)])) _
        refine XS.icmpYes X8.here hx rfl (pc0 := 92) (pc' := 100) rfl (hb hby at_92) rfl (tlt hc9).1 (by decide) (by decide) ?_
        show Steps p.tables e below (T8.setTop (mkF m 100 #[.val (.long q1), .second, .val (.long q2), .second, .val (.long q3), .second, .val (.long q4), .second, .val (.long q5), .second, .val (.long q6), .second, .val (.int v1), .val (.int v2), .val (.int v3), .val (.int v4), .val (.ref b1), .val (.ref b2), .val (.ref b3), .val (.int (own_cov (own_lst v2 q1 q2) (own_lst v3 q3 q4) (own_lst v4 q5 q6))), .unset, .unset, .unset, .unset, .unset, .unset, .unset, .unset, .unset, .unset] [])) _
        refine XS.lconst X8.here hx rfl (hb hby at_100) ?_
        exact k
      · rw [show v10 = q3 from by rw [hv10, if_neg hc9]] at k
        show Steps p.tables e below (T8.setTop (mkF m 92 #[.val (.long q1), .second, .val (.long q2), .second, .val (.long q3), .second, .val (.long q4), .second, .val (.long q5), .second, .val (.long q6), .second, .val (.int v1), .val (.int v2), .val (.int v3), .val (.int v4), .val (.ref b1), .val (.ref b2), .val (.ref b3), .val (.int (own_cov (own_lst v2 q1 q2) (own_lst v3 q3 q4) (own_lst v4 q5 q6))), .unset, .unset, .unset, .unset, .unset, .unset, .unset, .unset, .unset, .unset] [(.int (1 : Int32)), (.int v3)])) _
        refine XS.icmpNo X8.here hx rfl (hb hby at_92) rfl (flt hc9).1 ?_
        show Steps p.tables e below (T8.setTop (mkF m 95 #[.val (.long q1), .second, .val (.long q2), .second, .val (.long q3), .second, .val (.long q4), .second, .val (.long q5), .second, .val (.long q6), .second, .val (.int v1), .val (.int v2), .val (.int v3), .val (.int v4), .val (.ref b1), .val (.ref b2), .val (.ref b3), .val (.int (own_cov (own_lst v2 q1 q2) (own_lst v3 q3 q4) (own_lst v4 q5 q6))), .unset, .unset, .unset, .unset, .unset, .unset, .unset, .unset, .unset, .unset] [])) _
        refine XS.lload X8.here hx rfl (hb hby at_95) rfl ?_
        show Steps p.tables e below (T8.setTop (mkF m 97 #[.val (.long q1), .second, .val (.long q2), .second, .val (.long q3), .second, .val (.long q4), .second, .val (.long q5), .second, .val (.long q6), .second, .val (.int v1), .val (.int v2), .val (.int v3), .val (.int v4), .val (.ref b1), .val (.ref b2), .val (.ref b3), .val (.int (own_cov (own_lst v2 q1 q2) (own_lst v3 q3 q4) (own_lst v4 q5 q6))), .unset, .unset, .unset, .unset, .unset, .unset, .unset, .unset, .unset, .unset] [(.long q3)])) _
        refine XS.goto X8.here hx rfl (pc0 := 97) (pc' := 101) rfl (hb hby at_97) (by decide) (by decide) ?_
        exact k
    refine sg9 _ ?_
    show Steps p.tables e below (T8.setTop (mkF m 101 #[.val (.long q1), .second, .val (.long q2), .second, .val (.long q3), .second, .val (.long q4), .second, .val (.long q5), .second, .val (.long q6), .second, .val (.int v1), .val (.int v2), .val (.int v3), .val (.int v4), .val (.ref b1), .val (.ref b2), .val (.ref b3), .val (.int (own_cov (own_lst v2 q1 q2) (own_lst v3 q3 q4) (own_lst v4 q5 q6))), .unset, .unset, .unset, .unset, .unset, .unset, .unset, .unset, .unset, .unset] [(.long v10)])) _
    refine XS.lstore X8.here hx rfl (hb hby at_101) rfl (l' := #[.val (.long q1), .second, .val (.long q2), .second, .val (.long q3), .second, .val (.long q4), .second, .val (.long q5), .second, .val (.long q6), .second, .val (.int v1), .val (.int v2), .val (.int v3), .val (.int v4), .val (.ref b1), .val (.ref b2), .val (.ref b3), .val (.int (own_cov (own_lst v2 q1 q2) (own_lst v3 q3 q4) (own_lst v4 q5 q6))), .val (.long v10), .second, .unset, .unset, .unset, .unset, .unset, .unset, .unset, .unset]) rfl ?_
    show Steps p.tables e below (T8.setTop (mkF m 103 #[.val (.long q1), .second, .val (.long q2), .second, .val (.long q3), .second, .val (.long q4), .second, .val (.long q5), .second, .val (.long q6), .second, .val (.int v1), .val (.int v2), .val (.int v3), .val (.int v4), .val (.ref b1), .val (.ref b2), .val (.ref b3), .val (.int (own_cov (own_lst v2 q1 q2) (own_lst v3 q3 q4) (own_lst v4 q5 q6))), .val (.long v10), .second, .unset, .unset, .unset, .unset, .unset, .unset, .unset, .unset] [])) _
    refine XS.iload X8.here hx rfl (hb hby at_103) rfl ?_
    show Steps p.tables e below (T8.setTop (mkF m 105 #[.val (.long q1), .second, .val (.long q2), .second, .val (.long q3), .second, .val (.long q4), .second, .val (.long q5), .second, .val (.long q6), .second, .val (.int v1), .val (.int v2), .val (.int v3), .val (.int v4), .val (.ref b1), .val (.ref b2), .val (.ref b3), .val (.int (own_cov (own_lst v2 q1 q2) (own_lst v3 q3 q4) (own_lst v4 q5 q6))), .val (.long v10), .second, .unset, .unset, .unset, .unset, .unset, .unset, .unset, .unset] [(.int v3)])) _
    refine XS.iconst X8.here hx rfl (hb hby at_105) ?_
    have sg11 : ∀ t, Steps p.tables e below (T8.setTop (mkF m 115 #[.val (.long q1), .second, .val (.long q2), .second, .val (.long q3), .second, .val (.long q4), .second, .val (.long q5), .second, .val (.long q6), .second, .val (.int v1), .val (.int v2), .val (.int v3), .val (.int v4), .val (.ref b1), .val (.ref b2), .val (.ref b3), .val (.int (own_cov (own_lst v2 q1 q2) (own_lst v3 q3 q4) (own_lst v4 q5 q6))), .val (.long v10), .second, .unset, .unset, .unset, .unset, .unset, .unset, .unset, .unset] [(.long v12)])) t → Steps p.tables e below (T8.setTop (mkF m 106 #[.val (.long q1), .second, .val (.long q2), .second, .val (.long q3), .second, .val (.long q4), .second, .val (.long q5), .second, .val (.long q6), .second, .val (.int v1), .val (.int v2), .val (.int v3), .val (.int v4), .val (.ref b1), .val (.ref b2), .val (.ref b3), .val (.int (own_cov (own_lst v2 q1 q2) (own_lst v3 q3 q4) (own_lst v4 q5 q6))), .val (.long v10), .second, .unset, .unset, .unset, .unset, .unset, .unset, .unset, .unset] [(.int (2 : Int32)), (.int v3)])) t := by
      intro t k
      by_cases hc11 : (v3 < (2 : Int32))
      · rw [show v12 = (0 : Int64) from by rw [hv12, if_pos hc11]] at k
        show Steps p.tables e below (T8.setTop (mkF m 106 #[.val (.long q1), .second, .val (.long q2), .second, .val (.long q3), .second, .val (.long q4), .second, .val (.long q5), .second, .val (.long q6), .second, .val (.int v1), .val (.int v2), .val (.int v3), .val (.int v4), .val (.ref b1), .val (.ref b2), .val (.ref b3), .val (.int (own_cov (own_lst v2 q1 q2) (own_lst v3 q3 q4) (own_lst v4 q5 q6))), .val (.long v10), .second, .unset, .unset, .unset, .unset, .unset, .unset, .unset, .unset] [(.int (2 : Int32)), (.int v3)])) _
        refine XS.icmpYes X8.here hx rfl (pc0 := 106) (pc' := 114) rfl (hb hby at_106) rfl (tlt hc11).1 (by decide) (by decide) ?_
        show Steps p.tables e below (T8.setTop (mkF m 114 #[.val (.long q1), .second, .val (.long q2), .second, .val (.long q3), .second, .val (.long q4), .second, .val (.long q5), .second, .val (.long q6), .second, .val (.int v1), .val (.int v2), .val (.int v3), .val (.int v4), .val (.ref b1), .val (.ref b2), .val (.ref b3), .val (.int (own_cov (own_lst v2 q1 q2) (own_lst v3 q3 q4) (own_lst v4 q5 q6))), .val (.long v10), .second, .unset, .unset, .unset, .unset, .unset, .unset, .unset, .unset] [])) _
        refine XS.lconst X8.here hx rfl (hb hby at_114) ?_
        exact k
      · rw [show v12 = q4 from by rw [hv12, if_neg hc11]] at k
        show Steps p.tables e below (T8.setTop (mkF m 106 #[.val (.long q1), .second, .val (.long q2), .second, .val (.long q3), .second, .val (.long q4), .second, .val (.long q5), .second, .val (.long q6), .second, .val (.int v1), .val (.int v2), .val (.int v3), .val (.int v4), .val (.ref b1), .val (.ref b2), .val (.ref b3), .val (.int (own_cov (own_lst v2 q1 q2) (own_lst v3 q3 q4) (own_lst v4 q5 q6))), .val (.long v10), .second, .unset, .unset, .unset, .unset, .unset, .unset, .unset, .unset] [(.int (2 : Int32)), (.int v3)])) _
        refine XS.icmpNo X8.here hx rfl (hb hby at_106) rfl (flt hc11).1 ?_
        show Steps p.tables e below (T8.setTop (mkF m 109 #[.val (.long q1), .second, .val (.long q2), .second, .val (.long q3), .second, .val (.long q4), .second, .val (.long q5), .second, .val (.long q6), .second, .val (.int v1), .val (.int v2), .val (.int v3), .val (.int v4), .val (.ref b1), .val (.ref b2), .val (.ref b3), .val (.int (own_cov (own_lst v2 q1 q2) (own_lst v3 q3 q4) (own_lst v4 q5 q6))), .val (.long v10), .second, .unset, .unset, .unset, .unset, .unset, .unset, .unset, .unset] [])) _
        refine XS.lload X8.here hx rfl (hb hby at_109) rfl ?_
        show Steps p.tables e below (T8.setTop (mkF m 111 #[.val (.long q1), .second, .val (.long q2), .second, .val (.long q3), .second, .val (.long q4), .second, .val (.long q5), .second, .val (.long q6), .second, .val (.int v1), .val (.int v2), .val (.int v3), .val (.int v4), .val (.ref b1), .val (.ref b2), .val (.ref b3), .val (.int (own_cov (own_lst v2 q1 q2) (own_lst v3 q3 q4) (own_lst v4 q5 q6))), .val (.long v10), .second, .unset, .unset, .unset, .unset, .unset, .unset, .unset, .unset] [(.long q4)])) _
        refine XS.goto X8.here hx rfl (pc0 := 111) (pc' := 115) rfl (hb hby at_111) (by decide) (by decide) ?_
        exact k
    refine sg11 _ ?_
    show Steps p.tables e below (T8.setTop (mkF m 115 #[.val (.long q1), .second, .val (.long q2), .second, .val (.long q3), .second, .val (.long q4), .second, .val (.long q5), .second, .val (.long q6), .second, .val (.int v1), .val (.int v2), .val (.int v3), .val (.int v4), .val (.ref b1), .val (.ref b2), .val (.ref b3), .val (.int (own_cov (own_lst v2 q1 q2) (own_lst v3 q3 q4) (own_lst v4 q5 q6))), .val (.long v10), .second, .unset, .unset, .unset, .unset, .unset, .unset, .unset, .unset] [(.long v12)])) _
    refine XS.lstore X8.here hx rfl (hb hby at_115) rfl (l' := #[.val (.long q1), .second, .val (.long q2), .second, .val (.long q3), .second, .val (.long q4), .second, .val (.long q5), .second, .val (.long q6), .second, .val (.int v1), .val (.int v2), .val (.int v3), .val (.int v4), .val (.ref b1), .val (.ref b2), .val (.ref b3), .val (.int (own_cov (own_lst v2 q1 q2) (own_lst v3 q3 q4) (own_lst v4 q5 q6))), .val (.long v10), .second, .val (.long v12), .second, .unset, .unset, .unset, .unset, .unset, .unset]) rfl ?_
    show Steps p.tables e below (T8.setTop (mkF m 117 #[.val (.long q1), .second, .val (.long q2), .second, .val (.long q3), .second, .val (.long q4), .second, .val (.long q5), .second, .val (.long q6), .second, .val (.int v1), .val (.int v2), .val (.int v3), .val (.int v4), .val (.ref b1), .val (.ref b2), .val (.ref b3), .val (.int (own_cov (own_lst v2 q1 q2) (own_lst v3 q3 q4) (own_lst v4 q5 q6))), .val (.long v10), .second, .val (.long v12), .second, .unset, .unset, .unset, .unset, .unset, .unset] [])) _
    refine XS.iload X8.here hx rfl (hb hby at_117) rfl ?_
    show Steps p.tables e below (T8.setTop (mkF m 119 #[.val (.long q1), .second, .val (.long q2), .second, .val (.long q3), .second, .val (.long q4), .second, .val (.long q5), .second, .val (.long q6), .second, .val (.int v1), .val (.int v2), .val (.int v3), .val (.int v4), .val (.ref b1), .val (.ref b2), .val (.ref b3), .val (.int (own_cov (own_lst v2 q1 q2) (own_lst v3 q3 q4) (own_lst v4 q5 q6))), .val (.long v10), .second, .val (.long v12), .second, .unset, .unset, .unset, .unset, .unset, .unset] [(.int v4)])) _
    refine XS.iconst X8.here hx rfl (hb hby at_119) ?_
    have sg13 : ∀ t, Steps p.tables e below (T8.setTop (mkF m 129 #[.val (.long q1), .second, .val (.long q2), .second, .val (.long q3), .second, .val (.long q4), .second, .val (.long q5), .second, .val (.long q6), .second, .val (.int v1), .val (.int v2), .val (.int v3), .val (.int v4), .val (.ref b1), .val (.ref b2), .val (.ref b3), .val (.int (own_cov (own_lst v2 q1 q2) (own_lst v3 q3 q4) (own_lst v4 q5 q6))), .val (.long v10), .second, .val (.long v12), .second, .unset, .unset, .unset, .unset, .unset, .unset] [(.long v14)])) t → Steps p.tables e below (T8.setTop (mkF m 120 #[.val (.long q1), .second, .val (.long q2), .second, .val (.long q3), .second, .val (.long q4), .second, .val (.long q5), .second, .val (.long q6), .second, .val (.int v1), .val (.int v2), .val (.int v3), .val (.int v4), .val (.ref b1), .val (.ref b2), .val (.ref b3), .val (.int (own_cov (own_lst v2 q1 q2) (own_lst v3 q3 q4) (own_lst v4 q5 q6))), .val (.long v10), .second, .val (.long v12), .second, .unset, .unset, .unset, .unset, .unset, .unset] [(.int (1 : Int32)), (.int v4)])) t := by
      intro t k
      by_cases hc13 : (v4 < (1 : Int32))
      · rw [show v14 = (0 : Int64) from by rw [hv14, if_pos hc13]] at k
        show Steps p.tables e below (T8.setTop (mkF m 120 #[.val (.long q1), .second, .val (.long q2), .second, .val (.long q3), .second, .val (.long q4), .second, .val (.long q5), .second, .val (.long q6), .second, .val (.int v1), .val (.int v2), .val (.int v3), .val (.int v4), .val (.ref b1), .val (.ref b2), .val (.ref b3), .val (.int (own_cov (own_lst v2 q1 q2) (own_lst v3 q3 q4) (own_lst v4 q5 q6))), .val (.long v10), .second, .val (.long v12), .second, .unset, .unset, .unset, .unset, .unset, .unset] [(.int (1 : Int32)), (.int v4)])) _
        refine XS.icmpYes X8.here hx rfl (pc0 := 120) (pc' := 128) rfl (hb hby at_120) rfl (tlt hc13).1 (by decide) (by decide) ?_
        show Steps p.tables e below (T8.setTop (mkF m 128 #[.val (.long q1), .second, .val (.long q2), .second, .val (.long q3), .second, .val (.long q4), .second, .val (.long q5), .second, .val (.long q6), .second, .val (.int v1), .val (.int v2), .val (.int v3), .val (.int v4), .val (.ref b1), .val (.ref b2), .val (.ref b3), .val (.int (own_cov (own_lst v2 q1 q2) (own_lst v3 q3 q4) (own_lst v4 q5 q6))), .val (.long v10), .second, .val (.long v12), .second, .unset, .unset, .unset, .unset, .unset, .unset] [])) _
        refine XS.lconst X8.here hx rfl (hb hby at_128) ?_
        exact k
      · rw [show v14 = q5 from by rw [hv14, if_neg hc13]] at k
        show Steps p.tables e below (T8.setTop (mkF m 120 #[.val (.long q1), .second, .val (.long q2), .second, .val (.long q3), .second, .val (.long q4), .second, .val (.long q5), .second, .val (.long q6), .second, .val (.int v1), .val (.int v2), .val (.int v3), .val (.int v4), .val (.ref b1), .val (.ref b2), .val (.ref b3), .val (.int (own_cov (own_lst v2 q1 q2) (own_lst v3 q3 q4) (own_lst v4 q5 q6))), .val (.long v10), .second, .val (.long v12), .second, .unset, .unset, .unset, .unset, .unset, .unset] [(.int (1 : Int32)), (.int v4)])) _
        refine XS.icmpNo X8.here hx rfl (hb hby at_120) rfl (flt hc13).1 ?_
        show Steps p.tables e below (T8.setTop (mkF m 123 #[.val (.long q1), .second, .val (.long q2), .second, .val (.long q3), .second, .val (.long q4), .second, .val (.long q5), .second, .val (.long q6), .second, .val (.int v1), .val (.int v2), .val (.int v3), .val (.int v4), .val (.ref b1), .val (.ref b2), .val (.ref b3), .val (.int (own_cov (own_lst v2 q1 q2) (own_lst v3 q3 q4) (own_lst v4 q5 q6))), .val (.long v10), .second, .val (.long v12), .second, .unset, .unset, .unset, .unset, .unset, .unset] [])) _
        refine XS.lload X8.here hx rfl (hb hby at_123) rfl ?_
        show Steps p.tables e below (T8.setTop (mkF m 125 #[.val (.long q1), .second, .val (.long q2), .second, .val (.long q3), .second, .val (.long q4), .second, .val (.long q5), .second, .val (.long q6), .second, .val (.int v1), .val (.int v2), .val (.int v3), .val (.int v4), .val (.ref b1), .val (.ref b2), .val (.ref b3), .val (.int (own_cov (own_lst v2 q1 q2) (own_lst v3 q3 q4) (own_lst v4 q5 q6))), .val (.long v10), .second, .val (.long v12), .second, .unset, .unset, .unset, .unset, .unset, .unset] [(.long q5)])) _
        refine XS.goto X8.here hx rfl (pc0 := 125) (pc' := 129) rfl (hb hby at_125) (by decide) (by decide) ?_
        exact k
    refine sg13 _ ?_
    show Steps p.tables e below (T8.setTop (mkF m 129 #[.val (.long q1), .second, .val (.long q2), .second, .val (.long q3), .second, .val (.long q4), .second, .val (.long q5), .second, .val (.long q6), .second, .val (.int v1), .val (.int v2), .val (.int v3), .val (.int v4), .val (.ref b1), .val (.ref b2), .val (.ref b3), .val (.int (own_cov (own_lst v2 q1 q2) (own_lst v3 q3 q4) (own_lst v4 q5 q6))), .val (.long v10), .second, .val (.long v12), .second, .unset, .unset, .unset, .unset, .unset, .unset] [(.long v14)])) _
    refine XS.lstore X8.here hx rfl (hb hby at_129) rfl (l' := #[.val (.long q1), .second, .val (.long q2), .second, .val (.long q3), .second, .val (.long q4), .second, .val (.long q5), .second, .val (.long q6), .second, .val (.int v1), .val (.int v2), .val (.int v3), .val (.int v4), .val (.ref b1), .val (.ref b2), .val (.ref b3), .val (.int (own_cov (own_lst v2 q1 q2) (own_lst v3 q3 q4) (own_lst v4 q5 q6))), .val (.long v10), .second, .val (.long v12), .second, .val (.long v14), .second, .unset, .unset, .unset, .unset]) rfl ?_
    show Steps p.tables e below (T8.setTop (mkF m 131 #[.val (.long q1), .second, .val (.long q2), .second, .val (.long q3), .second, .val (.long q4), .second, .val (.long q5), .second, .val (.long q6), .second, .val (.int v1), .val (.int v2), .val (.int v3), .val (.int v4), .val (.ref b1), .val (.ref b2), .val (.ref b3), .val (.int (own_cov (own_lst v2 q1 q2) (own_lst v3 q3 q4) (own_lst v4 q5 q6))), .val (.long v10), .second, .val (.long v12), .second, .val (.long v14), .second, .unset, .unset, .unset, .unset] [])) _
    refine XS.iload X8.here hx rfl (hb hby at_131) rfl ?_
    show Steps p.tables e below (T8.setTop (mkF m 133 #[.val (.long q1), .second, .val (.long q2), .second, .val (.long q3), .second, .val (.long q4), .second, .val (.long q5), .second, .val (.long q6), .second, .val (.int v1), .val (.int v2), .val (.int v3), .val (.int v4), .val (.ref b1), .val (.ref b2), .val (.ref b3), .val (.int (own_cov (own_lst v2 q1 q2) (own_lst v3 q3 q4) (own_lst v4 q5 q6))), .val (.long v10), .second, .val (.long v12), .second, .val (.long v14), .second, .unset, .unset, .unset, .unset] [(.int v4)])) _
    refine XS.iconst X8.here hx rfl (hb hby at_133) ?_
    have sg15 : ∀ t, Steps p.tables e below (T8.setTop (mkF m 143 #[.val (.long q1), .second, .val (.long q2), .second, .val (.long q3), .second, .val (.long q4), .second, .val (.long q5), .second, .val (.long q6), .second, .val (.int v1), .val (.int v2), .val (.int v3), .val (.int v4), .val (.ref b1), .val (.ref b2), .val (.ref b3), .val (.int (own_cov (own_lst v2 q1 q2) (own_lst v3 q3 q4) (own_lst v4 q5 q6))), .val (.long v10), .second, .val (.long v12), .second, .val (.long v14), .second, .unset, .unset, .unset, .unset] [(.long v16)])) t → Steps p.tables e below (T8.setTop (mkF m 134 #[.val (.long q1), .second, .val (.long q2), .second, .val (.long q3), .second, .val (.long q4), .second, .val (.long q5), .second, .val (.long q6), .second, .val (.int v1), .val (.int v2), .val (.int v3), .val (.int v4), .val (.ref b1), .val (.ref b2), .val (.ref b3), .val (.int (own_cov (own_lst v2 q1 q2) (own_lst v3 q3 q4) (own_lst v4 q5 q6))), .val (.long v10), .second, .val (.long v12), .second, .val (.long v14), .second, .unset, .unset, .unset, .unset] [(.int (2 : Int32)), (.int v4)])) t := by
      intro t k
      by_cases hc15 : (v4 < (2 : Int32))
      · rw [show v16 = (0 : Int64) from by rw [hv16, if_pos hc15]] at k
        show Steps p.tables e below (T8.setTop (mkF m 134 #[.val (.long q1), .second, .val (.long q2), .second, .val (.long q3), .second, .val (.long q4), .second, .val (.long q5), .second, .val (.long q6), .second, .val (.int v1), .val (.int v2), .val (.int v3), .val (.int v4), .val (.ref b1), .val (.ref b2), .val (.ref b3), .val (.int (own_cov (own_lst v2 q1 q2) (own_lst v3 q3 q4) (own_lst v4 q5 q6))), .val (.long v10), .second, .val (.long v12), .second, .val (.long v14), .second, .unset, .unset, .unset, .unset] [(.int (2 : Int32)), (.int v4)])) _
        refine XS.icmpYes X8.here hx rfl (pc0 := 134) (pc' := 142) rfl (hb hby at_134) rfl (tlt hc15).1 (by decide) (by decide) ?_
        show Steps p.tables e below (T8.setTop (mkF m 142 #[.val (.long q1), .second, .val (.long q2), .second, .val (.long q3), .second, .val (.long q4), .second, .val (.long q5), .second, .val (.long q6), .second, .val (.int v1), .val (.int v2), .val (.int v3), .val (.int v4), .val (.ref b1), .val (.ref b2), .val (.ref b3), .val (.int (own_cov (own_lst v2 q1 q2) (own_lst v3 q3 q4) (own_lst v4 q5 q6))), .val (.long v10), .second, .val (.long v12), .second, .val (.long v14), .second, .unset, .unset, .unset, .unset] [])) _
        refine XS.lconst X8.here hx rfl (hb hby at_142) ?_
        exact k
      · rw [show v16 = q6 from by rw [hv16, if_neg hc15]] at k
        show Steps p.tables e below (T8.setTop (mkF m 134 #[.val (.long q1), .second, .val (.long q2), .second, .val (.long q3), .second, .val (.long q4), .second, .val (.long q5), .second, .val (.long q6), .second, .val (.int v1), .val (.int v2), .val (.int v3), .val (.int v4), .val (.ref b1), .val (.ref b2), .val (.ref b3), .val (.int (own_cov (own_lst v2 q1 q2) (own_lst v3 q3 q4) (own_lst v4 q5 q6))), .val (.long v10), .second, .val (.long v12), .second, .val (.long v14), .second, .unset, .unset, .unset, .unset] [(.int (2 : Int32)), (.int v4)])) _
        refine XS.icmpNo X8.here hx rfl (hb hby at_134) rfl (flt hc15).1 ?_
        show Steps p.tables e below (T8.setTop (mkF m 137 #[.val (.long q1), .second, .val (.long q2), .second, .val (.long q3), .second, .val (.long q4), .second, .val (.long q5), .second, .val (.long q6), .second, .val (.int v1), .val (.int v2), .val (.int v3), .val (.int v4), .val (.ref b1), .val (.ref b2), .val (.ref b3), .val (.int (own_cov (own_lst v2 q1 q2) (own_lst v3 q3 q4) (own_lst v4 q5 q6))), .val (.long v10), .second, .val (.long v12), .second, .val (.long v14), .second, .unset, .unset, .unset, .unset] [])) _
        refine XS.lload X8.here hx rfl (hb hby at_137) rfl ?_
        show Steps p.tables e below (T8.setTop (mkF m 139 #[.val (.long q1), .second, .val (.long q2), .second, .val (.long q3), .second, .val (.long q4), .second, .val (.long q5), .second, .val (.long q6), .second, .val (.int v1), .val (.int v2), .val (.int v3), .val (.int v4), .val (.ref b1), .val (.ref b2), .val (.ref b3), .val (.int (own_cov (own_lst v2 q1 q2) (own_lst v3 q3 q4) (own_lst v4 q5 q6))), .val (.long v10), .second, .val (.long v12), .second, .val (.long v14), .second, .unset, .unset, .unset, .unset] [(.long q6)])) _
        refine XS.goto X8.here hx rfl (pc0 := 139) (pc' := 143) rfl (hb hby at_139) (by decide) (by decide) ?_
        exact k
    refine sg15 _ ?_
    show Steps p.tables e below (T8.setTop (mkF m 143 #[.val (.long q1), .second, .val (.long q2), .second, .val (.long q3), .second, .val (.long q4), .second, .val (.long q5), .second, .val (.long q6), .second, .val (.int v1), .val (.int v2), .val (.int v3), .val (.int v4), .val (.ref b1), .val (.ref b2), .val (.ref b3), .val (.int (own_cov (own_lst v2 q1 q2) (own_lst v3 q3 q4) (own_lst v4 q5 q6))), .val (.long v10), .second, .val (.long v12), .second, .val (.long v14), .second, .unset, .unset, .unset, .unset] [(.long v16)])) _
    refine XS.lstore X8.here hx rfl (hb hby at_143) rfl (l' := #[.val (.long q1), .second, .val (.long q2), .second, .val (.long q3), .second, .val (.long q4), .second, .val (.long q5), .second, .val (.long q6), .second, .val (.int v1), .val (.int v2), .val (.int v3), .val (.int v4), .val (.ref b1), .val (.ref b2), .val (.ref b3), .val (.int (own_cov (own_lst v2 q1 q2) (own_lst v3 q3 q4) (own_lst v4 q5 q6))), .val (.long v10), .second, .val (.long v12), .second, .val (.long v14), .second, .val (.long v16), .second, .unset, .unset]) rfl ?_
    show Steps p.tables e below (T8.setTop (mkF m 145 #[.val (.long q1), .second, .val (.long q2), .second, .val (.long q3), .second, .val (.long q4), .second, .val (.long q5), .second, .val (.long q6), .second, .val (.int v1), .val (.int v2), .val (.int v3), .val (.int v4), .val (.ref b1), .val (.ref b2), .val (.ref b3), .val (.int (own_cov (own_lst v2 q1 q2) (own_lst v3 q3 q4) (own_lst v4 q5 q6))), .val (.long v10), .second, .val (.long v12), .second, .val (.long v14), .second, .val (.long v16), .second, .unset, .unset] [])) _
    refine XS.iload X8.here hx rfl (hb hby at_145) rfl ?_
    show Steps p.tables e below (T8.setTop (mkF m 147 #[.val (.long q1), .second, .val (.long q2), .second, .val (.long q3), .second, .val (.long q4), .second, .val (.long q5), .second, .val (.long q6), .second, .val (.int v1), .val (.int v2), .val (.int v3), .val (.int v4), .val (.ref b1), .val (.ref b2), .val (.ref b3), .val (.int (own_cov (own_lst v2 q1 q2) (own_lst v3 q3 q4) (own_lst v4 q5 q6))), .val (.long v10), .second, .val (.long v12), .second, .val (.long v14), .second, .val (.long v16), .second, .unset, .unset] [(.int v2)])) _
    refine XS.iconst X8.here hx rfl (hb hby at_147) ?_
    have sg17 : ∀ t, Steps p.tables e below (T8.setTop (mkF m 173 #[.val (.long q1), .second, .val (.long q2), .second, .val (.long q3), .second, .val (.long q4), .second, .val (.long q5), .second, .val (.long q6), .second, .val (.int v1), .val (.int v2), .val (.int v3), .val (.int v4), .val (.ref b1), .val (.ref b2), .val (.ref b3), .val (.int (own_cov (own_lst v2 q1 q2) (own_lst v3 q3 q4) (own_lst v4 q5 q6))), .val (.long v10), .second, .val (.long v12), .second, .val (.long v14), .second, .val (.long v16), .second, .unset, .unset] [(.int v20)])) t → Steps p.tables e below (T8.setTop (mkF m 148 #[.val (.long q1), .second, .val (.long q2), .second, .val (.long q3), .second, .val (.long q4), .second, .val (.long q5), .second, .val (.long q6), .second, .val (.int v1), .val (.int v2), .val (.int v3), .val (.int v4), .val (.ref b1), .val (.ref b2), .val (.ref b3), .val (.int (own_cov (own_lst v2 q1 q2) (own_lst v3 q3 q4) (own_lst v4 q5 q6))), .val (.long v10), .second, .val (.long v12), .second, .val (.long v14), .second, .val (.long v16), .second, .unset, .unset] [(.int (1 : Int32)), (.int v2)])) t := by
      intro t k
      by_cases hc17 : (v2 < (1 : Int32))
      · rw [show v20 = (1 : Int32) from by rw [hv20, if_pos hc17]] at k
        show Steps p.tables e below (T8.setTop (mkF m 148 #[.val (.long q1), .second, .val (.long q2), .second, .val (.long q3), .second, .val (.long q4), .second, .val (.long q5), .second, .val (.long q6), .second, .val (.int v1), .val (.int v2), .val (.int v3), .val (.int v4), .val (.ref b1), .val (.ref b2), .val (.ref b3), .val (.int (own_cov (own_lst v2 q1 q2) (own_lst v3 q3 q4) (own_lst v4 q5 q6))), .val (.long v10), .second, .val (.long v12), .second, .val (.long v14), .second, .val (.long v16), .second, .unset, .unset] [(.int (1 : Int32)), (.int v2)])) _
        refine XS.icmpYes X8.here hx rfl (pc0 := 148) (pc' := 168) rfl (hb hby at_148) rfl (tlt hc17).1 (by decide) (by decide) ?_
        show Steps p.tables e below (T8.setTop (mkF m 168 #[.val (.long q1), .second, .val (.long q2), .second, .val (.long q3), .second, .val (.long q4), .second, .val (.long q5), .second, .val (.long q6), .second, .val (.int v1), .val (.int v2), .val (.int v3), .val (.int v4), .val (.ref b1), .val (.ref b2), .val (.ref b3), .val (.int (own_cov (own_lst v2 q1 q2) (own_lst v3 q3 q4) (own_lst v4 q5 q6))), .val (.long v10), .second, .val (.long v12), .second, .val (.long v14), .second, .val (.long v16), .second, .unset, .unset] [])) _
        refine XS.iconst X8.here hx rfl (hb hby at_168) ?_
        show Steps p.tables e below (T8.setTop (mkF m 169 #[.val (.long q1), .second, .val (.long q2), .second, .val (.long q3), .second, .val (.long q4), .second, .val (.long q5), .second, .val (.long q6), .second, .val (.int v1), .val (.int v2), .val (.int v3), .val (.int v4), .val (.ref b1), .val (.ref b2), .val (.ref b3), .val (.int (own_cov (own_lst v2 q1 q2) (own_lst v3 q3 q4) (own_lst v4 q5 q6))), .val (.long v10), .second, .val (.long v12), .second, .val (.long v14), .second, .val (.long v16), .second, .unset, .unset] [(.int (1 : Int32))])) _
        refine XS.goto X8.here hx rfl (pc0 := 169) (pc' := 173) rfl (hb hby at_169) (by decide) (by decide) ?_
        exact k
      · rw [show v20 = v19 from by rw [hv20, if_neg hc17]] at k
        show Steps p.tables e below (T8.setTop (mkF m 148 #[.val (.long q1), .second, .val (.long q2), .second, .val (.long q3), .second, .val (.long q4), .second, .val (.long q5), .second, .val (.long q6), .second, .val (.int v1), .val (.int v2), .val (.int v3), .val (.int v4), .val (.ref b1), .val (.ref b2), .val (.ref b3), .val (.int (own_cov (own_lst v2 q1 q2) (own_lst v3 q3 q4) (own_lst v4 q5 q6))), .val (.long v10), .second, .val (.long v12), .second, .val (.long v14), .second, .val (.long v16), .second, .unset, .unset] [(.int (1 : Int32)), (.int v2)])) _
        refine XS.icmpNo X8.here hx rfl (hb hby at_148) rfl (flt hc17).1 ?_
        show Steps p.tables e below (T8.setTop (mkF m 151 #[.val (.long q1), .second, .val (.long q2), .second, .val (.long q3), .second, .val (.long q4), .second, .val (.long q5), .second, .val (.long q6), .second, .val (.int v1), .val (.int v2), .val (.int v3), .val (.int v4), .val (.ref b1), .val (.ref b2), .val (.ref b3), .val (.int (own_cov (own_lst v2 q1 q2) (own_lst v3 q3 q4) (own_lst v4 q5 q6))), .val (.long v10), .second, .val (.long v12), .second, .val (.long v14), .second, .val (.long v16), .second, .unset, .unset] [])) _
        refine XS.lloadN X8.here hx rfl (hb hby at_151) rfl ?_
        show Steps p.tables e below (T8.setTop (mkF m 152 #[.val (.long q1), .second, .val (.long q2), .second, .val (.long q3), .second, .val (.long q4), .second, .val (.long q5), .second, .val (.long q6), .second, .val (.int v1), .val (.int v2), .val (.int v3), .val (.int v4), .val (.ref b1), .val (.ref b2), .val (.ref b3), .val (.int (own_cov (own_lst v2 q1 q2) (own_lst v3 q3 q4) (own_lst v4 q5 q6))), .val (.long v10), .second, .val (.long v12), .second, .val (.long v14), .second, .val (.long v16), .second, .unset, .unset] [(.long q1)])) _
        refine XS.lload X8.here hx rfl (hb hby at_152) rfl ?_
        show Steps p.tables e below (T8.setTop (mkF m 154 #[.val (.long q1), .second, .val (.long q2), .second, .val (.long q3), .second, .val (.long q4), .second, .val (.long q5), .second, .val (.long q6), .second, .val (.int v1), .val (.int v2), .val (.int v3), .val (.int v4), .val (.ref b1), .val (.ref b2), .val (.ref b3), .val (.int (own_cov (own_lst v2 q1 q2) (own_lst v3 q3 q4) (own_lst v4 q5 q6))), .val (.long v10), .second, .val (.long v12), .second, .val (.long v14), .second, .val (.long v16), .second, .unset, .unset] [(.long v10), (.long q1)])) _
        refine X8.ldc2Long hx hown (mvT hZ (hw _ (List.mem_of_getElem? (i := 12) rfl))) (g := (mkF m 154 #[.val (.long q1), .second, .val (.long q2), .second, .val (.long q3), .second, .val (.long q4), .second, .val (.long q5), .second, .val (.long q6), .second, .val (.int v1), .val (.int v2), .val (.int v3), .val (.int v4), .val (.ref b1), .val (.ref b2), .val (.ref b3), .val (.int (own_cov (own_lst v2 q1 q2) (own_lst v3 q3 q4) (own_lst v4 q5 q6))), .val (.long v10), .second, .val (.long v12), .second, .val (.long v14), .second, .val (.long v16), .second, .unset, .unset] [(.long v10), (.long q1)])) rfl (hb hby at_154) _ ?_
        show Steps p.tables e below (T8.setTop (mkF m 157 #[.val (.long q1), .second, .val (.long q2), .second, .val (.long q3), .second, .val (.long q4), .second, .val (.long q5), .second, .val (.long q6), .second, .val (.int v1), .val (.int v2), .val (.int v3), .val (.int v4), .val (.ref b1), .val (.ref b2), .val (.ref b3), .val (.int (own_cov (own_lst v2 q1 q2) (own_lst v3 q3 q4) (own_lst v4 q5 q6))), .val (.long v10), .second, .val (.long v12), .second, .val (.long v14), .second, .val (.long v16), .second, .unset, .unset] [(.long (-1 : Int64)), (.long v10), (.long q1)])) _
        refine XS.lxor X8.here hx rfl (hb hby at_157) rfl ?_
        show Steps p.tables e below (T8.setTop (mkF m 158 #[.val (.long q1), .second, .val (.long q2), .second, .val (.long q3), .second, .val (.long q4), .second, .val (.long q5), .second, .val (.long q6), .second, .val (.int v1), .val (.int v2), .val (.int v3), .val (.int v4), .val (.ref b1), .val (.ref b2), .val (.ref b3), .val (.int (own_cov (own_lst v2 q1 q2) (own_lst v3 q3 q4) (own_lst v4 q5 q6))), .val (.long v10), .second, .val (.long v12), .second, .val (.long v14), .second, .val (.long v16), .second, .unset, .unset] [(.long (v10 ^^^ (-1 : Int64))), (.long q1)])) _
        refine XS.land X8.here hx rfl (hb hby at_158) rfl ?_
        show Steps p.tables e below (T8.setTop (mkF m 159 #[.val (.long q1), .second, .val (.long q2), .second, .val (.long q3), .second, .val (.long q4), .second, .val (.long q5), .second, .val (.long q6), .second, .val (.int v1), .val (.int v2), .val (.int v3), .val (.int v4), .val (.ref b1), .val (.ref b2), .val (.ref b3), .val (.int (own_cov (own_lst v2 q1 q2) (own_lst v3 q3 q4) (own_lst v4 q5 q6))), .val (.long v10), .second, .val (.long v12), .second, .val (.long v14), .second, .val (.long v16), .second, .unset, .unset] [(.long (q1 &&& (v10 ^^^ (-1 : Int64))))])) _
        refine XS.lload X8.here hx rfl (hb hby at_159) rfl ?_
        show Steps p.tables e below (T8.setTop (mkF m 161 #[.val (.long q1), .second, .val (.long q2), .second, .val (.long q3), .second, .val (.long q4), .second, .val (.long q5), .second, .val (.long q6), .second, .val (.int v1), .val (.int v2), .val (.int v3), .val (.int v4), .val (.ref b1), .val (.ref b2), .val (.ref b3), .val (.int (own_cov (own_lst v2 q1 q2) (own_lst v3 q3 q4) (own_lst v4 q5 q6))), .val (.long v10), .second, .val (.long v12), .second, .val (.long v14), .second, .val (.long v16), .second, .unset, .unset] [(.long v14), (.long (q1 &&& (v10 ^^^ (-1 : Int64))))])) _
        refine XS.lor X8.here hx rfl (hb hby at_161) rfl ?_
        show Steps p.tables e below (T8.setTop (mkF m 162 #[.val (.long q1), .second, .val (.long q2), .second, .val (.long q3), .second, .val (.long q4), .second, .val (.long q5), .second, .val (.long q6), .second, .val (.int v1), .val (.int v2), .val (.int v3), .val (.int v4), .val (.ref b1), .val (.ref b2), .val (.ref b3), .val (.int (own_cov (own_lst v2 q1 q2) (own_lst v3 q3 q4) (own_lst v4 q5 q6))), .val (.long v10), .second, .val (.long v12), .second, .val (.long v14), .second, .val (.long v16), .second, .unset, .unset] [(.long ((q1 &&& (v10 ^^^ (-1 : Int64))) ||| v14))])) _
        refine XS.lload X8.here hx rfl (hb hby at_162) rfl ?_
        show Steps p.tables e below (T8.setTop (mkF m 164 #[.val (.long q1), .second, .val (.long q2), .second, .val (.long q3), .second, .val (.long q4), .second, .val (.long q5), .second, .val (.long q6), .second, .val (.int v1), .val (.int v2), .val (.int v3), .val (.int v4), .val (.ref b1), .val (.ref b2), .val (.ref b3), .val (.int (own_cov (own_lst v2 q1 q2) (own_lst v3 q3 q4) (own_lst v4 q5 q6))), .val (.long v10), .second, .val (.long v12), .second, .val (.long v14), .second, .val (.long v16), .second, .unset, .unset] [(.long v14), (.long ((q1 &&& (v10 ^^^ (-1 : Int64))) ||| v14))])) _
        refine XS.lcmp X8.here hx rfl (hb hby at_164) rfl ?_
        have sg18 : ∀ t, Steps p.tables e below (T8.setTop (mkF m 173 #[.val (.long q1), .second, .val (.long q2), .second, .val (.long q3), .second, .val (.long q4), .second, .val (.long q5), .second, .val (.long q6), .second, .val (.int v1), .val (.int v2), .val (.int v3), .val (.int v4), .val (.ref b1), .val (.ref b2), .val (.ref b3), .val (.int (own_cov (own_lst v2 q1 q2) (own_lst v3 q3 q4) (own_lst v4 q5 q6))), .val (.long v10), .second, .val (.long v12), .second, .val (.long v14), .second, .val (.long v16), .second, .unset, .unset] [(.int v19)])) t → Steps p.tables e below (T8.setTop (mkF m 165 #[.val (.long q1), .second, .val (.long q2), .second, .val (.long q3), .second, .val (.long q4), .second, .val (.long q5), .second, .val (.long q6), .second, .val (.int v1), .val (.int v2), .val (.int v3), .val (.int v4), .val (.ref b1), .val (.ref b2), .val (.ref b3), .val (.int (own_cov (own_lst v2 q1 q2) (own_lst v3 q3 q4) (own_lst v4 q5 q6))), .val (.long v10), .second, .val (.long v12), .second, .val (.long v14), .second, .val (.long v16), .second, .unset, .unset] [(.int (lcmpW ((q1 &&& (v10 ^^^ (-1 : Int64))) ||| v14) v14))])) t := by
          intro t k
          by_cases hc18 : (((q1 &&& (v10 ^^^ (-1 : Int64))) ||| v14) = v14)
          · rw [show v19 = (1 : Int32) from by rw [hv19, if_pos hc18]] at k
            show Steps p.tables e below (T8.setTop (mkF m 165 #[.val (.long q1), .second, .val (.long q2), .second, .val (.long q3), .second, .val (.long q4), .second, .val (.long q5), .second, .val (.long q6), .second, .val (.int v1), .val (.int v2), .val (.int v3), .val (.int v4), .val (.ref b1), .val (.ref b2), .val (.ref b3), .val (.int (own_cov (own_lst v2 q1 q2) (own_lst v3 q3 q4) (own_lst v4 q5 q6))), .val (.long v10), .second, .val (.long v12), .second, .val (.long v14), .second, .val (.long v16), .second, .unset, .unset] [(.int (lcmpW ((q1 &&& (v10 ^^^ (-1 : Int64))) ||| v14) v14))])) _
            refine XS.ifNo X8.here hx rfl (hb hby at_165) rfl ((if0 _ _).trans (teq ((lw_eq ((q1 &&& (v10 ^^^ (-1 : Int64))) ||| v14) v14).mpr hc18)).2) ?_
            show Steps p.tables e below (T8.setTop (mkF m 168 #[.val (.long q1), .second, .val (.long q2), .second, .val (.long q3), .second, .val (.long q4), .second, .val (.long q5), .second, .val (.long q6), .second, .val (.int v1), .val (.int v2), .val (.int v3), .val (.int v4), .val (.ref b1), .val (.ref b2), .val (.ref b3), .val (.int (own_cov (own_lst v2 q1 q2) (own_lst v3 q3 q4) (own_lst v4 q5 q6))), .val (.long v10), .second, .val (.long v12), .second, .val (.long v14), .second, .val (.long v16), .second, .unset, .unset] [])) _
            refine XS.iconst X8.here hx rfl (hb hby at_168) ?_
            show Steps p.tables e below (T8.setTop (mkF m 169 #[.val (.long q1), .second, .val (.long q2), .second, .val (.long q3), .second, .val (.long q4), .second, .val (.long q5), .second, .val (.long q6), .second, .val (.int v1), .val (.int v2), .val (.int v3), .val (.int v4), .val (.ref b1), .val (.ref b2), .val (.ref b3), .val (.int (own_cov (own_lst v2 q1 q2) (own_lst v3 q3 q4) (own_lst v4 q5 q6))), .val (.long v10), .second, .val (.long v12), .second, .val (.long v14), .second, .val (.long v16), .second, .unset, .unset] [(.int (1 : Int32))])) _
            refine XS.goto X8.here hx rfl (pc0 := 169) (pc' := 173) rfl (hb hby at_169) (by decide) (by decide) ?_
            exact k
          · rw [show v19 = (0 : Int32) from by rw [hv19, if_neg hc18]] at k
            show Steps p.tables e below (T8.setTop (mkF m 165 #[.val (.long q1), .second, .val (.long q2), .second, .val (.long q3), .second, .val (.long q4), .second, .val (.long q5), .second, .val (.long q6), .second, .val (.int v1), .val (.int v2), .val (.int v3), .val (.int v4), .val (.ref b1), .val (.ref b2), .val (.ref b3), .val (.int (own_cov (own_lst v2 q1 q2) (own_lst v3 q3 q4) (own_lst v4 q5 q6))), .val (.long v10), .second, .val (.long v12), .second, .val (.long v14), .second, .val (.long v16), .second, .unset, .unset] [(.int (lcmpW ((q1 &&& (v10 ^^^ (-1 : Int64))) ||| v14) v14))])) _
            refine XS.ifYes X8.here hx rfl (pc0 := 165) (pc' := 172) rfl (hb hby at_165) rfl ((if0 _ _).trans (feq (fun q => hc18 ((lw_eq ((q1 &&& (v10 ^^^ (-1 : Int64))) ||| v14) v14).mp q))).2) (by decide) (by decide) ?_
            show Steps p.tables e below (T8.setTop (mkF m 172 #[.val (.long q1), .second, .val (.long q2), .second, .val (.long q3), .second, .val (.long q4), .second, .val (.long q5), .second, .val (.long q6), .second, .val (.int v1), .val (.int v2), .val (.int v3), .val (.int v4), .val (.ref b1), .val (.ref b2), .val (.ref b3), .val (.int (own_cov (own_lst v2 q1 q2) (own_lst v3 q3 q4) (own_lst v4 q5 q6))), .val (.long v10), .second, .val (.long v12), .second, .val (.long v14), .second, .val (.long v16), .second, .unset, .unset] [])) _
            refine XS.iconst X8.here hx rfl (hb hby at_172) ?_
            exact k
        refine sg18 _ ?_
        exact k
    refine sg17 _ ?_
    show Steps p.tables e below (T8.setTop (mkF m 173 #[.val (.long q1), .second, .val (.long q2), .second, .val (.long q3), .second, .val (.long q4), .second, .val (.long q5), .second, .val (.long q6), .second, .val (.int v1), .val (.int v2), .val (.int v3), .val (.int v4), .val (.ref b1), .val (.ref b2), .val (.ref b3), .val (.int (own_cov (own_lst v2 q1 q2) (own_lst v3 q3 q4) (own_lst v4 q5 q6))), .val (.long v10), .second, .val (.long v12), .second, .val (.long v14), .second, .val (.long v16), .second, .unset, .unset] [(.int v20)])) _
    refine XS.istore X8.here hx rfl (hb hby at_173) rfl (l' := #[.val (.long q1), .second, .val (.long q2), .second, .val (.long q3), .second, .val (.long q4), .second, .val (.long q5), .second, .val (.long q6), .second, .val (.int v1), .val (.int v2), .val (.int v3), .val (.int v4), .val (.ref b1), .val (.ref b2), .val (.ref b3), .val (.int (own_cov (own_lst v2 q1 q2) (own_lst v3 q3 q4) (own_lst v4 q5 q6))), .val (.long v10), .second, .val (.long v12), .second, .val (.long v14), .second, .val (.long v16), .second, .val (.int v20), .unset]) rfl ?_
    show Steps p.tables e below (T8.setTop (mkF m 175 #[.val (.long q1), .second, .val (.long q2), .second, .val (.long q3), .second, .val (.long q4), .second, .val (.long q5), .second, .val (.long q6), .second, .val (.int v1), .val (.int v2), .val (.int v3), .val (.int v4), .val (.ref b1), .val (.ref b2), .val (.ref b3), .val (.int (own_cov (own_lst v2 q1 q2) (own_lst v3 q3 q4) (own_lst v4 q5 q6))), .val (.long v10), .second, .val (.long v12), .second, .val (.long v14), .second, .val (.long v16), .second, .val (.int v20), .unset] [])) _
    refine XS.iload X8.here hx rfl (hb hby at_175) rfl ?_
    show Steps p.tables e below (T8.setTop (mkF m 177 #[.val (.long q1), .second, .val (.long q2), .second, .val (.long q3), .second, .val (.long q4), .second, .val (.long q5), .second, .val (.long q6), .second, .val (.int v1), .val (.int v2), .val (.int v3), .val (.int v4), .val (.ref b1), .val (.ref b2), .val (.ref b3), .val (.int (own_cov (own_lst v2 q1 q2) (own_lst v3 q3 q4) (own_lst v4 q5 q6))), .val (.long v10), .second, .val (.long v12), .second, .val (.long v14), .second, .val (.long v16), .second, .val (.int v20), .unset] [(.int v2)])) _
    refine XS.iconst X8.here hx rfl (hb hby at_177) ?_
    have sg21 : ∀ t, Steps p.tables e below (T8.setTop (mkF m 203 #[.val (.long q1), .second, .val (.long q2), .second, .val (.long q3), .second, .val (.long q4), .second, .val (.long q5), .second, .val (.long q6), .second, .val (.int v1), .val (.int v2), .val (.int v3), .val (.int v4), .val (.ref b1), .val (.ref b2), .val (.ref b3), .val (.int (own_cov (own_lst v2 q1 q2) (own_lst v3 q3 q4) (own_lst v4 q5 q6))), .val (.long v10), .second, .val (.long v12), .second, .val (.long v14), .second, .val (.long v16), .second, .val (.int v20), .unset] [(.int v24)])) t → Steps p.tables e below (T8.setTop (mkF m 178 #[.val (.long q1), .second, .val (.long q2), .second, .val (.long q3), .second, .val (.long q4), .second, .val (.long q5), .second, .val (.long q6), .second, .val (.int v1), .val (.int v2), .val (.int v3), .val (.int v4), .val (.ref b1), .val (.ref b2), .val (.ref b3), .val (.int (own_cov (own_lst v2 q1 q2) (own_lst v3 q3 q4) (own_lst v4 q5 q6))), .val (.long v10), .second, .val (.long v12), .second, .val (.long v14), .second, .val (.long v16), .second, .val (.int v20), .unset] [(.int (2 : Int32)), (.int v2)])) t := by
      intro t k
      by_cases hc21 : (v2 < (2 : Int32))
      · rw [show v24 = (1 : Int32) from by rw [hv24, if_pos hc21]] at k
        show Steps p.tables e below (T8.setTop (mkF m 178 #[.val (.long q1), .second, .val (.long q2), .second, .val (.long q3), .second, .val (.long q4), .second, .val (.long q5), .second, .val (.long q6), .second, .val (.int v1), .val (.int v2), .val (.int v3), .val (.int v4), .val (.ref b1), .val (.ref b2), .val (.ref b3), .val (.int (own_cov (own_lst v2 q1 q2) (own_lst v3 q3 q4) (own_lst v4 q5 q6))), .val (.long v10), .second, .val (.long v12), .second, .val (.long v14), .second, .val (.long v16), .second, .val (.int v20), .unset] [(.int (2 : Int32)), (.int v2)])) _
        refine XS.icmpYes X8.here hx rfl (pc0 := 178) (pc' := 198) rfl (hb hby at_178) rfl (tlt hc21).1 (by decide) (by decide) ?_
        show Steps p.tables e below (T8.setTop (mkF m 198 #[.val (.long q1), .second, .val (.long q2), .second, .val (.long q3), .second, .val (.long q4), .second, .val (.long q5), .second, .val (.long q6), .second, .val (.int v1), .val (.int v2), .val (.int v3), .val (.int v4), .val (.ref b1), .val (.ref b2), .val (.ref b3), .val (.int (own_cov (own_lst v2 q1 q2) (own_lst v3 q3 q4) (own_lst v4 q5 q6))), .val (.long v10), .second, .val (.long v12), .second, .val (.long v14), .second, .val (.long v16), .second, .val (.int v20), .unset] [])) _
        refine XS.iconst X8.here hx rfl (hb hby at_198) ?_
        show Steps p.tables e below (T8.setTop (mkF m 199 #[.val (.long q1), .second, .val (.long q2), .second, .val (.long q3), .second, .val (.long q4), .second, .val (.long q5), .second, .val (.long q6), .second, .val (.int v1), .val (.int v2), .val (.int v3), .val (.int v4), .val (.ref b1), .val (.ref b2), .val (.ref b3), .val (.int (own_cov (own_lst v2 q1 q2) (own_lst v3 q3 q4) (own_lst v4 q5 q6))), .val (.long v10), .second, .val (.long v12), .second, .val (.long v14), .second, .val (.long v16), .second, .val (.int v20), .unset] [(.int (1 : Int32))])) _
        refine XS.goto X8.here hx rfl (pc0 := 199) (pc' := 203) rfl (hb hby at_199) (by decide) (by decide) ?_
        exact k
      · rw [show v24 = v23 from by rw [hv24, if_neg hc21]] at k
        show Steps p.tables e below (T8.setTop (mkF m 178 #[.val (.long q1), .second, .val (.long q2), .second, .val (.long q3), .second, .val (.long q4), .second, .val (.long q5), .second, .val (.long q6), .second, .val (.int v1), .val (.int v2), .val (.int v3), .val (.int v4), .val (.ref b1), .val (.ref b2), .val (.ref b3), .val (.int (own_cov (own_lst v2 q1 q2) (own_lst v3 q3 q4) (own_lst v4 q5 q6))), .val (.long v10), .second, .val (.long v12), .second, .val (.long v14), .second, .val (.long v16), .second, .val (.int v20), .unset] [(.int (2 : Int32)), (.int v2)])) _
        refine XS.icmpNo X8.here hx rfl (hb hby at_178) rfl (flt hc21).1 ?_
        show Steps p.tables e below (T8.setTop (mkF m 181 #[.val (.long q1), .second, .val (.long q2), .second, .val (.long q3), .second, .val (.long q4), .second, .val (.long q5), .second, .val (.long q6), .second, .val (.int v1), .val (.int v2), .val (.int v3), .val (.int v4), .val (.ref b1), .val (.ref b2), .val (.ref b3), .val (.int (own_cov (own_lst v2 q1 q2) (own_lst v3 q3 q4) (own_lst v4 q5 q6))), .val (.long v10), .second, .val (.long v12), .second, .val (.long v14), .second, .val (.long v16), .second, .val (.int v20), .unset] [])) _
        refine XS.lloadN X8.here hx rfl (hb hby at_181) rfl ?_
        show Steps p.tables e below (T8.setTop (mkF m 182 #[.val (.long q1), .second, .val (.long q2), .second, .val (.long q3), .second, .val (.long q4), .second, .val (.long q5), .second, .val (.long q6), .second, .val (.int v1), .val (.int v2), .val (.int v3), .val (.int v4), .val (.ref b1), .val (.ref b2), .val (.ref b3), .val (.int (own_cov (own_lst v2 q1 q2) (own_lst v3 q3 q4) (own_lst v4 q5 q6))), .val (.long v10), .second, .val (.long v12), .second, .val (.long v14), .second, .val (.long v16), .second, .val (.int v20), .unset] [(.long q2)])) _
        refine XS.lload X8.here hx rfl (hb hby at_182) rfl ?_
        show Steps p.tables e below (T8.setTop (mkF m 184 #[.val (.long q1), .second, .val (.long q2), .second, .val (.long q3), .second, .val (.long q4), .second, .val (.long q5), .second, .val (.long q6), .second, .val (.int v1), .val (.int v2), .val (.int v3), .val (.int v4), .val (.ref b1), .val (.ref b2), .val (.ref b3), .val (.int (own_cov (own_lst v2 q1 q2) (own_lst v3 q3 q4) (own_lst v4 q5 q6))), .val (.long v10), .second, .val (.long v12), .second, .val (.long v14), .second, .val (.long v16), .second, .val (.int v20), .unset] [(.long v12), (.long q2)])) _
        refine X8.ldc2Long hx hown (mvT hZ (hw _ (List.mem_of_getElem? (i := 12) rfl))) (g := (mkF m 184 #[.val (.long q1), .second, .val (.long q2), .second, .val (.long q3), .second, .val (.long q4), .second, .val (.long q5), .second, .val (.long q6), .second, .val (.int v1), .val (.int v2), .val (.int v3), .val (.int v4), .val (.ref b1), .val (.ref b2), .val (.ref b3), .val (.int (own_cov (own_lst v2 q1 q2) (own_lst v3 q3 q4) (own_lst v4 q5 q6))), .val (.long v10), .second, .val (.long v12), .second, .val (.long v14), .second, .val (.long v16), .second, .val (.int v20), .unset] [(.long v12), (.long q2)])) rfl (hb hby at_184) _ ?_
        show Steps p.tables e below (T8.setTop (mkF m 187 #[.val (.long q1), .second, .val (.long q2), .second, .val (.long q3), .second, .val (.long q4), .second, .val (.long q5), .second, .val (.long q6), .second, .val (.int v1), .val (.int v2), .val (.int v3), .val (.int v4), .val (.ref b1), .val (.ref b2), .val (.ref b3), .val (.int (own_cov (own_lst v2 q1 q2) (own_lst v3 q3 q4) (own_lst v4 q5 q6))), .val (.long v10), .second, .val (.long v12), .second, .val (.long v14), .second, .val (.long v16), .second, .val (.int v20), .unset] [(.long (-1 : Int64)), (.long v12), (.long q2)])) _
        refine XS.lxor X8.here hx rfl (hb hby at_187) rfl ?_
        show Steps p.tables e below (T8.setTop (mkF m 188 #[.val (.long q1), .second, .val (.long q2), .second, .val (.long q3), .second, .val (.long q4), .second, .val (.long q5), .second, .val (.long q6), .second, .val (.int v1), .val (.int v2), .val (.int v3), .val (.int v4), .val (.ref b1), .val (.ref b2), .val (.ref b3), .val (.int (own_cov (own_lst v2 q1 q2) (own_lst v3 q3 q4) (own_lst v4 q5 q6))), .val (.long v10), .second, .val (.long v12), .second, .val (.long v14), .second, .val (.long v16), .second, .val (.int v20), .unset] [(.long (v12 ^^^ (-1 : Int64))), (.long q2)])) _
        refine XS.land X8.here hx rfl (hb hby at_188) rfl ?_
        show Steps p.tables e below (T8.setTop (mkF m 189 #[.val (.long q1), .second, .val (.long q2), .second, .val (.long q3), .second, .val (.long q4), .second, .val (.long q5), .second, .val (.long q6), .second, .val (.int v1), .val (.int v2), .val (.int v3), .val (.int v4), .val (.ref b1), .val (.ref b2), .val (.ref b3), .val (.int (own_cov (own_lst v2 q1 q2) (own_lst v3 q3 q4) (own_lst v4 q5 q6))), .val (.long v10), .second, .val (.long v12), .second, .val (.long v14), .second, .val (.long v16), .second, .val (.int v20), .unset] [(.long (q2 &&& (v12 ^^^ (-1 : Int64))))])) _
        refine XS.lload X8.here hx rfl (hb hby at_189) rfl ?_
        show Steps p.tables e below (T8.setTop (mkF m 191 #[.val (.long q1), .second, .val (.long q2), .second, .val (.long q3), .second, .val (.long q4), .second, .val (.long q5), .second, .val (.long q6), .second, .val (.int v1), .val (.int v2), .val (.int v3), .val (.int v4), .val (.ref b1), .val (.ref b2), .val (.ref b3), .val (.int (own_cov (own_lst v2 q1 q2) (own_lst v3 q3 q4) (own_lst v4 q5 q6))), .val (.long v10), .second, .val (.long v12), .second, .val (.long v14), .second, .val (.long v16), .second, .val (.int v20), .unset] [(.long v16), (.long (q2 &&& (v12 ^^^ (-1 : Int64))))])) _
        refine XS.lor X8.here hx rfl (hb hby at_191) rfl ?_
        show Steps p.tables e below (T8.setTop (mkF m 192 #[.val (.long q1), .second, .val (.long q2), .second, .val (.long q3), .second, .val (.long q4), .second, .val (.long q5), .second, .val (.long q6), .second, .val (.int v1), .val (.int v2), .val (.int v3), .val (.int v4), .val (.ref b1), .val (.ref b2), .val (.ref b3), .val (.int (own_cov (own_lst v2 q1 q2) (own_lst v3 q3 q4) (own_lst v4 q5 q6))), .val (.long v10), .second, .val (.long v12), .second, .val (.long v14), .second, .val (.long v16), .second, .val (.int v20), .unset] [(.long ((q2 &&& (v12 ^^^ (-1 : Int64))) ||| v16))])) _
        refine XS.lload X8.here hx rfl (hb hby at_192) rfl ?_
        show Steps p.tables e below (T8.setTop (mkF m 194 #[.val (.long q1), .second, .val (.long q2), .second, .val (.long q3), .second, .val (.long q4), .second, .val (.long q5), .second, .val (.long q6), .second, .val (.int v1), .val (.int v2), .val (.int v3), .val (.int v4), .val (.ref b1), .val (.ref b2), .val (.ref b3), .val (.int (own_cov (own_lst v2 q1 q2) (own_lst v3 q3 q4) (own_lst v4 q5 q6))), .val (.long v10), .second, .val (.long v12), .second, .val (.long v14), .second, .val (.long v16), .second, .val (.int v20), .unset] [(.long v16), (.long ((q2 &&& (v12 ^^^ (-1 : Int64))) ||| v16))])) _
        refine XS.lcmp X8.here hx rfl (hb hby at_194) rfl ?_
        have sg22 : ∀ t, Steps p.tables e below (T8.setTop (mkF m 203 #[.val (.long q1), .second, .val (.long q2), .second, .val (.long q3), .second, .val (.long q4), .second, .val (.long q5), .second, .val (.long q6), .second, .val (.int v1), .val (.int v2), .val (.int v3), .val (.int v4), .val (.ref b1), .val (.ref b2), .val (.ref b3), .val (.int (own_cov (own_lst v2 q1 q2) (own_lst v3 q3 q4) (own_lst v4 q5 q6))), .val (.long v10), .second, .val (.long v12), .second, .val (.long v14), .second, .val (.long v16), .second, .val (.int v20), .unset] [(.int v23)])) t → Steps p.tables e below (T8.setTop (mkF m 195 #[.val (.long q1), .second, .val (.long q2), .second, .val (.long q3), .second, .val (.long q4), .second, .val (.long q5), .second, .val (.long q6), .second, .val (.int v1), .val (.int v2), .val (.int v3), .val (.int v4), .val (.ref b1), .val (.ref b2), .val (.ref b3), .val (.int (own_cov (own_lst v2 q1 q2) (own_lst v3 q3 q4) (own_lst v4 q5 q6))), .val (.long v10), .second, .val (.long v12), .second, .val (.long v14), .second, .val (.long v16), .second, .val (.int v20), .unset] [(.int (lcmpW ((q2 &&& (v12 ^^^ (-1 : Int64))) ||| v16) v16))])) t := by
          intro t k
          by_cases hc22 : (((q2 &&& (v12 ^^^ (-1 : Int64))) ||| v16) = v16)
          · rw [show v23 = (1 : Int32) from by rw [hv23, if_pos hc22]] at k
            show Steps p.tables e below (T8.setTop (mkF m 195 #[.val (.long q1), .second, .val (.long q2), .second, .val (.long q3), .second, .val (.long q4), .second, .val (.long q5), .second, .val (.long q6), .second, .val (.int v1), .val (.int v2), .val (.int v3), .val (.int v4), .val (.ref b1), .val (.ref b2), .val (.ref b3), .val (.int (own_cov (own_lst v2 q1 q2) (own_lst v3 q3 q4) (own_lst v4 q5 q6))), .val (.long v10), .second, .val (.long v12), .second, .val (.long v14), .second, .val (.long v16), .second, .val (.int v20), .unset] [(.int (lcmpW ((q2 &&& (v12 ^^^ (-1 : Int64))) ||| v16) v16))])) _
            refine XS.ifNo X8.here hx rfl (hb hby at_195) rfl ((if0 _ _).trans (teq ((lw_eq ((q2 &&& (v12 ^^^ (-1 : Int64))) ||| v16) v16).mpr hc22)).2) ?_
            show Steps p.tables e below (T8.setTop (mkF m 198 #[.val (.long q1), .second, .val (.long q2), .second, .val (.long q3), .second, .val (.long q4), .second, .val (.long q5), .second, .val (.long q6), .second, .val (.int v1), .val (.int v2), .val (.int v3), .val (.int v4), .val (.ref b1), .val (.ref b2), .val (.ref b3), .val (.int (own_cov (own_lst v2 q1 q2) (own_lst v3 q3 q4) (own_lst v4 q5 q6))), .val (.long v10), .second, .val (.long v12), .second, .val (.long v14), .second, .val (.long v16), .second, .val (.int v20), .unset] [])) _
            refine XS.iconst X8.here hx rfl (hb hby at_198) ?_
            show Steps p.tables e below (T8.setTop (mkF m 199 #[.val (.long q1), .second, .val (.long q2), .second, .val (.long q3), .second, .val (.long q4), .second, .val (.long q5), .second, .val (.long q6), .second, .val (.int v1), .val (.int v2), .val (.int v3), .val (.int v4), .val (.ref b1), .val (.ref b2), .val (.ref b3), .val (.int (own_cov (own_lst v2 q1 q2) (own_lst v3 q3 q4) (own_lst v4 q5 q6))), .val (.long v10), .second, .val (.long v12), .second, .val (.long v14), .second, .val (.long v16), .second, .val (.int v20), .unset] [(.int (1 : Int32))])) _
            refine XS.goto X8.here hx rfl (pc0 := 199) (pc' := 203) rfl (hb hby at_199) (by decide) (by decide) ?_
            exact k
          · rw [show v23 = (0 : Int32) from by rw [hv23, if_neg hc22]] at k
            show Steps p.tables e below (T8.setTop (mkF m 195 #[.val (.long q1), .second, .val (.long q2), .second, .val (.long q3), .second, .val (.long q4), .second, .val (.long q5), .second, .val (.long q6), .second, .val (.int v1), .val (.int v2), .val (.int v3), .val (.int v4), .val (.ref b1), .val (.ref b2), .val (.ref b3), .val (.int (own_cov (own_lst v2 q1 q2) (own_lst v3 q3 q4) (own_lst v4 q5 q6))), .val (.long v10), .second, .val (.long v12), .second, .val (.long v14), .second, .val (.long v16), .second, .val (.int v20), .unset] [(.int (lcmpW ((q2 &&& (v12 ^^^ (-1 : Int64))) ||| v16) v16))])) _
            refine XS.ifYes X8.here hx rfl (pc0 := 195) (pc' := 202) rfl (hb hby at_195) rfl ((if0 _ _).trans (feq (fun q => hc22 ((lw_eq ((q2 &&& (v12 ^^^ (-1 : Int64))) ||| v16) v16).mp q))).2) (by decide) (by decide) ?_
            show Steps p.tables e below (T8.setTop (mkF m 202 #[.val (.long q1), .second, .val (.long q2), .second, .val (.long q3), .second, .val (.long q4), .second, .val (.long q5), .second, .val (.long q6), .second, .val (.int v1), .val (.int v2), .val (.int v3), .val (.int v4), .val (.ref b1), .val (.ref b2), .val (.ref b3), .val (.int (own_cov (own_lst v2 q1 q2) (own_lst v3 q3 q4) (own_lst v4 q5 q6))), .val (.long v10), .second, .val (.long v12), .second, .val (.long v14), .second, .val (.long v16), .second, .val (.int v20), .unset] [])) _
            refine XS.iconst X8.here hx rfl (hb hby at_202) ?_
            exact k
        refine sg22 _ ?_
        exact k
    refine sg21 _ ?_
    show Steps p.tables e below (T8.setTop (mkF m 203 #[.val (.long q1), .second, .val (.long q2), .second, .val (.long q3), .second, .val (.long q4), .second, .val (.long q5), .second, .val (.long q6), .second, .val (.int v1), .val (.int v2), .val (.int v3), .val (.int v4), .val (.ref b1), .val (.ref b2), .val (.ref b3), .val (.int (own_cov (own_lst v2 q1 q2) (own_lst v3 q3 q4) (own_lst v4 q5 q6))), .val (.long v10), .second, .val (.long v12), .second, .val (.long v14), .second, .val (.long v16), .second, .val (.int v20), .unset] [(.int v24)])) _
    refine XS.istore X8.here hx rfl (hb hby at_203) rfl (l' := #[.val (.long q1), .second, .val (.long q2), .second, .val (.long q3), .second, .val (.long q4), .second, .val (.long q5), .second, .val (.long q6), .second, .val (.int v1), .val (.int v2), .val (.int v3), .val (.int v4), .val (.ref b1), .val (.ref b2), .val (.ref b3), .val (.int (own_cov (own_lst v2 q1 q2) (own_lst v3 q3 q4) (own_lst v4 q5 q6))), .val (.long v10), .second, .val (.long v12), .second, .val (.long v14), .second, .val (.long v16), .second, .val (.int v20), .val (.int v24)]) rfl ?_
    show Steps p.tables e below (T8.setTop (mkF m 205 #[.val (.long q1), .second, .val (.long q2), .second, .val (.long q3), .second, .val (.long q4), .second, .val (.long q5), .second, .val (.long q6), .second, .val (.int v1), .val (.int v2), .val (.int v3), .val (.int v4), .val (.ref b1), .val (.ref b2), .val (.ref b3), .val (.int (own_cov (own_lst v2 q1 q2) (own_lst v3 q3 q4) (own_lst v4 q5 q6))), .val (.long v10), .second, .val (.long v12), .second, .val (.long v14), .second, .val (.long v16), .second, .val (.int v20), .val (.int v24)] [])) _
    refine XS.iload X8.here hx rfl (hb hby at_205) rfl ?_
    show Steps p.tables e below (T8.setTop (mkF m 207 #[.val (.long q1), .second, .val (.long q2), .second, .val (.long q3), .second, .val (.long q4), .second, .val (.long q5), .second, .val (.long q6), .second, .val (.int v1), .val (.int v2), .val (.int v3), .val (.int v4), .val (.ref b1), .val (.ref b2), .val (.ref b3), .val (.int (own_cov (own_lst v2 q1 q2) (own_lst v3 q3 q4) (own_lst v4 q5 q6))), .val (.long v10), .second, .val (.long v12), .second, .val (.long v14), .second, .val (.long v16), .second, .val (.int v20), .val (.int v24)] [(.int (own_cov (own_lst v2 q1 q2) (own_lst v3 q3 q4) (own_lst v4 q5 q6)))])) _
    refine XS.iload X8.here hx rfl (hb hby at_207) rfl ?_
    have sg25 : ∀ t, Steps p.tables e below (T8.setTop (mkF m 222 #[.val (.long q1), .second, .val (.long q2), .second, .val (.long q3), .second, .val (.long q4), .second, .val (.long q5), .second, .val (.long q6), .second, .val (.int v1), .val (.int v2), .val (.int v3), .val (.int v4), .val (.ref b1), .val (.ref b2), .val (.ref b3), .val (.int (own_cov (own_lst v2 q1 q2) (own_lst v3 q3 q4) (own_lst v4 q5 q6))), .val (.long v10), .second, .val (.long v12), .second, .val (.long v14), .second, .val (.long v16), .second, .val (.int v20), .val (.int v24)] [(.int v28), (.int (own_cov (own_lst v2 q1 q2) (own_lst v3 q3 q4) (own_lst v4 q5 q6)))])) t → Steps p.tables e below (T8.setTop (mkF m 209 #[.val (.long q1), .second, .val (.long q2), .second, .val (.long q3), .second, .val (.long q4), .second, .val (.long q5), .second, .val (.long q6), .second, .val (.int v1), .val (.int v2), .val (.int v3), .val (.int v4), .val (.ref b1), .val (.ref b2), .val (.ref b3), .val (.int (own_cov (own_lst v2 q1 q2) (own_lst v3 q3 q4) (own_lst v4 q5 q6))), .val (.long v10), .second, .val (.long v12), .second, .val (.long v14), .second, .val (.long v16), .second, .val (.int v20), .val (.int v24)] [(.int v20), (.int (own_cov (own_lst v2 q1 q2) (own_lst v3 q3 q4) (own_lst v4 q5 q6)))])) t := by
      intro t k
      by_cases hc25 : (v20 = (0 : Int32))
      · rw [show v28 = (0 : Int32) from by rw [hv28, if_pos hc25]] at k
        show Steps p.tables e below (T8.setTop (mkF m 209 #[.val (.long q1), .second, .val (.long q2), .second, .val (.long q3), .second, .val (.long q4), .second, .val (.long q5), .second, .val (.long q6), .second, .val (.int v1), .val (.int v2), .val (.int v3), .val (.int v4), .val (.ref b1), .val (.ref b2), .val (.ref b3), .val (.int (own_cov (own_lst v2 q1 q2) (own_lst v3 q3 q4) (own_lst v4 q5 q6))), .val (.long v10), .second, .val (.long v12), .second, .val (.long v14), .second, .val (.long v16), .second, .val (.int v20), .val (.int v24)] [(.int v20), (.int (own_cov (own_lst v2 q1 q2) (own_lst v3 q3 q4) (own_lst v4 q5 q6)))])) _
        refine XS.ifYes X8.here hx rfl (pc0 := 209) (pc' := 221) rfl (hb hby at_209) rfl ((if0 _ _).trans (teq hc25).1) (by decide) (by decide) ?_
        show Steps p.tables e below (T8.setTop (mkF m 221 #[.val (.long q1), .second, .val (.long q2), .second, .val (.long q3), .second, .val (.long q4), .second, .val (.long q5), .second, .val (.long q6), .second, .val (.int v1), .val (.int v2), .val (.int v3), .val (.int v4), .val (.ref b1), .val (.ref b2), .val (.ref b3), .val (.int (own_cov (own_lst v2 q1 q2) (own_lst v3 q3 q4) (own_lst v4 q5 q6))), .val (.long v10), .second, .val (.long v12), .second, .val (.long v14), .second, .val (.long v16), .second, .val (.int v20), .val (.int v24)] [(.int (own_cov (own_lst v2 q1 q2) (own_lst v3 q3 q4) (own_lst v4 q5 q6)))])) _
        refine XS.iconst X8.here hx rfl (hb hby at_221) ?_
        exact k
      · rw [show v28 = v27 from by rw [hv28, if_neg hc25]] at k
        show Steps p.tables e below (T8.setTop (mkF m 209 #[.val (.long q1), .second, .val (.long q2), .second, .val (.long q3), .second, .val (.long q4), .second, .val (.long q5), .second, .val (.long q6), .second, .val (.int v1), .val (.int v2), .val (.int v3), .val (.int v4), .val (.ref b1), .val (.ref b2), .val (.ref b3), .val (.int (own_cov (own_lst v2 q1 q2) (own_lst v3 q3 q4) (own_lst v4 q5 q6))), .val (.long v10), .second, .val (.long v12), .second, .val (.long v14), .second, .val (.long v16), .second, .val (.int v20), .val (.int v24)] [(.int v20), (.int (own_cov (own_lst v2 q1 q2) (own_lst v3 q3 q4) (own_lst v4 q5 q6)))])) _
        refine XS.ifNo X8.here hx rfl (hb hby at_209) rfl ((if0 _ _).trans (feq hc25).1) ?_
        show Steps p.tables e below (T8.setTop (mkF m 212 #[.val (.long q1), .second, .val (.long q2), .second, .val (.long q3), .second, .val (.long q4), .second, .val (.long q5), .second, .val (.long q6), .second, .val (.int v1), .val (.int v2), .val (.int v3), .val (.int v4), .val (.ref b1), .val (.ref b2), .val (.ref b3), .val (.int (own_cov (own_lst v2 q1 q2) (own_lst v3 q3 q4) (own_lst v4 q5 q6))), .val (.long v10), .second, .val (.long v12), .second, .val (.long v14), .second, .val (.long v16), .second, .val (.int v20), .val (.int v24)] [(.int (own_cov (own_lst v2 q1 q2) (own_lst v3 q3 q4) (own_lst v4 q5 q6)))])) _
        refine XS.iload X8.here hx rfl (hb hby at_212) rfl ?_
        have sg26 : ∀ t, Steps p.tables e below (T8.setTop (mkF m 222 #[.val (.long q1), .second, .val (.long q2), .second, .val (.long q3), .second, .val (.long q4), .second, .val (.long q5), .second, .val (.long q6), .second, .val (.int v1), .val (.int v2), .val (.int v3), .val (.int v4), .val (.ref b1), .val (.ref b2), .val (.ref b3), .val (.int (own_cov (own_lst v2 q1 q2) (own_lst v3 q3 q4) (own_lst v4 q5 q6))), .val (.long v10), .second, .val (.long v12), .second, .val (.long v14), .second, .val (.long v16), .second, .val (.int v20), .val (.int v24)] [(.int v27), (.int (own_cov (own_lst v2 q1 q2) (own_lst v3 q3 q4) (own_lst v4 q5 q6)))])) t → Steps p.tables e below (T8.setTop (mkF m 214 #[.val (.long q1), .second, .val (.long q2), .second, .val (.long q3), .second, .val (.long q4), .second, .val (.long q5), .second, .val (.long q6), .second, .val (.int v1), .val (.int v2), .val (.int v3), .val (.int v4), .val (.ref b1), .val (.ref b2), .val (.ref b3), .val (.int (own_cov (own_lst v2 q1 q2) (own_lst v3 q3 q4) (own_lst v4 q5 q6))), .val (.long v10), .second, .val (.long v12), .second, .val (.long v14), .second, .val (.long v16), .second, .val (.int v20), .val (.int v24)] [(.int v24), (.int (own_cov (own_lst v2 q1 q2) (own_lst v3 q3 q4) (own_lst v4 q5 q6)))])) t := by
          intro t k
          by_cases hc26 : (v24 = (0 : Int32))
          · rw [show v27 = (0 : Int32) from by rw [hv27, if_pos hc26]] at k
            show Steps p.tables e below (T8.setTop (mkF m 214 #[.val (.long q1), .second, .val (.long q2), .second, .val (.long q3), .second, .val (.long q4), .second, .val (.long q5), .second, .val (.long q6), .second, .val (.int v1), .val (.int v2), .val (.int v3), .val (.int v4), .val (.ref b1), .val (.ref b2), .val (.ref b3), .val (.int (own_cov (own_lst v2 q1 q2) (own_lst v3 q3 q4) (own_lst v4 q5 q6))), .val (.long v10), .second, .val (.long v12), .second, .val (.long v14), .second, .val (.long v16), .second, .val (.int v20), .val (.int v24)] [(.int v24), (.int (own_cov (own_lst v2 q1 q2) (own_lst v3 q3 q4) (own_lst v4 q5 q6)))])) _
            refine XS.ifYes X8.here hx rfl (pc0 := 214) (pc' := 221) rfl (hb hby at_214) rfl ((if0 _ _).trans (teq hc26).1) (by decide) (by decide) ?_
            show Steps p.tables e below (T8.setTop (mkF m 221 #[.val (.long q1), .second, .val (.long q2), .second, .val (.long q3), .second, .val (.long q4), .second, .val (.long q5), .second, .val (.long q6), .second, .val (.int v1), .val (.int v2), .val (.int v3), .val (.int v4), .val (.ref b1), .val (.ref b2), .val (.ref b3), .val (.int (own_cov (own_lst v2 q1 q2) (own_lst v3 q3 q4) (own_lst v4 q5 q6))), .val (.long v10), .second, .val (.long v12), .second, .val (.long v14), .second, .val (.long v16), .second, .val (.int v20), .val (.int v24)] [(.int (own_cov (own_lst v2 q1 q2) (own_lst v3 q3 q4) (own_lst v4 q5 q6)))])) _
            refine XS.iconst X8.here hx rfl (hb hby at_221) ?_
            exact k
          · rw [show v27 = (1 : Int32) from by rw [hv27, if_neg hc26]] at k
            show Steps p.tables e below (T8.setTop (mkF m 214 #[.val (.long q1), .second, .val (.long q2), .second, .val (.long q3), .second, .val (.long q4), .second, .val (.long q5), .second, .val (.long q6), .second, .val (.int v1), .val (.int v2), .val (.int v3), .val (.int v4), .val (.ref b1), .val (.ref b2), .val (.ref b3), .val (.int (own_cov (own_lst v2 q1 q2) (own_lst v3 q3 q4) (own_lst v4 q5 q6))), .val (.long v10), .second, .val (.long v12), .second, .val (.long v14), .second, .val (.long v16), .second, .val (.int v20), .val (.int v24)] [(.int v24), (.int (own_cov (own_lst v2 q1 q2) (own_lst v3 q3 q4) (own_lst v4 q5 q6)))])) _
            refine XS.ifNo X8.here hx rfl (hb hby at_214) rfl ((if0 _ _).trans (feq hc26).1) ?_
            show Steps p.tables e below (T8.setTop (mkF m 217 #[.val (.long q1), .second, .val (.long q2), .second, .val (.long q3), .second, .val (.long q4), .second, .val (.long q5), .second, .val (.long q6), .second, .val (.int v1), .val (.int v2), .val (.int v3), .val (.int v4), .val (.ref b1), .val (.ref b2), .val (.ref b3), .val (.int (own_cov (own_lst v2 q1 q2) (own_lst v3 q3 q4) (own_lst v4 q5 q6))), .val (.long v10), .second, .val (.long v12), .second, .val (.long v14), .second, .val (.long v16), .second, .val (.int v20), .val (.int v24)] [(.int (own_cov (own_lst v2 q1 q2) (own_lst v3 q3 q4) (own_lst v4 q5 q6)))])) _
            refine XS.iconst X8.here hx rfl (hb hby at_217) ?_
            show Steps p.tables e below (T8.setTop (mkF m 218 #[.val (.long q1), .second, .val (.long q2), .second, .val (.long q3), .second, .val (.long q4), .second, .val (.long q5), .second, .val (.long q6), .second, .val (.int v1), .val (.int v2), .val (.int v3), .val (.int v4), .val (.ref b1), .val (.ref b2), .val (.ref b3), .val (.int (own_cov (own_lst v2 q1 q2) (own_lst v3 q3 q4) (own_lst v4 q5 q6))), .val (.long v10), .second, .val (.long v12), .second, .val (.long v14), .second, .val (.long v16), .second, .val (.int v20), .val (.int v24)] [(.int (1 : Int32)), (.int (own_cov (own_lst v2 q1 q2) (own_lst v3 q3 q4) (own_lst v4 q5 q6)))])) _
            refine XS.goto X8.here hx rfl (pc0 := 218) (pc' := 222) rfl (hb hby at_218) (by decide) (by decide) ?_
            exact k
        refine sg26 _ ?_
        exact k
    refine sg25 _ ?_
    show Steps p.tables e below (T8.setTop (mkF m 222 #[.val (.long q1), .second, .val (.long q2), .second, .val (.long q3), .second, .val (.long q4), .second, .val (.long q5), .second, .val (.long q6), .second, .val (.int v1), .val (.int v2), .val (.int v3), .val (.int v4), .val (.ref b1), .val (.ref b2), .val (.ref b3), .val (.int (own_cov (own_lst v2 q1 q2) (own_lst v3 q3 q4) (own_lst v4 q5 q6))), .val (.long v10), .second, .val (.long v12), .second, .val (.long v14), .second, .val (.long v16), .second, .val (.int v20), .val (.int v24)] [(.int v28), (.int (own_cov (own_lst v2 q1 q2) (own_lst v3 q3 q4) (own_lst v4 q5 q6)))])) _
    refine XS.icmpNo X8.here hx rfl (hb hby at_222) rfl (teq hfin).2 ?_
    show Steps p.tables e below (T8.setTop (mkF m 225 #[.val (.long q1), .second, .val (.long q2), .second, .val (.long q3), .second, .val (.long q4), .second, .val (.long q5), .second, .val (.long q6), .second, .val (.int v1), .val (.int v2), .val (.int v3), .val (.int v4), .val (.ref b1), .val (.ref b2), .val (.ref b3), .val (.int (own_cov (own_lst v2 q1 q2) (own_lst v3 q3 q4) (own_lst v4 q5 q6))), .val (.long v10), .second, .val (.long v12), .second, .val (.long v14), .second, .val (.long v16), .second, .val (.int v20), .val (.int v24)] [])) _
    refine XS.iconst X8.here hx rfl (hb hby at_225) ?_
    show Steps p.tables e below (T8.setTop (mkF m 226 #[.val (.long q1), .second, .val (.long q2), .second, .val (.long q3), .second, .val (.long q4), .second, .val (.long q5), .second, .val (.long q6), .second, .val (.int v1), .val (.int v2), .val (.int v3), .val (.int v4), .val (.ref b1), .val (.ref b2), .val (.ref b3), .val (.int (own_cov (own_lst v2 q1 q2) (own_lst v3 q3 q4) (own_lst v4 q5 q6))), .val (.long v10), .second, .val (.long v12), .second, .val (.long v14), .second, .val (.long v16), .second, .val (.int v20), .val (.int v24)] [(.int (1 : Int32))])) _
    refine XS.goto X8.here hx rfl (pc0 := 226) (pc' := 230) rfl (hb hby at_226) (by decide) (by decide) ?_
    show Steps p.tables e below (T8.setTop (mkF m 230 #[.val (.long q1), .second, .val (.long q2), .second, .val (.long q3), .second, .val (.long q4), .second, .val (.long q5), .second, .val (.long q6), .second, .val (.int v1), .val (.int v2), .val (.int v3), .val (.int v4), .val (.ref b1), .val (.ref b2), .val (.ref b3), .val (.int (own_cov (own_lst v2 q1 q2) (own_lst v3 q3 q4) (own_lst v4 q5 q6))), .val (.long v10), .second, .val (.long v12), .second, .val (.long v14), .second, .val (.long v16), .second, .val (.int v20), .val (.int v24)] [(.int (1 : Int32))])) _
    exact retN X8 hx (t := .boolean) Bd.returns (by simp) (hb hby at_230) hr
  · show Q0 Z q1 q2 q3 q4 q5 q6 h0 n0 _ T8.heap _
    exact ⟨rfl, N8⟩
set_option maxRecDepth 65536 in
set_option maxHeartbeats 40000000 in
theorem comes_1 {Post : Tables → Env → Array Value → State → Outcome → State → Prop} (hpost : ∀ tb e args s v u, (limb_1_1.after args s (.returned v) u = true ∧ limb_1_2.after args s (.returned v) u = true ∧ True) → FrameEnd s (.returned v) u (Jvm.fieldLocs frame_1_writes args s ++ Jvm.arrayLocs frame_1_arrays args s ++ Jvm.staticLocs frame_1_statics s) 16 128 → Post tb e args s (.returned v) u) :
    ArmFor flags0 classFile x code maxLocals ret World_1 tables_1 room_1 Calls_1 rest_1 Pre_1 Post := by
  intro l hfl _ _ p e ha hc hk s m args below hf hA hF happ hP
  obtain ⟨hcalls, hrest, hpre⟩ := hP
  obtain ⟨-, -, -, hnamed, -, -, -, hat⟩ := (Spec.applies_iff hf).mp happ
  obtain ⟨hg, hn⟩ := and_e (Cond.before_iff.mp (show (Jvm.Cond.and given_1 narrow_1).before args s = true from hpre))
  obtain ⟨h1, g1⟩ := and_e hg
  obtain ⟨c1, g2⟩ := and_e g1
  obtain ⟨c2, g3⟩ := and_e g2
  obtain ⟨c3, g4⟩ := and_e g3
  obtain ⟨c4, g5⟩ := and_e g4
  obtain ⟨c5, g6⟩ := and_e g5
  obtain ⟨w0, w1, w2, w3, w4, w5, rfl⟩ : ∃ w0 w1 w2 w3 w4 w5 : Value, args = #[w0, w1, w2, w3, w4, w5] := by
    have hs : args.size = 6 := by simpa [Cond.value, given_1] using h1
    obtain ⟨L⟩ := args
    match L, hs with
    | [w0, w1, w2, w3, w4, w5], _ => exact ⟨w0, w1, w2, w3, w4, w5, rfl⟩
  have hw := fun d (hd : d ∈ tables_1) => atoms_spec (ws := Jvm.Cond.code x code maxLocals ret :: tables_1) hat d (List.mem_cons_of_mem _ hd)
  obtain ⟨i0, ei0⟩ := isL_v c1
  obtain rfl : w0 = (.long i0) := Option.some.inj ei0
  obtain ⟨i1, ei1⟩ := isL_v c2
  obtain rfl : w1 = (.long i1) := Option.some.inj ei1
  obtain ⟨i2, ei2⟩ := isL_v c3
  obtain rfl : w2 = (.long i2) := Option.some.inj ei2
  obtain ⟨i3, ei3⟩ := isL_v c4
  obtain rfl : w3 = (.long i3) := Option.some.inj ei3
  obtain ⟨i4, ei4⟩ := isL_v c5
  obtain rfl : w4 = (.long i4) := Option.some.inj ei4
  obtain ⟨i5, ei5⟩ := isL_v g6
  obtain rfl : w5 = (.long i5) := Option.some.inj ei5
  obtain ⟨n, o, h1, h2, h3, _, L, rfl, ⟨rfl, N⟩, hq⟩ := rm0 l s _ hw tables_1 i0 i1 i2 i3 i4 i5 s.heap s.heap.size (Nat.le_refl _)  p e ha hc hk s m _ below hf ((Spec.applies_iff_loose hf).mp happ).1 ⟨rfl, State.Warmed39.refl s, rfl⟩ trivial
  refine ⟨n, _, h1, h2, h3, hpost _ _ _ _ _ _ ⟨Cond.after_iff.mpr rfl, Cond.after_iff.mpr (eq_i res_at (Term.int_eval (1)) rfl), trivial⟩ ⟨hq.1, hq.2.1, (hq.2.2.sift fun y hy => Or.inr (N y hy)).mono (by decide) (by decide)⟩⟩
theorem main_1_1 : Claimed_1_1 := comes_1 fun _ _ _ _ _ _ h hF => ⟨h.1, hF⟩
theorem main_1_2 : Claimed_1_2 := comes_1 fun _ _ _ _ _ _ h hF => ⟨h.2.1, hF⟩
end Jvm.Pilot.@@N@@
namespace Jvm.Pilot.@@N@@
open Jvm Jvm.ClassFile Sem Op Lib Jvm.Free Jvm.Stand Jvm.Pilot.@@N@@.Jvm.D
/-! MADE BY PROGRAM (witnessworld.py) out of the Statement's table words and the real class files: 11 classes; the members and pool entries that the words name. The judged class is class 1, her method 1. -/
namespace start1
open Jvm.ClassFile
def u (s : String) : CpInfo := .utf8 (stringToUtf16 s)
/-- a pool by its gaps: so many unusable entries, then the entry; so many at the end -/
def gap : Nat → List CpInfo → List CpInfo
  | 0, r => r
  | n + 1, r => .unusable :: gap n r
def poolList (es : List (Nat × CpInfo)) (last : Nat) : List CpInfo := es.foldr (fun e r => gap e.1 (e.2 :: r)) (gap last [])
def pool (es : List (Nat × CpInfo)) (last : Nat) : Array CpInfo := ⟨poolList es last⟩
def fileOf (pool : Array CpInfo) (this : Nat) (attrs : Array Attribute := #[]) (ms : Array MethodInfo := #[]) (fl : Nat := 33) (sup : Nat := 0) (ifs : Array Nat := #[]) (fds : Array FieldInfo := #[]) : ClassFile where
  minorVersion := 0
  majorVersion := 65
  constantPool := pool
  accessFlags := fl
  thisClass := this
  superClass := sup
  interfaces := ifs
  fields := fds
  methods := ms
  attributes := attrs
def plain (name : String) (sup : Option ClassId) : Class where
  name := name
  kind := .ordinary
  loader := none
  accessFlags := 33
  super := sup
  interfaces := #[]
  cf := none
  fields := #[]
  methods := #[]
  instanceTypes := #[]
  staticTypes := #[]
  resolved := #[]
  callSites := []
  init := .initialized
  statics := none
  mirror := none

def pool0 : Array CpInfo := pool [(5, u "<init>"), (0, u "()V"), (1, .class_ 10), (1, u "java/lang/Object")] 113

def k0m0 : Method := { name := "<init>", desc := "()V", sig := { parameters := [], returnType := none }, accessFlags := 1, code := none }
/-- java/lang/Object -/
def k0 : Class := { plain "java/lang/Object" none with
  accessFlags := 33
  interfaces := #[]
  cf := some (fileOf pool0 8 #[] #[{ accessFlags := 1, nameIndex := 5, descriptorIndex := 6, attributes := #[] }] 33 0 #[] #[])
  fields := #[]
  methods := #[k0m0]
  instanceTypes := #[]
  staticTypes := #[]
  resolved := Array.replicate 124 none
  statics := none }

def pool1 : Array CpInfo := pool [(2, .class_ 4), (1, u "java/lang/Object"), (0, u "<init>"), (0, u "()V"), (0, .long 65535), (1, .long 27), (1, .methodref 12 13), (0, .class_ 14), (0, .nameAndType 15 16), (0, u "com/example/prune/prune/mdp/WordsIsCoveredPinLaw"), (0, u "words"), (0, u "(IJJ)[J"), (0, .methodref 18 19), (0, .class_ 20), (0, .nameAndType 21 22), (0, u "com/example/prune/prune/mdp/Words"), (0, u "isCovered"), (0, u "([J[J[J)Z"), (0, .long 18446744073709551615), (3, u "law"), (0, u "(JJJJJJ)Z")] 5

def k1m0 : Method := { name := "<init>", desc := "()V", sig := { parameters := [], returnType := none }, accessFlags := 2, code := none }
def k1c1 : Code := { maxStack := 6, maxLocals := 30, code := code, exceptionTable := #[], attributes := #[] }
def k1m1 : Method := { name := "law", desc := "(JJJJJJ)Z", sig := { parameters := [.long, .long, .long, .long, .long, .long], returnType := some .boolean }, accessFlags := 9, code := some k1c1 }
def k1c2 : Code := { maxStack := 5, maxLocals := 5, code := method_3_code, exceptionTable := #[], attributes := #[] }
def k1m2 : Method := { name := "words", desc := "(IJJ)[J", sig := { parameters := [.int, .long, .long], returnType := some (.array .long) }, accessFlags := 10, code := some k1c2 }
/-- com/example/prune/prune/mdp/WordsIsCoveredPinLaw -/
def k1 : Class := { plain "com/example/prune/prune/mdp/WordsIsCoveredPinLaw" (some 0) with
  accessFlags := 49
  interfaces := #[]
  cf := some (fileOf pool1 12 #[] #[{ accessFlags := 2, nameIndex := 5, descriptorIndex := 6, attributes := #[] }, { accessFlags := 9, nameIndex := 27, descriptorIndex := 28, attributes := #[] }, { accessFlags := 10, nameIndex := 15, descriptorIndex := 16, attributes := #[] }] 49 2 #[] #[])
  fields := #[]
  methods := #[k1m0, k1m1, k1m2]
  instanceTypes := #[]
  staticTypes := #[]
  resolved := Array.replicate 34 none
  statics := none }

def pool2 : Array CpInfo := pool [(2, .class_ 4), (1, u "java/lang/Object"), (0, u "<init>"), (0, u "()V"), (2, .long 18446744073709551615), (12, .class_ 24), (1, u "com/example/prune/prune/mdp/Words"), (24, u "isCovered"), (0, u "([J[J[J)Z")] 7

def k2m0 : Method := { name := "<init>", desc := "()V", sig := { parameters := [], returnType := none }, accessFlags := 2, code := none }
def k2c1 : Code := { maxStack := 6, maxLocals := 7, code := prog_84_method_10_code, exceptionTable := #[], attributes := #[] }
def k2m1 : Method := { name := "isCovered", desc := "([J[J[J)Z", sig := { parameters := [(.array .long), (.array .long), (.array .long)], returnType := some .boolean }, accessFlags := 8, code := some k2c1 }
/-- com/example/prune/prune/mdp/Words -/
def k2 : Class := { plain "com/example/prune/prune/mdp/Words" (some 0) with
  accessFlags := 48
  interfaces := #[]
  cf := some (fileOf pool2 22 #[] #[{ accessFlags := 2, nameIndex := 5, descriptorIndex := 6, attributes := #[] }, { accessFlags := 8, nameIndex := 49, descriptorIndex := 50, attributes := #[] }] 48 2 #[] #[])
  fields := #[]
  methods := #[k2m0, k2m1]
  instanceTypes := #[]
  staticTypes := #[]
  resolved := Array.replicate 58 none
  statics := none }

def pool3 : Array CpInfo := pool [(1, u "java/lang/Cloneable"), (0, .class_ 1), (0, u "java/lang/Object"), (0, .class_ 3)] 3

/-- java/lang/Cloneable -/
def k3 : Class := { plain "java/lang/Cloneable" (some 0) with
  accessFlags := 1537
  interfaces := #[]
  cf := some (fileOf pool3 2 #[] #[] 1537 4 #[] #[])
  fields := #[]
  methods := #[]
  instanceTypes := #[]
  staticTypes := #[]
  resolved := Array.replicate 8 none
  statics := none }

def pool4 : Array CpInfo := pool [(1, u "java/io/Serializable"), (0, .class_ 1), (0, u "java/lang/Object"), (0, .class_ 3)] 3

/-- java/io/Serializable -/
def k4 : Class := { plain "java/io/Serializable" (some 0) with
  accessFlags := 1537
  interfaces := #[]
  cf := some (fileOf pool4 2 #[] #[] 1537 4 #[] #[])
  fields := #[]
  methods := #[]
  instanceTypes := #[]
  staticTypes := #[]
  resolved := Array.replicate 8 none
  statics := none }

/-- the primitive byte -/
def k5 : Class := { plain "byte" none with kind := .primitive 'B', accessFlags := 0x411 }
/-- [B -/
def k6 : Class := { plain "[B" (some 0) with kind := .array 5 .byte, interfaces := #[3, 4], accessFlags := 1041 }

/-- the primitive int -/
def k7 : Class := { plain "int" none with kind := .primitive 'I', accessFlags := 0x411 }
/-- [I -/
def k8 : Class := { plain "[I" (some 0) with kind := .array 7 .int, interfaces := #[3, 4], accessFlags := 1041 }

/-- the primitive long -/
def k9 : Class := { plain "long" none with kind := .primitive 'J', accessFlags := 0x411 }
/-- [J -/
def k10 : Class := { plain "[J" (some 0) with kind := .array 9 .long, interfaces := #[3, 4], accessFlags := 1041 }

def heap : Heap := #[]
def classes : Array Class := #[k0, k1, k2, k3, k4, k5, k6, k7, k8, k9, k10]
def interned : List (Array UInt16 × Addr) := []
def slotsUsed : Nat := 0
def theMethod : MethodId := ⟨1, 1⟩
def args0 : Array Value := #[.long 1, .long 2, .long 3, .long 4, .long 5, .long 6]
def aboutOver (below : List Frame) : State where
  vm := { classes := classes, interned := interned.toArray }
  heap := heap
  slotsUsed := slotsUsed
  threads := #[{ frames := .invoking theMethod args0 :: below }]
def below0 : List Frame := [.native { method := ⟨0, 0⟩, args := #[] }]
def about1 : State := aboutOver below0
def p0 : Program := .bare "" "" ""
def e0 : Env := launch0.env 0 0 0
theorem w_frames : about1.frames = Frame.invoking theMethod args0 :: below0 := rfl
set_option maxRecDepth 65536 in
theorem w_args : argsFit about1.vm theMethod args0 = true := by decide +kernel
set_option maxRecDepth 65536 in
theorem w_heap : heapFits about1 = true := by decide +kernel
set_option maxRecDepth 65536 in
theorem w_runnable : about1.curStatus? = some .runnable := by decide +kernel
set_option maxRecDepth 65536 in
theorem w_alone : about1.alone = true := by decide +kernel
set_option maxRecDepth 65536 in
theorem w_named : about1.methodNamed? x = some theMethod := by decide +kernel
set_option maxRecDepth 65536 in
theorem w_hears : about1.hears theMethod below0 = true := by decide +kernel
set_option maxRecDepth 65536 in
theorem w_ripe : about1.ripe theMethod args0 below0 = true := by decide +kernel
theorem w_running : about1.status = .running := rfl
set_option maxRecDepth 65536 in
theorem w_room : about1.hasRoom e0.platform room_1 = true :=
  launch0.hasRoom_least _ room_1 (by decide +kernel) (by decide +kernel) (by decide +kernel) (by decide +kernel) (by decide +kernel) (by decide +kernel)
theorem allAtoms_all (ts : List Jvm.Cond) (a : Array Jvm.Value) (st : Jvm.State) : (allAtoms ts).before a st = ts.all (fun c => c.before a st) := by
  induction ts with
  | nil => rfl
  | cons c t ih =>
    show (Jvm.Cond.and c (allAtoms t)).before a st = _
    rw [Jvm.Cond.before_and, ih, List.all_cons]
def words1 : List Jvm.Cond := Jvm.Cond.code x code maxLocals ret :: tables_1
/-- a 'code' word, met by the world's own term for the bytes: nothing is compared byte by byte -/
theorem code_word {y : MethodName} {bytes : ByteArray} {mx : Nat} {rt : Option FieldType} {a : Array Value} {s : State} {m : MethodId} {meth : Method} {c : Code} (h1 : s.methodNamed? y = some m) (h2 : s.vm.method? m = some meth) (h3 : meth.code = some c) (h4 : c.code = bytes)
    (h5 : (c.maxLocals == mx && c.exceptionTable.isEmpty && decide (c.maxStack ≤ mostOperands) && decide (meth.sig.returnType = rt) && !meth.locks && decide (parseMethodDescriptor y.desc = some meth.sig)) = true) : (Jvm.Cond.code y bytes mx rt).before a s = true := by
  simp only [Bool.and_eq_true, beq_iff_eq, Bool.not_eq_true', decide_eq_true_eq] at h5
  obtain ⟨⟨⟨⟨⟨g1, g2⟩, g3⟩, g4⟩, g5⟩, g6⟩ := h5
  simp [Cond.before, Cond.holds, Cond.value, h1, h2, h3, h4, g1, g2, g3, g4, g5, g6]
def isCode : Jvm.Cond → Bool
  | .code _ _ _ _ => true
  | _ => false
theorem all_split {L : List Jvm.Cond} {P : Jvm.Cond → Bool} (h1 : L.all (fun c => isCode c || P c) = true) (h2 : ∀ c ∈ L.filter isCode, P c = true) : L.all P = true := by
  refine List.all_eq_true.mpr fun c hc => ?_
  have h := List.all_eq_true.mp h1 c hc
  rcases Bool.eq_false_or_eq_true (isCode c) with hi | hi
  · exact h2 c (List.mem_filter.mpr ⟨hc, hi⟩)
  · simpa [hi] using h
set_option maxRecDepth 65536 in
theorem w_c0 : (Jvm.Cond.code x code maxLocals ret).before args0 about1 = true := code_word (m := ⟨1, 1⟩) (meth := k1m1) (c := k1c1) (by decide +kernel) rfl rfl rfl (by decide +kernel)
set_option maxRecDepth 65536 in
theorem w_c1 : (Jvm.Cond.code ({ cls := "com/example/prune/prune/mdp/WordsIsCoveredPinLaw", name := "words", desc := "(IJJ)[J" } : Jvm.MethodName) method_3_code (5 : Nat) (Option.some (Jvm.ClassFile.FieldType.array Jvm.ClassFile.FieldType.long))).before args0 about1 = true := code_word (m := ⟨1, 2⟩) (meth := k1m2) (c := k1c2) (by decide +kernel) rfl rfl rfl (by decide +kernel)
set_option maxRecDepth 65536 in
theorem w_c2 : (Jvm.Cond.code ({ cls := "com/example/prune/prune/mdp/Words", name := "isCovered", desc := "([J[J[J)Z" } : Jvm.MethodName) prog_84_method_10_code (7 : Nat) (Option.some Jvm.ClassFile.FieldType.boolean)).before args0 about1 = true := code_word (m := ⟨2, 1⟩) (meth := k2m1) (c := k2c1) (by decide +kernel) rfl rfl rfl (by decide +kernel)
def codes1 : List Jvm.Cond := [Jvm.Cond.code x code maxLocals ret, Jvm.Cond.code ({ cls := "com/example/prune/prune/mdp/WordsIsCoveredPinLaw", name := "words", desc := "(IJJ)[J" } : Jvm.MethodName) method_3_code (5 : Nat) (Option.some (Jvm.ClassFile.FieldType.array Jvm.ClassFile.FieldType.long)), Jvm.Cond.code ({ cls := "com/example/prune/prune/mdp/Words", name := "isCovered", desc := "([J[J[J)Z" } : Jvm.MethodName) prog_84_method_10_code (7 : Nat) (Option.some Jvm.ClassFile.FieldType.boolean)]
set_option maxRecDepth 65536 in
theorem codes_eq : words1.filter isCode = codes1 := rfl
theorem w_codes : ∀ c ∈ words1.filter isCode, c.before args0 about1 = true := by
  rw [codes_eq]
  intro c hc
  simp only [codes1, List.mem_cons, List.not_mem_nil, or_false] at hc
  rcases hc with rfl | rfl | rfl
  · exact w_c0
  · exact w_c1
  · exact w_c2
set_option maxRecDepth 65536 in
theorem w_t1 : words1.all (fun c => isCode c || c.before args0 about1) = true := by decide +kernel
theorem w_tables : (allAtoms (Jvm.Cond.code x code maxLocals ret :: tables_1)).before args0 about1 = true := by
  rw [allAtoms_all]
  show words1.all (fun c => c.before args0 about1) = true
  refine all_split ?_ w_codes
  rw [w_t1]
set_option maxRecDepth 65536 in
theorem w_case : (Jvm.Cond.and given_1 narrow_1).before args0 about1 = true := by decide +kernel
theorem w_applies : (headSpec (Jvm.Cond.code x code maxLocals ret :: tables_1) room_1).applies x e0.platform about1 = true :=
  (Spec.applies_iff w_frames).mpr ⟨w_running, w_runnable, w_alone, w_named, w_hears, w_ripe, w_room, w_tables⟩
theorem atStart : AtStart classFile x code maxLocals ret World_1 tables_1 room_1 Calls_1 rest_1 Pre_1 launch0 p0 e0 about1 theMethod args0 below0 :=
  ⟨lists_1, trivial, launch0.admits_env _ _ _, launch0.least_env, fairChoices_fair.cas, fairChoices_fair.clock, w_frames, w_args, w_heap, w_applies, trivial, trivial, w_case⟩
end start1
theorem witness_1 : WitnessClaimed_1 := ⟨start1.p0, start1.e0, start1.about1, start1.theMethod, start1.args0, start1.below0, start1.atStart⟩
end Jvm.Pilot.@@N@@
