import JvmDerived
import JvmDerived.Pilot.@@N@@Statement
import JvmDerived.Pilot.@@N@@Code
set_option linter.unusedVariables false
set_option linter.unusedSimpArgs false
namespace Jvm.RoadKit
open Sem ClassFile Op Lib Jvm.Stand Jvm.Free Jvm.LawKit
section New
variable {p : Program} {l : Launch} {e : Env} {R : Room} {s : State} {m : MethodId} {args : Array Value} {below : List Frame} {meth : Method} {c : Code} {T : State} {locs : List Loc} {cells slots : Nat}
theorem retI (X : Stand p l e R s m args below meth c T locs cells slots) (hx : p.tables.exec = Jvm.exec) {pc : Nat} {Ls : Array Slot} {z : Int32} {rest : List Value} (hret : meth.sig.returnType = some .int) (hd : decode c.code pc = .ok (.ireturn, 1)) {fs : List Frame}
    (hl : ∀ (f : JFrame) (acts : List Action), f.method = m → f.locked = none → f.entered = [] → (doReturn e (T.setTop f) acts (some (.int z))).1 = T.setFrames fs) : Steps p.tables e below (T.setTop (mkF m pc Ls (.int z :: rest))) (T.setFrames fs) := by
  have hm' : T.vm.method? m = some meth := X.method'
  have hn : narrow .int (.int z) = .int z := rfl
  show Steps p.tables e below (T.setTop { method := m, pc := pc, locals := Ls, stack := _ :: rest, locked := none }) _
  jvm_step X.here [X.here.top, hx, hd, hm', hret, hn]
  first | (intro acts; rw [hl _ acts rfl rfl rfl]) | rw [hl _ _ rfl rfl rfl]
  exact Steps.refl _
end New
end Jvm.RoadKit
namespace Jvm.Pilot.@@N@@
open Jvm Jvm.ClassFile Sem Op Lib Jvm.Free Jvm.Stand Jvm.LawKit Jvm.RoadKit Bundle Jvm.Pilot.@@N@@.Jvm.D
theorem own_dupX2 {tb : Tables} [Ours tb] {e : Env} {below : List Frame} {T target : State} {m : MethodId} {c : Code} {g : JFrame} (h : At T m c below) (hx : tb.exec = Jvm.exec) (hg : g.method = m) {x y z : Value} {rest : List Value} (hd : decode c.code g.pc = .ok (.dup_x2, 1)) (hs : g.stack = x :: y :: z :: rest) (hc : x.category = 1) (hc' : y.category = 1) (hc'' : z.category = 1)
    (hr : Steps tb e below (T.setTop { g with pc := g.pc + 1, stack := x :: y :: z :: x :: rest }) target) : Steps tb e below (T.setTop g) target := by
  subst hg
  jvm_step h [h.top, hx, hd, hs, hc, hc', hc'']
  exact hr
theorem own_os3 {z0 : Value} {i1 i2 : Int32} {s3 : Slot} {v : Int32} (h : One s3) : storeLocals #[.val z0, .val (.int i1), .val (.int i2), s3] 3 (.int v) = some #[.val z0, .val (.int i1), .val (.int i2), .val (.int v)] := by
  rcases h with rfl | ⟨w, rfl, hw⟩
  · rfl
  · cases w <;> first | rfl | (simp [Value.category] at hw)
def own_I (Z : State) (h : Heap) (a : Addr) (xs : List Int32) : Prop := xs.length ≤ 3 ∧ ∃ k, Arv Z h a k .int (Int32.ofNat xs.length) (xs.map Value.int) (.int (0 : Int32))
theorem own_n32 {n : Nat} (hn : n ≤ 3) : (Int32.ofNat n).toNatClampNeg = n := by
  match n, hn with
  | 0, _ => decide
  | 1, _ => decide
  | 2, _ => decide
  | 3, _ => decide
theorem own_nn {n : Nat} (hn : n ≤ 3) : ¬ (Int32.ofNat n < 0) := by
  match n, hn with
  | 0, _ => decide
  | 1, _ => decide
  | 2, _ => decide
  | 3, _ => decide
theorem own_lt {i n : Nat} (h : i < n) (hn : n ≤ 3) : Int32.ofNat i < Int32.ofNat n := by
  match n, i, hn, h with
  | 1, 0, _, _ => decide
  | 2, 0, _, _ => decide
  | 2, 1, _, _ => decide
  | 3, 0, _, _ => decide
  | 3, 1, _, _ => decide
  | 3, 2, _, _ => decide
theorem own_one (i : Nat) : Int32.ofNat i + (1 : Int32) = Int32.ofNat (i + 1) := (Int32.ofNat_add i 1).symm
theorem own_map (xs : List Int32) (i : Nat) : (xs.map Value.int).getD i (.int (0 : Int32)) = .int (xs.getD i 0) := by
  induction xs generalizing i with
  | nil => rfl
  | cons x xs ih =>
    cases i with
    | zero => rfl
    | succ i => exact ih i
theorem own_mset (xs : List Int32) (i : Nat) (v : Int32) : (xs.map Value.int).set i (.int v) = (xs.set i v).map Value.int := by
  induction xs generalizing i with
  | nil => rfl
  | cons x xs ih =>
    cases i with
    | zero => rfl
    | succ i => simp only [List.map_cons, List.set_cons_succ, ih]
theorem own_hin {cl : Cell} {n : Nat} {j : Int32} (S : cl.slots.size = (Int32.ofNat n).toNatClampNeg) (hn : n ≤ 3) (h0 : ¬ j < 0) (h1 : j.toNatClampNeg < n) : ¬ (j < 0 ∨ cl.slots.size ≤ j.toNatClampNeg) := by
  rw [S, own_n32 hn]
  exact fun q => q.elim h0 (fun q => by omega)
theorem own_hat {cl : Cell} {xs : List Int32} {j : Int32} (S : cl.slots.size = (Int32.ofNat xs.length).toNatClampNeg) (H : Has cl (xs.map Value.int) (.int (0 : Int32))) (hn : xs.length ≤ 3) (h1 : j.toNatClampNeg < xs.length) : cl.slots[j.toNatClampNeg]? = some (.int (xs.getD j.toNatClampNeg 0)) := by
  rw [← own_map]
  exact H _ (by rw [S, own_n32 hn]; exact h1)
theorem own_I.other {Z : State} {h h' : Heap} {a b : Addr} {xs : List Int32} {sl : Nat} {v : Value} (V : own_I Z h b xs) (W : Wr h h' a sl v) (q : b ≠ a) : own_I Z h' b xs := by
  obtain ⟨hl, k, V⟩ := V
  exact ⟨hl, k, V.other W q⟩
theorem own_I.ext {Z : State} {h h' : Heap} {b : Addr} {xs : List Int32} (V : own_I Z h b xs) (E : Ext h h') : own_I Z h' b xs := by
  obtain ⟨hl, k, V⟩ := V
  exact ⟨hl, k, V.ext E⟩
theorem own_I.lt {Z : State} {h : Heap} {b : Addr} {xs : List Int32} (V : own_I Z h b xs) : b < h.size := by
  obtain ⟨hl, k, V⟩ := V
  exact V.lt
theorem own_I.put {Z : State} {h h' : Heap} {b : Addr} {xs : List Int32} {j v : Int32} (V : own_I Z h b xs) (W : Wr h h' b j.toNatClampNeg (.int v)) (h1 : j.toNatClampNeg < xs.length) : own_I Z h' b (xs.set j.toNatClampNeg v) := by
  obtain ⟨hl, k, cl, Ar, q1, S, M, H, G⟩ := V
  refine ⟨by rw [List.length_set]; exact hl, k, ?_⟩
  rw [List.length_set, ← own_mset]
  exact Arv.set Ar q1 S M H G rfl W _ rfl (by rw [List.length_map]; exact h1)
theorem own_rep (n : Nat) : ∀ i, ((List.replicate n (0 : Int32)).map Value.int).getD i (.int (0 : Int32)) = ([] : List Value).getD i (.int (0 : Int32)) := fun i => by
  rw [own_map]
  have e : (List.replicate n (0 : Int32)).getD i 0 = 0 := by
    induction n generalizing i with
    | zero => rfl
    | succ n ih =>
      cases i with
      | zero => rfl
      | succ i => exact ih i
  rw [e]
  rfl
theorem own_I.new {Z : State} {h : Heap} {b : Addr} {k : ClassId} {z : Int32} (A : Arr Z h b (newA k .int z) .int) (h0 : ¬ z < 0) (h3 : z.toNatClampNeg ≤ 3) : own_I Z h b (List.replicate z.toNatClampNeg 0) := by
  refine ⟨by rw [List.length_replicate]; exact h3, k, ?_⟩
  rw [List.length_replicate]
  have e : Int32.ofNat z.toNatClampNeg = z := (back32 h0).1
  rw [e]
  exact (Arv.new A h0).pad (own_rep _)
abbrev own_T := Nat × List Int32 × List Int32 × List Int32 × Int32
def own_mc : own_T → Int32 → own_T
  | (ni, st, en, co, ky), k => if en.getD k.toNatClampNeg 0 = (0 : Int32) then (ni, st, en.set k.toNatClampNeg (en.getD k.toNatClampNeg 0 + 1), co.set ky.toNatClampNeg k, ky + 1) else (ni, st, en.set k.toNatClampNeg (en.getD k.toNatClampNeg 0 + 1), co, ky)
def own_okc : own_T → Int32 → Bool
  | (ni, st, en, co, ky), k => decide (¬ k < 0) && decide (k.toNatClampNeg < en.length) && (decide (¬ en.getD k.toNatClampNeg 0 = (0 : Int32)) || (decide (¬ ky < 0) && decide (ky.toNatClampNeg < co.length)))
def own_ma : own_T → Int32 → own_T
  | (ni, st, en, co, ky), k => (ni, st, en.set k.toNatClampNeg (en.getD k.toNatClampNeg 0 + 1), co, ky)
def own_oka : own_T → Int32 → Bool
  | (ni, st, en, co, ky), k => decide (¬ k < 0) && decide (k.toNatClampNeg < en.length) && decide (¬ en.getD k.toNatClampNeg 0 < 0) && decide ((en.getD k.toNatClampNeg 0).toNatClampNeg < ni)
def own_key (co : List Int32) (i : Nat) : Int32 := co.getD (Int32.ofNat i).toNatClampNeg 0
def own_pt (st en : List Int32) (key tot : Int32) : List Int32 × List Int32 := (st.set key.toNatClampNeg tot, en.set key.toNatClampNeg ((st.set key.toNatClampNeg tot).getD key.toNatClampNeg 0))
def own_pl : Nat → Nat → List Int32 → List Int32 → List Int32 → Int32 → List Int32 × List Int32 × Int32
  | 0, _, st, en, _, tot => (st, en, tot)
  | k + 1, i, st, en, co, tot => own_pl k (i + 1) (own_pt st en (own_key co i) tot).1 (own_pt st en (own_key co i) tot).2 co (tot + en.getD (own_key co i).toNatClampNeg 0)
def own_okp : Nat → Nat → List Int32 → List Int32 → List Int32 → Int32 → Bool
  | 0, _, _, _, _, _ => true
  | k + 1, i, st, en, co, tot => decide (i < 3) && decide (i < co.length) && decide (¬ own_key co i < 0) && decide ((own_key co i).toNatClampNeg < st.length) && decide ((own_key co i).toNatClampNeg < en.length) && own_okp k (i + 1) (own_pt st en (own_key co i) tot).1 (own_pt st en (own_key co i) tot).2 co (tot + en.getD (own_key co i).toNatClampNeg 0)
def own_mp : own_T → own_T
  | (ni, st, en, co, ky) => (if Int32.ofNat ni < (own_pl ky.toNatClampNeg 0 st en co 0).2.2 then (own_pl ky.toNatClampNeg 0 st en co 0).2.2.toNatClampNeg else ni, (own_pl ky.toNatClampNeg 0 st en co 0).1, (own_pl ky.toNatClampNeg 0 st en co 0).2.1, co, ky)
def own_okP : own_T → Bool
  | (ni, st, en, co, ky) => decide (¬ ky < 0) && decide (ky.toNatClampNeg ≤ 3) && decide (Int32.ofNat ky.toNatClampNeg = ky) && own_okp ky.toNatClampNeg 0 st en co 0 && decide (¬ (own_pl ky.toNatClampNeg 0 st en co 0).2.2 < 0) && decide ((own_pl ky.toNatClampNeg 0 st en co 0).2.2.toNatClampNeg ≤ 3)
def own_st (s : own_T) (k : Int32) : Int32 := s.2.1.getD k.toNatClampNeg 0
def own_en (s : own_T) (k : Int32) : Int32 := s.2.2.1.getD k.toNatClampNeg 0
def own_cnt (k a b c : Int32) : Int32 := ((if a = k then (1 : Int32) else (0 : Int32)) + (if b = k then (1 : Int32) else (0 : Int32))) + (if c = k then (1 : Int32) else (0 : Int32))
def own_first (k a b c : Int32) : Int32 := if a = k then (0 : Int32) else if b = k then (1 : Int32) else if c = k then (2 : Int32) else (3 : Int32)
def own_ref (k a b c : Int32) : Int32 := if own_cnt k a b c = (0 : Int32) then (0 : Int32) else ((if own_first (0 : Int32) a b c < own_first k a b c then own_cnt (0 : Int32) a b c else (0 : Int32)) + (if own_first (1 : Int32) a b c < own_first k a b c then own_cnt (1 : Int32) a b c else (0 : Int32))) + (if own_first (2 : Int32) a b c < own_first k a b c then own_cnt (2 : Int32) a b c else (0 : Int32))
def own_cc (s : own_T) (k : Int32) : own_T := if k < (3 : Int32) then own_mc s k else s
def own_ca (s : own_T) (k : Int32) : own_T := if k < (3 : Int32) then own_ma s k else s
def own_s0 : own_T := (0, [0, 0, 0], [0, 0, 0], [0, 0, 0], 0)
def own_len3 (s : own_T) : Bool := decide (s.2.1.length = 3) && decide (s.2.2.1.length = 3)
def own_all (a b c : Int32) : Bool :=
  let s1 := own_cc own_s0 a
  let s2 := own_cc s1 b
  let s3 := own_cc s2 c
  let s4 := own_mp s3
  let s5 := own_ca s4 a
  let s6 := own_ca s5 b
  let s7 := own_ca s6 c
  (!decide (a < (3 : Int32)) || own_okc own_s0 a) && (!decide (b < (3 : Int32)) || own_okc s1 b) && (!decide (c < (3 : Int32)) || own_okc s2 c) && own_okP s3 && own_len3 s4 && own_len3 s7
    && (!decide (a < (3 : Int32)) || own_oka s4 a) && (!decide (b < (3 : Int32)) || own_oka s5 b) && (!decide (c < (3 : Int32)) || own_oka s6 c)
    && decide (own_st s4 (0 : Int32) = own_ref (0 : Int32) a b c) && decide (own_st s4 (1 : Int32) = own_ref (1 : Int32) a b c) && decide (own_st s4 (2 : Int32) = own_ref (2 : Int32) a b c)
    && decide (own_en s7 (0 : Int32) = own_ref (0 : Int32) a b c + own_cnt (0 : Int32) a b c) && decide (own_en s7 (1 : Int32) = own_ref (1 : Int32) a b c + own_cnt (1 : Int32) a b c) && decide (own_en s7 (2 : Int32) = own_ref (2 : Int32) a b c + own_cnt (2 : Int32) a b c)
theorem own_all64 : ∀ a b c : Fin 4, own_all (Int32.ofNat a.val) (Int32.ofNat b.val) (Int32.ofNat c.val) = true := by decide +kernel
theorem own_k4 (y v : Int32) (h : v = y &&& (3 : Int32)) : ∃ f : Fin 4, v = Int32.ofNat f.val := by
  have h1 := c_and y (3 : Int32) (by decide)
  rw [← h] at h1
  have e3 : (3 : Int32).toInt = 3 := by decide
  rw [e3] at h1
  have key : ∀ k : Int32, v.toInt = k.toInt → v = k := fun k q => Int32.toInt_inj.mp q
  have d : v.toInt = 0 ∨ v.toInt = 1 ∨ v.toInt = 2 ∨ v.toInt = 3 := by omega
  rcases d with d | d | d | d
  · exact ⟨0, key (Int32.ofNat 0) d⟩
  · exact ⟨1, key (Int32.ofNat 1) d⟩
  · exact ⟨2, key (Int32.ofNat 2) d⟩
  · exact ⟨3, key (Int32.ofNat 3) d⟩
theorem own_allI (x y z a b c : Int32) (ha : a = x &&& (3 : Int32)) (hb : b = y &&& (3 : Int32)) (hc : c = z &&& (3 : Int32)) : own_all a b c = true := by
  obtain ⟨fa, rfl⟩ := own_k4 x a ha
  obtain ⟨fb, rfl⟩ := own_k4 y b hb
  obtain ⟨fc, rfl⟩ := own_k4 z c hc
  exact own_all64 fa fb fc
def own_S (Z : State) (h : Heap) (n0 : Nat) (a : Addr) (s : own_T) : Prop := ∃ (bI bS bE bC : Addr) (its : List Int32), Exa Z h a "com/example/prune/prune/mdp/Lists" ∧ Fld Z h a "com/example/prune/prune/mdp/Lists" "items" "[I" (.ref bI) ∧ Fld Z h a "com/example/prune/prune/mdp/Lists" "starts" "[I" (.ref bS) ∧ Fld Z h a "com/example/prune/prune/mdp/Lists" "ends" "[I" (.ref bE) ∧ Fld Z h a "com/example/prune/prune/mdp/Lists" "counted" "[I" (.ref bC) ∧ Fld Z h a "com/example/prune/prune/mdp/Lists" "keys" "I" (.int s.2.2.2.2) ∧ own_I Z h bI its ∧ its.length = s.1 ∧ own_I Z h bS s.2.1 ∧ own_I Z h bE s.2.2.1 ∧ own_I Z h bC s.2.2.2.1 ∧ (bI ≠ bS ∧ bI ≠ bE ∧ bI ≠ bC ∧ bS ≠ bE ∧ bS ≠ bC ∧ bE ≠ bC) ∧ (a ≠ bI ∧ a ≠ bS ∧ a ≠ bE ∧ a ≠ bC) ∧ (n0 ≤ a ∧ n0 ≤ bI ∧ n0 ≤ bS ∧ n0 ≤ bE ∧ n0 ≤ bC)
theorem own_okc_e {ni : Nat} {st en co : List Int32} {ky k : Int32} (h : own_okc (ni, st, en, co, ky) k = true) : ¬ k < 0 ∧ k.toNatClampNeg < en.length ∧ (en.getD k.toNatClampNeg 0 = (0 : Int32) → ¬ ky < 0 ∧ ky.toNatClampNeg < co.length) := by
  simp only [own_okc, Bool.and_eq_true, Bool.or_eq_true, decide_eq_true_eq] at h
  obtain ⟨⟨h1, h2⟩, h3⟩ := h
  exact ⟨h1, h2, fun q => h3.elim (fun z => absurd q z) id⟩
theorem own_oka_e {ni : Nat} {st en co : List Int32} {ky k : Int32} (h : own_oka (ni, st, en, co, ky) k = true) : ¬ k < 0 ∧ k.toNatClampNeg < en.length ∧ ¬ en.getD k.toNatClampNeg 0 < 0 ∧ (en.getD k.toNatClampNeg 0).toNatClampNeg < ni := by
  simp only [own_oka, Bool.and_eq_true, decide_eq_true_eq] at h
  obtain ⟨⟨⟨h1, h2⟩, h3⟩, h4⟩ := h
  exact ⟨h1, h2, h3, h4⟩
theorem own_okP_e {ni : Nat} {st en co : List Int32} {ky : Int32} (h : own_okP (ni, st, en, co, ky) = true) : ¬ ky < 0 ∧ ky.toNatClampNeg ≤ 3 ∧ Int32.ofNat ky.toNatClampNeg = ky ∧ own_okp ky.toNatClampNeg 0 st en co 0 = true ∧ ¬ (own_pl ky.toNatClampNeg 0 st en co 0).2.2 < 0 ∧ (own_pl ky.toNatClampNeg 0 st en co 0).2.2.toNatClampNeg ≤ 3 := by
  simp only [own_okP, Bool.and_eq_true, decide_eq_true_eq] at h
  obtain ⟨⟨⟨⟨⟨h1, h2⟩, h3⟩, h4⟩, h5⟩, h6⟩ := h
  exact ⟨h1, h2, h3, h4, h5, h6⟩
theorem own_okp_e {k i : Nat} {st en co : List Int32} {tot : Int32} (h : own_okp (k + 1) i st en co tot = true) : i < 3 ∧ i < co.length ∧ ¬ own_key co i < 0 ∧ (own_key co i).toNatClampNeg < st.length ∧ (own_key co i).toNatClampNeg < en.length ∧ own_okp k (i + 1) (own_pt st en (own_key co i) tot).1 (own_pt st en (own_key co i) tot).2 co (tot + en.getD (own_key co i).toNatClampNeg 0) = true := by
  rw [own_okp] at h
  simp only [Bool.and_eq_true, decide_eq_true_eq] at h
  obtain ⟨⟨⟨⟨⟨h1, h2⟩, h3⟩, h4⟩, h5⟩, h6⟩ := h
  exact ⟨h1, h2, h3, h4, h5, h6⟩
theorem d1_0 : decode prog_50_method_1_code 0 = .ok (.aload_n 0, 1) := by decide +kernel
theorem d1_1 : decode prog_50_method_1_code 1 = .ok (.invokespecial 1, 3) := by decide +kernel
theorem d1_4 : decode prog_50_method_1_code 4 = .ok (.aload_n 0, 1) := by decide +kernel
theorem d1_5 : decode prog_50_method_1_code 5 = .ok (.iconst 0, 1) := by decide +kernel
theorem d1_6 : decode prog_50_method_1_code 6 = .ok (.newarray .int, 2) := by decide +kernel
theorem d1_8 : decode prog_50_method_1_code 8 = .ok (.putfield 7, 3) := by decide +kernel
theorem d1_11 : decode prog_50_method_1_code 11 = .ok (.aload_n 0, 1) := by decide +kernel
theorem d1_12 : decode prog_50_method_1_code 12 = .ok (.iload_n 1, 1) := by decide +kernel
theorem d1_13 : decode prog_50_method_1_code 13 = .ok (.newarray .int, 2) := by decide +kernel
theorem d1_15 : decode prog_50_method_1_code 15 = .ok (.putfield 13, 3) := by decide +kernel
theorem d1_18 : decode prog_50_method_1_code 18 = .ok (.aload_n 0, 1) := by decide +kernel
theorem d1_19 : decode prog_50_method_1_code 19 = .ok (.iload_n 1, 1) := by decide +kernel
theorem d1_20 : decode prog_50_method_1_code 20 = .ok (.newarray .int, 2) := by decide +kernel
theorem d1_22 : decode prog_50_method_1_code 22 = .ok (.putfield 16, 3) := by decide +kernel
theorem d1_25 : decode prog_50_method_1_code 25 = .ok (.aload_n 0, 1) := by decide +kernel
theorem d1_26 : decode prog_50_method_1_code 26 = .ok (.iload_n 1, 1) := by decide +kernel
theorem d1_27 : decode prog_50_method_1_code 27 = .ok (.newarray .int, 2) := by decide +kernel
theorem d1_29 : decode prog_50_method_1_code 29 = .ok (.putfield 19, 3) := by decide +kernel
theorem d1_32 : decode prog_50_method_1_code 32 = .ok (.return_, 1) := by decide +kernel
theorem pn_1 : plainName "com/example/prune/prune/mdp/Lists" = true := by first | (simp [plainName, overriddenIn]; done) | decide +kernel
theorem ef_1 (m : MethodId) (x0 : Addr) (x1 : Int32) : entryFrame m #[(.ref x0), (.int x1)] 2 = mkF m 0 #[.val (.ref x0), .val (.int x1)] [] := by first | (simp [entryFrame, mkF, argsToLocals, Value.category]; done) | rfl
def Q1 (Z : State) (a1 : Addr) (h0 : Heap) (n0 : Nat) (v : Option Value) (h : Heap) (L : List Loc) : Prop := v = none ∧ Fr n0 L ∧ n0 ≤ h.size ∧ own_S Z h n0 a1 own_s0
set_option maxRecDepth 65536 in
set_option maxHeartbeats 40000000 in
theorem rm1 (l : Launch) (Z : State) (a0 : Array Value) (hw : ∀ d ∈ tables_1, d.before a0 Z = true) (ws : List Jvm.Cond) (a1 : Addr) (h0 : Heap) (n0 : Nat) (Z0 : n0 ≤ h0.size) (Ex0 : Exa Z h0 a1 "com/example/prune/prune/mdp/Lists") (F0_items : Fld Z h0 a1 "com/example/prune/prune/mdp/Lists" "items" "[I" .null) (F0_starts : Fld Z h0 a1 "com/example/prune/prune/mdp/Lists" "starts" "[I" .null) (F0_ends : Fld Z h0 a1 "com/example/prune/prune/mdp/Lists" "ends" "[I" .null) (F0_counted : Fld Z h0 a1 "com/example/prune/prune/mdp/Lists" "counted" "[I" .null) (F0_keys : Fld Z h0 a1 "com/example/prune/prune/mdp/Lists" "keys" "I" (.int (0 : Int32))) (ga : n0 ≤ a1) :
    MetFree l (⟨"com/example/prune/prune/mdp/Lists", "<init>", "(I)V"⟩ : MethodName) (head1 (Jvm.Cond.code (⟨"com/example/prune/prune/mdp/Lists", "<init>", "(I)V"⟩ : MethodName) prog_50_method_1_code 2 none :: ws) ({ frames := 1, cells := 4, slots := 9, locals := 12 } : Room)) (fun a U => a = #[(.ref a1), (.int (3 : Int32))] ∧ Z.Warmed39 U.vm ∧ U.heap = h0) (fun _ _ _ _ _ => True) (fun _ U o U' => ∃ v L, o = .returned v ∧ Q1 Z a1 h0 n0 v U'.heap L ∧ FrameEnd U o U' L ({ frames := 1, cells := 4, slots := 9, locals := 12 } : Room).cells ({ frames := 1, cells := 4, slots := 9, locals := 12 } : Room).slots) := by
  refine MetFree.of_bodySF (plainFor_of_name pn_1) hisR ?_
  intro p e s m args below meth c s₁ Bd hml0 hP hK
  obtain ⟨rfl, hZ, hh⟩ := hP
  have hx := Bd.exec
  have hby := Bd.bytes
  have hml : c.maxLocals = 2 := hml0
  have hown : s.vm.findClass "com/example/prune/prune/mdp/Lists" = some m.cls := findClass_of_methodNamed Bd.named
  have hnm := (name_of_methodNamed Bd.named Bd.method).1
  have X0 : Stand p l e ({ frames := 1, cells := 4, slots := 9, locals := 12 } : Room) s m #[(.ref a1), (.int (3 : Int32))] below meth c s₁ [] 0 0 := Stand.of_body Bd
  have e0 : s₁.heap = h0 := by rw [← hh, Bd.state]; rfl
  have N0 := Fr.nil n0
  have pre0 : ∀ t, Steps p.tables e below (s₁.setTop (mkF m 0 #[.val (.ref a1), .val (.int (3 : Int32))] [])) t → Steps p.tables e below (s₁.setTop (entryFrame m #[(.ref a1), (.int (3 : Int32))] 2)) t := fun t k => castTop (ef_1 m a1 (3 : Int32)) k
  obtain ⟨T1, X1, e1, st1⟩ := initO X0 hx hZ hown (hw _ (List.mem_of_getElem? (i := 6) rfl)) (hw _ (List.mem_of_getElem? (i := 7) rfl)) (hw _ (List.mem_of_getElem? (i := 8) rfl)) e0 (g := (mkF m 1 #[.val (.ref a1), .val (.int (3 : Int32))] [(.ref a1)])) rfl (by rw [hml]; rfl) rfl (hb hby d1_1) (by decide) (W := 0) (by show 2 * 0 + _ ≤ _; exact Nat.le_of_eq rfl) (by decide)
  obtain ⟨T2, h2, k2, X2, e2, E2, A2, st2⟩ := newP X1 hx hZ (hw _ (List.mem_of_getElem? (i := 9) rfl)) e1 (g := (mkF m 6 #[.val (.ref a1), .val (.int (3 : Int32))] [(.int (0 : Int32)), (.ref a1)])) rfl (hb hby d1_6) rfl (by decide) (cap := 0) (by decide) (by decide) (by decide) (by decide)
  obtain ⟨bI, g2⟩ : ∃ z, z = h0.size := ⟨_, rfl⟩
  rw [← g2] at A2 st2
  have gI : n0 ≤ bI := Nat.le_trans Z0 (Nat.le_of_eq g2.symm)
  have aI : a1 ≠ bI := Nat.ne_of_lt (Nat.lt_of_lt_of_le (Ex0).lt (Nat.le_of_eq g2.symm))
  have Fe2_items := (F0_items).ext E2
  have Fe2_starts := (F0_starts).ext E2
  have Fe2_ends := (F0_ends).ext E2
  have Fe2_counted := (F0_counted).ext E2
  have Fe2_keys := (F0_keys).ext E2
  have Exe2 := (Ex0).ext E2
  have Ze2 : n0 ≤ h2.size := Nat.le_trans Z0 E2.1
  have VnI : own_I Z h2 bI [] := own_I.new A2 (by decide) (by decide)
  obtain ⟨T3, h3, X3, e3, W3, st3⟩ := putF X2 hx hZ hown (host := "") (Or.inl (hw _ (List.mem_of_getElem? (i := 10) rfl))) Via.refl e2 Fe2_items Exe2 (Or.inl (hw _ (List.mem_of_getElem? (i := 11) rfl))) (hw _ (List.mem_of_getElem? (i := 1) rfl)) (ty := (.array .int)) (by decide) rfl rfl (g := (mkF m 8 #[.val (.ref a1), .val (.int (3 : Int32))] [(.ref bI), (.ref a1)])) rfl rfl (hb hby d1_8)
  have F3_items : Fld Z h3 a1 "com/example/prune/prune/mdp/Lists" "items" "[I" (.ref bI) := (Fe2_items).same W3
  have F3_starts : Fld Z h3 a1 "com/example/prune/prune/mdp/Lists" "starts" "[I" .null := (Fe2_starts).other W3 (Or.inr (slot_ne (Or.inr (hw _ (List.mem_of_getElem? (i := 13) rfl))) (Or.inl (hw _ (List.mem_of_getElem? (i := 11) rfl))) (by decide) (t := (.array .int)) (t' := (.array .int)) (by decide) (by decide)))
  have F3_ends : Fld Z h3 a1 "com/example/prune/prune/mdp/Lists" "ends" "[I" .null := (Fe2_ends).other W3 (Or.inr (slot_ne (Or.inr (hw _ (List.mem_of_getElem? (i := 15) rfl))) (Or.inl (hw _ (List.mem_of_getElem? (i := 11) rfl))) (by decide) (t := (.array .int)) (t' := (.array .int)) (by decide) (by decide)))
  have F3_counted : Fld Z h3 a1 "com/example/prune/prune/mdp/Lists" "counted" "[I" .null := (Fe2_counted).other W3 (Or.inr (slot_ne (Or.inr (hw _ (List.mem_of_getElem? (i := 17) rfl))) (Or.inl (hw _ (List.mem_of_getElem? (i := 11) rfl))) (by decide) (t := (.array .int)) (t' := (.array .int)) (by decide) (by decide)))
  have F3_keys : Fld Z h3 a1 "com/example/prune/prune/mdp/Lists" "keys" "I" (.int (0 : Int32)) := (Fe2_keys).other W3 (Or.inr (slot_ne (Or.inl (hw _ (List.mem_of_getElem? (i := 24) rfl))) (Or.inl (hw _ (List.mem_of_getElem? (i := 11) rfl))) (by decide) (t := .int) (t' := (.array .int)) (by decide) (by decide)))
  have Ex3 : Exa Z h3 a1 "com/example/prune/prune/mdp/Lists" := (Exe2).wr W3
  have Zs3 : n0 ≤ h3.size := Nat.le_trans Ze2 (Keep.of_wr W3).1
  have V3_I : own_I Z h3 bI [] := own_I.other VnI W3 aI.symm
  have N3 := Fr.snoc X3 N0 ga
  obtain ⟨T4, h4, k4, X4, e4, E4, A4, st4⟩ := newP X3 hx hZ (hw _ (List.mem_of_getElem? (i := 9) rfl)) e3 (g := (mkF m 13 #[.val (.ref a1), .val (.int (3 : Int32))] [(.int (3 : Int32)), (.ref a1)])) rfl (hb hby d1_13) rfl (by decide) (cap := 3) (by decide) (by decide) (by decide) (by decide)
  obtain ⟨bS, g4⟩ : ∃ z, z = h3.size := ⟨_, rfl⟩
  rw [← g4] at A4 st4
  have gS : n0 ≤ bS := Nat.le_trans Zs3 (Nat.le_of_eq g4.symm)
  have aS : a1 ≠ bS := Nat.ne_of_lt (Nat.lt_of_lt_of_le (Ex3).lt (Nat.le_of_eq g4.symm))
  have nIS : bI ≠ bS := Nat.ne_of_lt (Nat.lt_of_lt_of_le (own_I.lt V3_I) (Nat.le_of_eq g4.symm))
  have Fe4_items := (F3_items).ext E4
  have Fe4_starts := (F3_starts).ext E4
  have Fe4_ends := (F3_ends).ext E4
  have Fe4_counted := (F3_counted).ext E4
  have Fe4_keys := (F3_keys).ext E4
  have Exe4 := (Ex3).ext E4
  have Ze4 : n0 ≤ h4.size := Nat.le_trans Zs3 E4.1
  have Ve4_I := own_I.ext V3_I E4
  have VnS : own_I Z h4 bS [0, 0, 0] := own_I.new A4 (by decide) (by decide)
  obtain ⟨T5, h5, X5, e5, W5, st5⟩ := putF X4 hx hZ hown (host := "") (Or.inl (hw _ (List.mem_of_getElem? (i := 12) rfl))) Via.refl e4 Fe4_starts Exe4 (Or.inr ⟨(hw _ (List.mem_of_getElem? (i := 13) rfl)), rfl, hnm⟩) (hw _ (List.mem_of_getElem? (i := 1) rfl)) (ty := (.array .int)) (by decide) rfl rfl (g := (mkF m 15 #[.val (.ref a1), .val (.int (3 : Int32))] [(.ref bS), (.ref a1)])) rfl rfl (hb hby d1_15)
  have F5_items : Fld Z h5 a1 "com/example/prune/prune/mdp/Lists" "items" "[I" (.ref bI) := (Fe4_items).other W5 (Or.inr (slot_ne (Or.inl (hw _ (List.mem_of_getElem? (i := 11) rfl))) (Or.inr (hw _ (List.mem_of_getElem? (i := 13) rfl))) (by decide) (t := (.array .int)) (t' := (.array .int)) (by decide) (by decide)))
  have F5_starts : Fld Z h5 a1 "com/example/prune/prune/mdp/Lists" "starts" "[I" (.ref bS) := (Fe4_starts).same W5
  have F5_ends : Fld Z h5 a1 "com/example/prune/prune/mdp/Lists" "ends" "[I" .null := (Fe4_ends).other W5 (Or.inr (slot_ne (Or.inr (hw _ (List.mem_of_getElem? (i := 15) rfl))) (Or.inr (hw _ (List.mem_of_getElem? (i := 13) rfl))) (by decide) (t := (.array .int)) (t' := (.array .int)) (by decide) (by decide)))
  have F5_counted : Fld Z h5 a1 "com/example/prune/prune/mdp/Lists" "counted" "[I" .null := (Fe4_counted).other W5 (Or.inr (slot_ne (Or.inr (hw _ (List.mem_of_getElem? (i := 17) rfl))) (Or.inr (hw _ (List.mem_of_getElem? (i := 13) rfl))) (by decide) (t := (.array .int)) (t' := (.array .int)) (by decide) (by decide)))
  have F5_keys : Fld Z h5 a1 "com/example/prune/prune/mdp/Lists" "keys" "I" (.int (0 : Int32)) := (Fe4_keys).other W5 (Or.inr (slot_ne (Or.inl (hw _ (List.mem_of_getElem? (i := 24) rfl))) (Or.inr (hw _ (List.mem_of_getElem? (i := 13) rfl))) (by decide) (t := .int) (t' := (.array .int)) (by decide) (by decide)))
  have Ex5 : Exa Z h5 a1 "com/example/prune/prune/mdp/Lists" := (Exe4).wr W5
  have Zs5 : n0 ≤ h5.size := Nat.le_trans Ze4 (Keep.of_wr W5).1
  have V5_I : own_I Z h5 bI [] := own_I.other Ve4_I W5 aI.symm
  have V5_S : own_I Z h5 bS [0, 0, 0] := own_I.other VnS W5 aS.symm
  have N5 := Fr.snoc X5 N3 ga
  obtain ⟨T6, h6, k6, X6, e6, E6, A6, st6⟩ := newP X5 hx hZ (hw _ (List.mem_of_getElem? (i := 9) rfl)) e5 (g := (mkF m 20 #[.val (.ref a1), .val (.int (3 : Int32))] [(.int (3 : Int32)), (.ref a1)])) rfl (hb hby d1_20) rfl (by decide) (cap := 3) (by decide) (by decide) (by decide) (by decide)
  obtain ⟨bE, g6⟩ : ∃ z, z = h5.size := ⟨_, rfl⟩
  rw [← g6] at A6 st6
  have gE : n0 ≤ bE := Nat.le_trans Zs5 (Nat.le_of_eq g6.symm)
  have aE : a1 ≠ bE := Nat.ne_of_lt (Nat.lt_of_lt_of_le (Ex5).lt (Nat.le_of_eq g6.symm))
  have nIE : bI ≠ bE := Nat.ne_of_lt (Nat.lt_of_lt_of_le (own_I.lt V5_I) (Nat.le_of_eq g6.symm))
  have nSE : bS ≠ bE := Nat.ne_of_lt (Nat.lt_of_lt_of_le (own_I.lt V5_S) (Nat.le_of_eq g6.symm))
  have Fe6_items := (F5_items).ext E6
  have Fe6_starts := (F5_starts).ext E6
  have Fe6_ends := (F5_ends).ext E6
  have Fe6_counted := (F5_counted).ext E6
  have Fe6_keys := (F5_keys).ext E6
  have Exe6 := (Ex5).ext E6
  have Ze6 : n0 ≤ h6.size := Nat.le_trans Zs5 E6.1
  have Ve6_I := own_I.ext V5_I E6
  have Ve6_S := own_I.ext V5_S E6
  have VnE : own_I Z h6 bE [0, 0, 0] := own_I.new A6 (by decide) (by decide)
  obtain ⟨T7, h7, X7, e7, W7, st7⟩ := putF X6 hx hZ hown (host := "") (Or.inl (hw _ (List.mem_of_getElem? (i := 14) rfl))) Via.refl e6 Fe6_ends Exe6 (Or.inr ⟨(hw _ (List.mem_of_getElem? (i := 15) rfl)), rfl, hnm⟩) (hw _ (List.mem_of_getElem? (i := 1) rfl)) (ty := (.array .int)) (by decide) rfl rfl (g := (mkF m 22 #[.val (.ref a1), .val (.int (3 : Int32))] [(.ref bE), (.ref a1)])) rfl rfl (hb hby d1_22)
  have F7_items : Fld Z h7 a1 "com/example/prune/prune/mdp/Lists" "items" "[I" (.ref bI) := (Fe6_items).other W7 (Or.inr (slot_ne (Or.inl (hw _ (List.mem_of_getElem? (i := 11) rfl))) (Or.inr (hw _ (List.mem_of_getElem? (i := 15) rfl))) (by decide) (t := (.array .int)) (t' := (.array .int)) (by decide) (by decide)))
  have F7_starts : Fld Z h7 a1 "com/example/prune/prune/mdp/Lists" "starts" "[I" (.ref bS) := (Fe6_starts).other W7 (Or.inr (slot_ne (Or.inr (hw _ (List.mem_of_getElem? (i := 13) rfl))) (Or.inr (hw _ (List.mem_of_getElem? (i := 15) rfl))) (by decide) (t := (.array .int)) (t' := (.array .int)) (by decide) (by decide)))
  have F7_ends : Fld Z h7 a1 "com/example/prune/prune/mdp/Lists" "ends" "[I" (.ref bE) := (Fe6_ends).same W7
  have F7_counted : Fld Z h7 a1 "com/example/prune/prune/mdp/Lists" "counted" "[I" .null := (Fe6_counted).other W7 (Or.inr (slot_ne (Or.inr (hw _ (List.mem_of_getElem? (i := 17) rfl))) (Or.inr (hw _ (List.mem_of_getElem? (i := 15) rfl))) (by decide) (t := (.array .int)) (t' := (.array .int)) (by decide) (by decide)))
  have F7_keys : Fld Z h7 a1 "com/example/prune/prune/mdp/Lists" "keys" "I" (.int (0 : Int32)) := (Fe6_keys).other W7 (Or.inr (slot_ne (Or.inl (hw _ (List.mem_of_getElem? (i := 24) rfl))) (Or.inr (hw _ (List.mem_of_getElem? (i := 15) rfl))) (by decide) (t := .int) (t' := (.array .int)) (by decide) (by decide)))
  have Ex7 : Exa Z h7 a1 "com/example/prune/prune/mdp/Lists" := (Exe6).wr W7
  have Zs7 : n0 ≤ h7.size := Nat.le_trans Ze6 (Keep.of_wr W7).1
  have V7_I : own_I Z h7 bI [] := own_I.other Ve6_I W7 aI.symm
  have V7_S : own_I Z h7 bS [0, 0, 0] := own_I.other Ve6_S W7 aS.symm
  have V7_E : own_I Z h7 bE [0, 0, 0] := own_I.other VnE W7 aE.symm
  have N7 := Fr.snoc X7 N5 ga
  obtain ⟨T8, h8, k8, X8, e8, E8, A8, st8⟩ := newP X7 hx hZ (hw _ (List.mem_of_getElem? (i := 9) rfl)) e7 (g := (mkF m 27 #[.val (.ref a1), .val (.int (3 : Int32))] [(.int (3 : Int32)), (.ref a1)])) rfl (hb hby d1_27) rfl (by decide) (cap := 3) (by decide) (by decide) (by decide) (by decide)
  obtain ⟨bC, g8⟩ : ∃ z, z = h7.size := ⟨_, rfl⟩
  rw [← g8] at A8 st8
  have gC : n0 ≤ bC := Nat.le_trans Zs7 (Nat.le_of_eq g8.symm)
  have aC : a1 ≠ bC := Nat.ne_of_lt (Nat.lt_of_lt_of_le (Ex7).lt (Nat.le_of_eq g8.symm))
  have nIC : bI ≠ bC := Nat.ne_of_lt (Nat.lt_of_lt_of_le (own_I.lt V7_I) (Nat.le_of_eq g8.symm))
  have nSC : bS ≠ bC := Nat.ne_of_lt (Nat.lt_of_lt_of_le (own_I.lt V7_S) (Nat.le_of_eq g8.symm))
  have nEC : bE ≠ bC := Nat.ne_of_lt (Nat.lt_of_lt_of_le (own_I.lt V7_E) (Nat.le_of_eq g8.symm))
  have Fe8_items := (F7_items).ext E8
  have Fe8_starts := (F7_starts).ext E8
  have Fe8_ends := (F7_ends).ext E8
  have Fe8_counted := (F7_counted).ext E8
  have Fe8_keys := (F7_keys).ext E8
  have Exe8 := (Ex7).ext E8
  have Ze8 : n0 ≤ h8.size := Nat.le_trans Zs7 E8.1
  have Ve8_I := own_I.ext V7_I E8
  have Ve8_S := own_I.ext V7_S E8
  have Ve8_E := own_I.ext V7_E E8
  have VnC : own_I Z h8 bC [0, 0, 0] := own_I.new A8 (by decide) (by decide)
  obtain ⟨T9, h9, X9, e9, W9, st9⟩ := putF X8 hx hZ hown (host := "") (Or.inl (hw _ (List.mem_of_getElem? (i := 16) rfl))) Via.refl e8 Fe8_counted Exe8 (Or.inr ⟨(hw _ (List.mem_of_getElem? (i := 17) rfl)), rfl, hnm⟩) (hw _ (List.mem_of_getElem? (i := 1) rfl)) (ty := (.array .int)) (by decide) rfl rfl (g := (mkF m 29 #[.val (.ref a1), .val (.int (3 : Int32))] [(.ref bC), (.ref a1)])) rfl rfl (hb hby d1_29)
  have F9_items : Fld Z h9 a1 "com/example/prune/prune/mdp/Lists" "items" "[I" (.ref bI) := (Fe8_items).other W9 (Or.inr (slot_ne (Or.inl (hw _ (List.mem_of_getElem? (i := 11) rfl))) (Or.inr (hw _ (List.mem_of_getElem? (i := 17) rfl))) (by decide) (t := (.array .int)) (t' := (.array .int)) (by decide) (by decide)))
  have F9_starts : Fld Z h9 a1 "com/example/prune/prune/mdp/Lists" "starts" "[I" (.ref bS) := (Fe8_starts).other W9 (Or.inr (slot_ne (Or.inr (hw _ (List.mem_of_getElem? (i := 13) rfl))) (Or.inr (hw _ (List.mem_of_getElem? (i := 17) rfl))) (by decide) (t := (.array .int)) (t' := (.array .int)) (by decide) (by decide)))
  have F9_ends : Fld Z h9 a1 "com/example/prune/prune/mdp/Lists" "ends" "[I" (.ref bE) := (Fe8_ends).other W9 (Or.inr (slot_ne (Or.inr (hw _ (List.mem_of_getElem? (i := 15) rfl))) (Or.inr (hw _ (List.mem_of_getElem? (i := 17) rfl))) (by decide) (t := (.array .int)) (t' := (.array .int)) (by decide) (by decide)))
  have F9_counted : Fld Z h9 a1 "com/example/prune/prune/mdp/Lists" "counted" "[I" (.ref bC) := (Fe8_counted).same W9
  have F9_keys : Fld Z h9 a1 "com/example/prune/prune/mdp/Lists" "keys" "I" (.int (0 : Int32)) := (Fe8_keys).other W9 (Or.inr (slot_ne (Or.inl (hw _ (List.mem_of_getElem? (i := 24) rfl))) (Or.inr (hw _ (List.mem_of_getElem? (i := 17) rfl))) (by decide) (t := .int) (t' := (.array .int)) (by decide) (by decide)))
  have Ex9 : Exa Z h9 a1 "com/example/prune/prune/mdp/Lists" := (Exe8).wr W9
  have Zs9 : n0 ≤ h9.size := Nat.le_trans Ze8 (Keep.of_wr W9).1
  have V9_I : own_I Z h9 bI [] := own_I.other Ve8_I W9 aI.symm
  have V9_S : own_I Z h9 bS [0, 0, 0] := own_I.other Ve8_S W9 aS.symm
  have V9_E : own_I Z h9 bE [0, 0, 0] := own_I.other Ve8_E W9 aE.symm
  have V9_C : own_I Z h9 bC [0, 0, 0] := own_I.other VnC W9 aC.symm
  have N9 := Fr.snoc X9 N7 ga
  obtain ⟨fs, hr, hrun, hended, hW, hsame⟩ := X9.leave (v := none) (fun _ => rfl)
  refine ⟨_, _, pre0 _ ?_, hrun, hended, _, _, rfl, ?_, ⟨_, rfl⟩, hW, hsame.mono (by decide) (by decide)⟩
  · show Steps p.tables e below (s₁.setTop (mkF m 0 #[.val (.ref a1), .val (.int (3 : Int32))] [])) _
    refine XS.aloadN X0.here hx rfl (hb hby d1_0) rfl rfl ?_
    show Steps p.tables e below (s₁.setTop (mkF m 1 #[.val (.ref a1), .val (.int (3 : Int32))] [(.ref a1)])) _
    refine st1 _ ?_
    show Steps p.tables e below (T1.setTop (mkF m 4 #[.val (.ref a1), .val (.int (3 : Int32))] [])) _
    refine XS.aloadN X1.here hx rfl (hb hby d1_4) rfl rfl ?_
    show Steps p.tables e below (T1.setTop (mkF m 5 #[.val (.ref a1), .val (.int (3 : Int32))] [(.ref a1)])) _
    refine XS.iconst X1.here hx rfl (hb hby d1_5) ?_
    show Steps p.tables e below (T1.setTop (mkF m 6 #[.val (.ref a1), .val (.int (3 : Int32))] [(.int (0 : Int32)), (.ref a1)])) _
    refine st2 _ ?_
    show Steps p.tables e below (T2.setTop (mkF m 8 #[.val (.ref a1), .val (.int (3 : Int32))] [(.ref bI), (.ref a1)])) _
    refine st3 _ ?_
    show Steps p.tables e below (T3.setTop (mkF m 11 #[.val (.ref a1), .val (.int (3 : Int32))] [])) _
    refine XS.aloadN X3.here hx rfl (hb hby d1_11) rfl rfl ?_
    show Steps p.tables e below (T3.setTop (mkF m 12 #[.val (.ref a1), .val (.int (3 : Int32))] [(.ref a1)])) _
    refine XS.iloadN X3.here hx rfl (hb hby d1_12) rfl ?_
    show Steps p.tables e below (T3.setTop (mkF m 13 #[.val (.ref a1), .val (.int (3 : Int32))] [(.int (3 : Int32)), (.ref a1)])) _
    refine st4 _ ?_
    show Steps p.tables e below (T4.setTop (mkF m 15 #[.val (.ref a1), .val (.int (3 : Int32))] [(.ref bS), (.ref a1)])) _
    refine st5 _ ?_
    show Steps p.tables e below (T5.setTop (mkF m 18 #[.val (.ref a1), .val (.int (3 : Int32))] [])) _
    refine XS.aloadN X5.here hx rfl (hb hby d1_18) rfl rfl ?_
    show Steps p.tables e below (T5.setTop (mkF m 19 #[.val (.ref a1), .val (.int (3 : Int32))] [(.ref a1)])) _
    refine XS.iloadN X5.here hx rfl (hb hby d1_19) rfl ?_
    show Steps p.tables e below (T5.setTop (mkF m 20 #[.val (.ref a1), .val (.int (3 : Int32))] [(.int (3 : Int32)), (.ref a1)])) _
    refine st6 _ ?_
    show Steps p.tables e below (T6.setTop (mkF m 22 #[.val (.ref a1), .val (.int (3 : Int32))] [(.ref bE), (.ref a1)])) _
    refine st7 _ ?_
    show Steps p.tables e below (T7.setTop (mkF m 25 #[.val (.ref a1), .val (.int (3 : Int32))] [])) _
    refine XS.aloadN X7.here hx rfl (hb hby d1_25) rfl rfl ?_
    show Steps p.tables e below (T7.setTop (mkF m 26 #[.val (.ref a1), .val (.int (3 : Int32))] [(.ref a1)])) _
    refine XS.iloadN X7.here hx rfl (hb hby d1_26) rfl ?_
    show Steps p.tables e below (T7.setTop (mkF m 27 #[.val (.ref a1), .val (.int (3 : Int32))] [(.int (3 : Int32)), (.ref a1)])) _
    refine st8 _ ?_
    show Steps p.tables e below (T8.setTop (mkF m 29 #[.val (.ref a1), .val (.int (3 : Int32))] [(.ref bC), (.ref a1)])) _
    refine st9 _ ?_
    show Steps p.tables e below (T9.setTop (mkF m 32 #[.val (.ref a1), .val (.int (3 : Int32))] [])) _
    exact X9.returnOut hx Bd.returns (hb hby d1_32) hr
  · show Q1 Z a1 h0 n0 _ T9.heap _
    rw [e9]
    exact ⟨rfl, N9, Zs9, ⟨bI, bS, bE, bC, [], Ex9, F9_items, F9_starts, F9_ends, F9_counted, F9_keys, V9_I, rfl, V9_S, V9_E, V9_C, ⟨nIS, nIE, nIC, nSE, nSC, nEC⟩, ⟨aI, aS, aE, aC⟩, ⟨ga, gI, gS, gE, gC⟩⟩⟩
theorem d3_0 : decode prog_50_method_3_code 0 = .ok (.aload_n 0, 1) := by decide +kernel
theorem d3_1 : decode prog_50_method_3_code 1 = .ok (.getfield 16, 3) := by decide +kernel
theorem d3_4 : decode prog_50_method_3_code 4 = .ok (.iload_n 1, 1) := by decide +kernel
theorem d3_5 : decode prog_50_method_3_code 5 = .ok (.iaload, 1) := by decide +kernel
theorem d3_6 : decode prog_50_method_3_code 6 = .ok (.ifCond .ne 20, 3) := by decide +kernel
theorem d3_9 : decode prog_50_method_3_code 9 = .ok (.aload_n 0, 1) := by decide +kernel
theorem d3_10 : decode prog_50_method_3_code 10 = .ok (.getfield 19, 3) := by decide +kernel
theorem d3_13 : decode prog_50_method_3_code 13 = .ok (.aload_n 0, 1) := by decide +kernel
theorem d3_14 : decode prog_50_method_3_code 14 = .ok (.dup, 1) := by decide +kernel
theorem d3_15 : decode prog_50_method_3_code 15 = .ok (.getfield 22, 3) := by decide +kernel
theorem d3_18 : decode prog_50_method_3_code 18 = .ok (.dup_x1, 1) := by decide +kernel
theorem d3_19 : decode prog_50_method_3_code 19 = .ok (.iconst 1, 1) := by decide +kernel
theorem d3_20 : decode prog_50_method_3_code 20 = .ok (.iadd, 1) := by decide +kernel
theorem d3_21 : decode prog_50_method_3_code 21 = .ok (.putfield 22, 3) := by decide +kernel
theorem d3_24 : decode prog_50_method_3_code 24 = .ok (.iload_n 1, 1) := by decide +kernel
theorem d3_25 : decode prog_50_method_3_code 25 = .ok (.iastore, 1) := by decide +kernel
theorem d3_26 : decode prog_50_method_3_code 26 = .ok (.aload_n 0, 1) := by decide +kernel
theorem d3_27 : decode prog_50_method_3_code 27 = .ok (.getfield 16, 3) := by decide +kernel
theorem d3_30 : decode prog_50_method_3_code 30 = .ok (.iload_n 1, 1) := by decide +kernel
theorem d3_31 : decode prog_50_method_3_code 31 = .ok (.dup2, 1) := by decide +kernel
theorem d3_32 : decode prog_50_method_3_code 32 = .ok (.iaload, 1) := by decide +kernel
theorem d3_33 : decode prog_50_method_3_code 33 = .ok (.iconst 1, 1) := by decide +kernel
theorem d3_34 : decode prog_50_method_3_code 34 = .ok (.iadd, 1) := by decide +kernel
theorem d3_35 : decode prog_50_method_3_code 35 = .ok (.iastore, 1) := by decide +kernel
theorem d3_36 : decode prog_50_method_3_code 36 = .ok (.return_, 1) := by decide +kernel
theorem pn_3 : plainName "com/example/prune/prune/mdp/Lists" = true := by first | (simp [plainName, overriddenIn]; done) | decide +kernel
theorem ef_3 (m : MethodId) (x0 : Addr) (x1 : Int32) : entryFrame m #[(.ref x0), (.int x1)] 2 = mkF m 0 #[.val (.ref x0), .val (.int x1)] [] := by first | (simp [entryFrame, mkF, argsToLocals, Value.category]; done) | rfl
def Q3 (Z : State) (a1 : Addr) (p2 : Int32) (ni : Nat) (st : List Int32) (en : List Int32) (co : List Int32) (ky : Int32) (h0 : Heap) (n0 : Nat) (v : Option Value) (h : Heap) (L : List Loc) : Prop := v = none ∧ Fr n0 L ∧ n0 ≤ h.size ∧ own_S Z h n0 a1 (own_mc (ni, st, en, co, ky) p2)
set_option maxRecDepth 65536 in
set_option maxHeartbeats 40000000 in
theorem rm3_a (l : Launch) (Z : State) (a0 : Array Value) (hw : ∀ d ∈ tables_1, d.before a0 Z = true) (ws : List Jvm.Cond) (a1 : Addr) (p2 : Int32) (ni : Nat) (st : List Int32) (en : List Int32) (co : List Int32) (ky : Int32) (h0 : Heap) (n0 : Nat) (Z0 : n0 ≤ h0.size) (HS : own_S Z h0 n0 a1 (ni, st, en, co, ky)) (hok : own_okc (ni, st, en, co, ky) p2 = true) (hz : (en.getD (p2).toNatClampNeg 0) = (0 : Int32)) :
    MetFree l (⟨"com/example/prune/prune/mdp/Lists", "count", "(I)V"⟩ : MethodName) (head1 (Jvm.Cond.code (⟨"com/example/prune/prune/mdp/Lists", "count", "(I)V"⟩ : MethodName) prog_50_method_3_code 2 none :: ws) ({ frames := 0, cells := 0, slots := 0, locals := 0 } : Room)) (fun a U => a = #[(.ref a1), (.int p2)] ∧ Z.Warmed39 U.vm ∧ U.heap = h0) (fun _ _ _ _ _ => True) (fun _ U o U' => ∃ v L, o = .returned v ∧ Q3 Z a1 p2 ni st en co ky h0 n0 v U'.heap L ∧ FrameEnd U o U' L ({ frames := 0, cells := 0, slots := 0, locals := 0 } : Room).cells ({ frames := 0, cells := 0, slots := 0, locals := 0 } : Room).slots) := by
  refine MetFree.of_bodySF (plainFor_of_name pn_3) hisR ?_
  intro p e s m args below meth c s₁ Bd hml0 hP hK
  obtain ⟨rfl, hZ, hh⟩ := hP
  have hx := Bd.exec
  have hby := Bd.bytes
  have hml : c.maxLocals = 2 := hml0
  have hown : s.vm.findClass "com/example/prune/prune/mdp/Lists" = some m.cls := findClass_of_methodNamed Bd.named
  have hnm := (name_of_methodNamed Bd.named Bd.method).1
  have X0 : Stand p l e ({ frames := 0, cells := 0, slots := 0, locals := 0 } : Room) s m #[(.ref a1), (.int p2)] below meth c s₁ [] 0 0 := Stand.of_body Bd
  have e0 : s₁.heap = h0 := by rw [← hh, Bd.state]; rfl
  have N0 := Fr.nil n0
  have pre0 : ∀ t, Steps p.tables e below (s₁.setTop (mkF m 0 #[.val (.ref a1), .val (.int p2)] [])) t → Steps p.tables e below (s₁.setTop (entryFrame m #[(.ref a1), (.int p2)] 2)) t := fun t k => castTop (ef_3 m a1 p2) k
  obtain ⟨bI, bS, bE, bC, its, Ex0, F0_items, F0_starts, F0_ends, F0_counted, F0_keys, VI0, hni, VS0, VE0, VC0, ⟨nIS, nIE, nIC, nSE, nSC, nEC⟩, ⟨aI, aS, aE, aC⟩, ⟨ga, gI, gS, gE, gC⟩⟩ := id HS
  have VV0_I : own_I Z h0 bI its := VI0
  have VV0_S : own_I Z h0 bS st := VS0
  have VV0_E : own_I Z h0 bE en := VE0
  have VV0_C : own_I Z h0 bC co := VC0
  have FF0_keys : Fld Z h0 a1 "com/example/prune/prune/mdp/Lists" "keys" "I" (.int ky) := F0_keys
  obtain ⟨hk0, hk1, hk2⟩ := own_okc_e hok
  obtain ⟨T1, X1, e1, st1⟩ := getF X0 hx hZ hown (host := "") (Or.inl (hw _ (List.mem_of_getElem? (i := 14) rfl))) Via.refl e0 F0_ends (g := (mkF m 1 #[.val (.ref a1), .val (.int p2)] [(.ref a1)])) rfl rfl (hb hby d3_1)
  obtain ⟨hl2, k2, cl2, Ar2, qq2, S2, M2, H2, G2⟩ := id VV0_E
  obtain ⟨hy0, hy1⟩ := hk2 hz
  obtain ⟨T3, X3, e3, st3⟩ := getF X1 hx hZ hown (host := "") (Or.inl (hw _ (List.mem_of_getElem? (i := 16) rfl))) Via.refl e1 F0_counted (g := (mkF m 10 #[.val (.ref a1), .val (.int p2)] [(.ref a1)])) rfl rfl (hb hby d3_10)
  obtain ⟨T4, X4, e4, st4⟩ := getF X3 hx hZ hown (host := "") (Or.inl (hw _ (List.mem_of_getElem? (i := 23) rfl))) Via.refl e3 FF0_keys (g := (mkF m 15 #[.val (.ref a1), .val (.int p2)] [(.ref a1), (.ref a1), (.ref bC)])) rfl rfl (hb hby d3_15)
  obtain ⟨T5, h5, X5, e5, W5, st5⟩ := putF X4 hx hZ hown (host := "") (Or.inl (hw _ (List.mem_of_getElem? (i := 23) rfl))) Via.refl e4 FF0_keys Ex0 (Or.inl (hw _ (List.mem_of_getElem? (i := 24) rfl))) (hw _ (List.mem_of_getElem? (i := 1) rfl)) (ty := .int) (by decide) rfl rfl (g := (mkF m 21 #[.val (.ref a1), .val (.int p2)] [(.int (ky + (1 : Int32))), (.ref a1), (.int ky), (.ref bC)])) rfl rfl (hb hby d3_21)
  have F5_items : Fld Z h5 a1 "com/example/prune/prune/mdp/Lists" "items" "[I" (.ref bI) := (F0_items).other W5 (Or.inr (slot_ne (Or.inl (hw _ (List.mem_of_getElem? (i := 11) rfl))) (Or.inl (hw _ (List.mem_of_getElem? (i := 24) rfl))) (by decide) (t := (.array .int)) (t' := .int) (by decide) (by decide)))
  have F5_starts : Fld Z h5 a1 "com/example/prune/prune/mdp/Lists" "starts" "[I" (.ref bS) := (F0_starts).other W5 (Or.inr (slot_ne (Or.inr (hw _ (List.mem_of_getElem? (i := 13) rfl))) (Or.inl (hw _ (List.mem_of_getElem? (i := 24) rfl))) (by decide) (t := (.array .int)) (t' := .int) (by decide) (by decide)))
  have F5_ends : Fld Z h5 a1 "com/example/prune/prune/mdp/Lists" "ends" "[I" (.ref bE) := (F0_ends).other W5 (Or.inr (slot_ne (Or.inr (hw _ (List.mem_of_getElem? (i := 15) rfl))) (Or.inl (hw _ (List.mem_of_getElem? (i := 24) rfl))) (by decide) (t := (.array .int)) (t' := .int) (by decide) (by decide)))
  have F5_counted : Fld Z h5 a1 "com/example/prune/prune/mdp/Lists" "counted" "[I" (.ref bC) := (F0_counted).other W5 (Or.inr (slot_ne (Or.inr (hw _ (List.mem_of_getElem? (i := 17) rfl))) (Or.inl (hw _ (List.mem_of_getElem? (i := 24) rfl))) (by decide) (t := (.array .int)) (t' := .int) (by decide) (by decide)))
  have F5_keys : Fld Z h5 a1 "com/example/prune/prune/mdp/Lists" "keys" "I" (.int (ky + (1 : Int32))) := (FF0_keys).same W5
  have Ex5 : Exa Z h5 a1 "com/example/prune/prune/mdp/Lists" := (Ex0).wr W5
  have Zs5 : n0 ≤ h5.size := Nat.le_trans Z0 (Keep.of_wr W5).1
  have V5_I : own_I Z h5 bI its := own_I.other VV0_I W5 aI.symm
  have V5_S : own_I Z h5 bS st := own_I.other VV0_S W5 aS.symm
  have V5_E : own_I Z h5 bE en := own_I.other VV0_E W5 aE.symm
  have V5_C : own_I Z h5 bC co := own_I.other VV0_C W5 aC.symm
  have N5 := Fr.snoc X5 N0 ga
  obtain ⟨hl6, k6, cl6, Ar6, qq6, S6, M6, H6, G6⟩ := id V5_C
  obtain ⟨T7, h7, X7, e7, W7, st7⟩ := stI X5 hx hZ e5 Ar6 (j := ky) (own_hin S6 hl6 hy0 hy1) (g := (mkF m 25 #[.val (.ref a1), .val (.int p2)] [(.int p2), (.int ky), (.ref bC)])) rfl rfl (hb hby d3_25)
  have F7_items : Fld Z h7 a1 "com/example/prune/prune/mdp/Lists" "items" "[I" (.ref bI) := (F5_items).other W7 (Or.inl aC)
  have F7_starts : Fld Z h7 a1 "com/example/prune/prune/mdp/Lists" "starts" "[I" (.ref bS) := (F5_starts).other W7 (Or.inl aC)
  have F7_ends : Fld Z h7 a1 "com/example/prune/prune/mdp/Lists" "ends" "[I" (.ref bE) := (F5_ends).other W7 (Or.inl aC)
  have F7_counted : Fld Z h7 a1 "com/example/prune/prune/mdp/Lists" "counted" "[I" (.ref bC) := (F5_counted).other W7 (Or.inl aC)
  have F7_keys : Fld Z h7 a1 "com/example/prune/prune/mdp/Lists" "keys" "I" (.int (ky + (1 : Int32))) := (F5_keys).other W7 (Or.inl aC)
  have Ex7 : Exa Z h7 a1 "com/example/prune/prune/mdp/Lists" := (Ex5).wr W7
  have Zs7 : n0 ≤ h7.size := Nat.le_trans Zs5 (Keep.of_wr W7).1
  have V7_I : own_I Z h7 bI its := own_I.other V5_I W7 nIC
  have V7_S : own_I Z h7 bS st := own_I.other V5_S W7 nSC
  have V7_E : own_I Z h7 bE en := own_I.other V5_E W7 nEC
  have V7_C : own_I Z h7 bC (co.set (ky).toNatClampNeg p2) := own_I.put V5_C W7 hy1
  have N7 := Fr.snoc X7 N5 gC
  obtain ⟨T8, X8, e8, st8⟩ := getF X7 hx hZ hown (host := "") (Or.inl (hw _ (List.mem_of_getElem? (i := 14) rfl))) Via.refl e7 F7_ends (g := (mkF m 27 #[.val (.ref a1), .val (.int p2)] [(.ref a1)])) rfl rfl (hb hby d3_27)
  obtain ⟨hl9, k9, cl9, Ar9, qq9, S9, M9, H9, G9⟩ := id V7_E
  obtain ⟨hl10, k10, cl10, Ar10, qq10, S10, M10, H10, G10⟩ := id V7_E
  obtain ⟨T11, h11, X11, e11, W11, st11⟩ := stI X8 hx hZ e8 Ar10 (j := p2) (own_hin S10 hl10 hk0 hk1) (g := (mkF m 35 #[.val (.ref a1), .val (.int p2)] [(.int ((en.getD (p2).toNatClampNeg 0) + (1 : Int32))), (.int p2), (.ref bE)])) rfl rfl (hb hby d3_35)
  have F11_items : Fld Z h11 a1 "com/example/prune/prune/mdp/Lists" "items" "[I" (.ref bI) := (F7_items).other W11 (Or.inl aE)
  have F11_starts : Fld Z h11 a1 "com/example/prune/prune/mdp/Lists" "starts" "[I" (.ref bS) := (F7_starts).other W11 (Or.inl aE)
  have F11_ends : Fld Z h11 a1 "com/example/prune/prune/mdp/Lists" "ends" "[I" (.ref bE) := (F7_ends).other W11 (Or.inl aE)
  have F11_counted : Fld Z h11 a1 "com/example/prune/prune/mdp/Lists" "counted" "[I" (.ref bC) := (F7_counted).other W11 (Or.inl aE)
  have F11_keys : Fld Z h11 a1 "com/example/prune/prune/mdp/Lists" "keys" "I" (.int (ky + (1 : Int32))) := (F7_keys).other W11 (Or.inl aE)
  have Ex11 : Exa Z h11 a1 "com/example/prune/prune/mdp/Lists" := (Ex7).wr W11
  have Zs11 : n0 ≤ h11.size := Nat.le_trans Zs7 (Keep.of_wr W11).1
  have V11_I : own_I Z h11 bI its := own_I.other V7_I W11 nIE
  have V11_S : own_I Z h11 bS st := own_I.other V7_S W11 nSE
  have V11_E : own_I Z h11 bE (en.set (p2).toNatClampNeg ((en.getD (p2).toNatClampNeg 0) + (1 : Int32))) := own_I.put V7_E W11 hk1
  have V11_C : own_I Z h11 bC (co.set (ky).toNatClampNeg p2) := own_I.other V7_C W11 (Ne.symm nEC)
  have N11 := Fr.snoc X11 N7 gE
  obtain ⟨fs, hr, hrun, hended, hW, hsame⟩ := X11.leave (v := none) (fun _ => rfl)
  refine ⟨_, _, pre0 _ ?_, hrun, hended, _, _, rfl, ?_, ⟨_, rfl⟩, hW, hsame.mono (by decide) (by decide)⟩
  · show Steps p.tables e below (s₁.setTop (mkF m 0 #[.val (.ref a1), .val (.int p2)] [])) _
    refine XS.aloadN X0.here hx rfl (hb hby d3_0) rfl rfl ?_
    show Steps p.tables e below (s₁.setTop (mkF m 1 #[.val (.ref a1), .val (.int p2)] [(.ref a1)])) _
    refine st1 _ ?_
    show Steps p.tables e below (T1.setTop (mkF m 4 #[.val (.ref a1), .val (.int p2)] [(.ref bE)])) _
    refine XS.iloadN X1.here hx rfl (hb hby d3_4) rfl ?_
    show Steps p.tables e below (T1.setTop (mkF m 5 #[.val (.ref a1), .val (.int p2)] [(.int p2), (.ref bE)])) _
    refine X1.iaload hx (j := p2) (v := (.int (en.getD (p2).toNatClampNeg 0))) (by first | exact Ar2.1 | (rw [e1]; exact Ar2.1)) (State.isArrayOf_alike hZ.alike Ar2.2.1) Ar2.2.2 (own_hin S2 hl2 hk0 hk1) (own_hat S2 H2 hl2 hk1) (g := (mkF m 5 #[.val (.ref a1), .val (.int p2)] [(.int p2), (.ref bE)])) rfl rfl (hb hby d3_5) _ ?_
    show Steps p.tables e below (T1.setTop (mkF m 6 #[.val (.ref a1), .val (.int p2)] [(.int (en.getD (p2).toNatClampNeg 0))])) _
    refine XS.ifNo X1.here hx rfl (hb hby d3_6) rfl ((if0 _ _).trans (teq hz).2) ?_
    show Steps p.tables e below (T1.setTop (mkF m 9 #[.val (.ref a1), .val (.int p2)] [])) _
    refine XS.aloadN X1.here hx rfl (hb hby d3_9) rfl rfl ?_
    show Steps p.tables e below (T1.setTop (mkF m 10 #[.val (.ref a1), .val (.int p2)] [(.ref a1)])) _
    refine st3 _ ?_
    show Steps p.tables e below (T3.setTop (mkF m 13 #[.val (.ref a1), .val (.int p2)] [(.ref bC)])) _
    refine XS.aloadN X3.here hx rfl (hb hby d3_13) rfl rfl ?_
    show Steps p.tables e below (T3.setTop (mkF m 14 #[.val (.ref a1), .val (.int p2)] [(.ref a1), (.ref bC)])) _
    refine XS.dup X3.here hx rfl (hb hby d3_14) rfl rfl ?_
    show Steps p.tables e below (T3.setTop (mkF m 15 #[.val (.ref a1), .val (.int p2)] [(.ref a1), (.ref a1), (.ref bC)])) _
    refine st4 _ ?_
    show Steps p.tables e below (T4.setTop (mkF m 18 #[.val (.ref a1), .val (.int p2)] [(.int ky), (.ref a1), (.ref bC)])) _
    refine XS.dupX1 X4.here hx rfl (hb hby d3_18) rfl rfl rfl ?_
    show Steps p.tables e below (T4.setTop (mkF m 19 #[.val (.ref a1), .val (.int p2)] [(.int ky), (.ref a1), (.int ky), (.ref bC)])) _
    refine XS.iconst X4.here hx rfl (hb hby d3_19) ?_
    show Steps p.tables e below (T4.setTop (mkF m 20 #[.val (.ref a1), .val (.int p2)] [(.int (1 : Int32)), (.int ky), (.ref a1), (.int ky), (.ref bC)])) _
    refine XS.iadd X4.here hx rfl (hb hby d3_20) rfl ?_
    show Steps p.tables e below (T4.setTop (mkF m 21 #[.val (.ref a1), .val (.int p2)] [(.int (ky + (1 : Int32))), (.ref a1), (.int ky), (.ref bC)])) _
    refine st5 _ ?_
    show Steps p.tables e below (T5.setTop (mkF m 24 #[.val (.ref a1), .val (.int p2)] [(.int ky), (.ref bC)])) _
    refine XS.iloadN X5.here hx rfl (hb hby d3_24) rfl ?_
    show Steps p.tables e below (T5.setTop (mkF m 25 #[.val (.ref a1), .val (.int p2)] [(.int p2), (.int ky), (.ref bC)])) _
    refine st7 _ ?_
    show Steps p.tables e below (T7.setTop (mkF m 26 #[.val (.ref a1), .val (.int p2)] [])) _
    refine XS.aloadN X7.here hx rfl (hb hby d3_26) rfl rfl ?_
    show Steps p.tables e below (T7.setTop (mkF m 27 #[.val (.ref a1), .val (.int p2)] [(.ref a1)])) _
    refine st8 _ ?_
    show Steps p.tables e below (T8.setTop (mkF m 30 #[.val (.ref a1), .val (.int p2)] [(.ref bE)])) _
    refine XS.iloadN X8.here hx rfl (hb hby d3_30) rfl ?_
    show Steps p.tables e below (T8.setTop (mkF m 31 #[.val (.ref a1), .val (.int p2)] [(.int p2), (.ref bE)])) _
    refine Jvm.Free.XT.dup2 X8.here hx rfl (hb hby d3_31) rfl rfl rfl ?_
    show Steps p.tables e below (T8.setTop (mkF m 32 #[.val (.ref a1), .val (.int p2)] [(.int p2), (.ref bE), (.int p2), (.ref bE)])) _
    refine X8.iaload hx (j := p2) (v := (.int (en.getD (p2).toNatClampNeg 0))) (by first | exact Ar9.1 | (rw [e8]; exact Ar9.1)) (State.isArrayOf_alike hZ.alike Ar9.2.1) Ar9.2.2 (own_hin S9 hl9 hk0 hk1) (own_hat S9 H9 hl9 hk1) (g := (mkF m 32 #[.val (.ref a1), .val (.int p2)] [(.int p2), (.ref bE), (.int p2), (.ref bE)])) rfl rfl (hb hby d3_32) _ ?_
    show Steps p.tables e below (T8.setTop (mkF m 33 #[.val (.ref a1), .val (.int p2)] [(.int (en.getD (p2).toNatClampNeg 0)), (.int p2), (.ref bE)])) _
    refine XS.iconst X8.here hx rfl (hb hby d3_33) ?_
    show Steps p.tables e below (T8.setTop (mkF m 34 #[.val (.ref a1), .val (.int p2)] [(.int (1 : Int32)), (.int (en.getD (p2).toNatClampNeg 0)), (.int p2), (.ref bE)])) _
    refine XS.iadd X8.here hx rfl (hb hby d3_34) rfl ?_
    show Steps p.tables e below (T8.setTop (mkF m 35 #[.val (.ref a1), .val (.int p2)] [(.int ((en.getD (p2).toNatClampNeg 0) + (1 : Int32))), (.int p2), (.ref bE)])) _
    refine st11 _ ?_
    show Steps p.tables e below (T11.setTop (mkF m 36 #[.val (.ref a1), .val (.int p2)] [])) _
    exact X11.returnOut hx Bd.returns (hb hby d3_36) hr
  · show Q3 Z a1 p2 ni st en co ky h0 n0 _ T11.heap _
    rw [e11]
    have hm : own_mc (ni, st, en, co, ky) p2 = (ni, st, (en.set p2.toNatClampNeg (en.getD p2.toNatClampNeg 0 + 1)), co.set ky.toNatClampNeg p2, ky + 1) := if_pos hz
    show _ ∧ _ ∧ _ ∧ own_S Z _ n0 a1 (own_mc (ni, st, en, co, ky) p2)
    rw [hm]
    exact ⟨rfl, N11, Zs11, ⟨bI, bS, bE, bC, its, Ex11, F11_items, F11_starts, F11_ends, F11_counted, F11_keys, V11_I, hni, V11_S, V11_E, V11_C, ⟨nIS, nIE, nIC, nSE, nSC, nEC⟩, ⟨aI, aS, aE, aC⟩, ⟨ga, gI, gS, gE, gC⟩⟩⟩
set_option maxRecDepth 65536 in
set_option maxHeartbeats 40000000 in
theorem rm3_b (l : Launch) (Z : State) (a0 : Array Value) (hw : ∀ d ∈ tables_1, d.before a0 Z = true) (ws : List Jvm.Cond) (a1 : Addr) (p2 : Int32) (ni : Nat) (st : List Int32) (en : List Int32) (co : List Int32) (ky : Int32) (h0 : Heap) (n0 : Nat) (Z0 : n0 ≤ h0.size) (HS : own_S Z h0 n0 a1 (ni, st, en, co, ky)) (hok : own_okc (ni, st, en, co, ky) p2 = true) (hz : ¬ ((en.getD (p2).toNatClampNeg 0) = (0 : Int32))) :
    MetFree l (⟨"com/example/prune/prune/mdp/Lists", "count", "(I)V"⟩ : MethodName) (head1 (Jvm.Cond.code (⟨"com/example/prune/prune/mdp/Lists", "count", "(I)V"⟩ : MethodName) prog_50_method_3_code 2 none :: ws) ({ frames := 0, cells := 0, slots := 0, locals := 0 } : Room)) (fun a U => a = #[(.ref a1), (.int p2)] ∧ Z.Warmed39 U.vm ∧ U.heap = h0) (fun _ _ _ _ _ => True) (fun _ U o U' => ∃ v L, o = .returned v ∧ Q3 Z a1 p2 ni st en co ky h0 n0 v U'.heap L ∧ FrameEnd U o U' L ({ frames := 0, cells := 0, slots := 0, locals := 0 } : Room).cells ({ frames := 0, cells := 0, slots := 0, locals := 0 } : Room).slots) := by
  refine MetFree.of_bodySF (plainFor_of_name pn_3) hisR ?_
  intro p e s m args below meth c s₁ Bd hml0 hP hK
  obtain ⟨rfl, hZ, hh⟩ := hP
  have hx := Bd.exec
  have hby := Bd.bytes
  have hml : c.maxLocals = 2 := hml0
  have hown : s.vm.findClass "com/example/prune/prune/mdp/Lists" = some m.cls := findClass_of_methodNamed Bd.named
  have hnm := (name_of_methodNamed Bd.named Bd.method).1
  have X0 : Stand p l e ({ frames := 0, cells := 0, slots := 0, locals := 0 } : Room) s m #[(.ref a1), (.int p2)] below meth c s₁ [] 0 0 := Stand.of_body Bd
  have e0 : s₁.heap = h0 := by rw [← hh, Bd.state]; rfl
  have N0 := Fr.nil n0
  have pre0 : ∀ t, Steps p.tables e below (s₁.setTop (mkF m 0 #[.val (.ref a1), .val (.int p2)] [])) t → Steps p.tables e below (s₁.setTop (entryFrame m #[(.ref a1), (.int p2)] 2)) t := fun t k => castTop (ef_3 m a1 p2) k
  obtain ⟨bI, bS, bE, bC, its, Ex0, F0_items, F0_starts, F0_ends, F0_counted, F0_keys, VI0, hni, VS0, VE0, VC0, ⟨nIS, nIE, nIC, nSE, nSC, nEC⟩, ⟨aI, aS, aE, aC⟩, ⟨ga, gI, gS, gE, gC⟩⟩ := id HS
  have VV0_I : own_I Z h0 bI its := VI0
  have VV0_S : own_I Z h0 bS st := VS0
  have VV0_E : own_I Z h0 bE en := VE0
  have VV0_C : own_I Z h0 bC co := VC0
  have FF0_keys : Fld Z h0 a1 "com/example/prune/prune/mdp/Lists" "keys" "I" (.int ky) := F0_keys
  obtain ⟨hk0, hk1, hk2⟩ := own_okc_e hok
  obtain ⟨T1, X1, e1, st1⟩ := getF X0 hx hZ hown (host := "") (Or.inl (hw _ (List.mem_of_getElem? (i := 14) rfl))) Via.refl e0 F0_ends (g := (mkF m 1 #[.val (.ref a1), .val (.int p2)] [(.ref a1)])) rfl rfl (hb hby d3_1)
  obtain ⟨hl2, k2, cl2, Ar2, qq2, S2, M2, H2, G2⟩ := id VV0_E
  obtain ⟨T3, X3, e3, st3⟩ := getF X1 hx hZ hown (host := "") (Or.inl (hw _ (List.mem_of_getElem? (i := 14) rfl))) Via.refl e1 F0_ends (g := (mkF m 27 #[.val (.ref a1), .val (.int p2)] [(.ref a1)])) rfl rfl (hb hby d3_27)
  obtain ⟨hl4, k4, cl4, Ar4, qq4, S4, M4, H4, G4⟩ := id VV0_E
  obtain ⟨hl5, k5, cl5, Ar5, qq5, S5, M5, H5, G5⟩ := id VV0_E
  obtain ⟨T6, h6, X6, e6, W6, st6⟩ := stI X3 hx hZ e3 Ar5 (j := p2) (own_hin S5 hl5 hk0 hk1) (g := (mkF m 35 #[.val (.ref a1), .val (.int p2)] [(.int ((en.getD (p2).toNatClampNeg 0) + (1 : Int32))), (.int p2), (.ref bE)])) rfl rfl (hb hby d3_35)
  have F6_items : Fld Z h6 a1 "com/example/prune/prune/mdp/Lists" "items" "[I" (.ref bI) := (F0_items).other W6 (Or.inl aE)
  have F6_starts : Fld Z h6 a1 "com/example/prune/prune/mdp/Lists" "starts" "[I" (.ref bS) := (F0_starts).other W6 (Or.inl aE)
  have F6_ends : Fld Z h6 a1 "com/example/prune/prune/mdp/Lists" "ends" "[I" (.ref bE) := (F0_ends).other W6 (Or.inl aE)
  have F6_counted : Fld Z h6 a1 "com/example/prune/prune/mdp/Lists" "counted" "[I" (.ref bC) := (F0_counted).other W6 (Or.inl aE)
  have F6_keys : Fld Z h6 a1 "com/example/prune/prune/mdp/Lists" "keys" "I" (.int ky) := (FF0_keys).other W6 (Or.inl aE)
  have Ex6 : Exa Z h6 a1 "com/example/prune/prune/mdp/Lists" := (Ex0).wr W6
  have Zs6 : n0 ≤ h6.size := Nat.le_trans Z0 (Keep.of_wr W6).1
  have V6_I : own_I Z h6 bI its := own_I.other VV0_I W6 nIE
  have V6_S : own_I Z h6 bS st := own_I.other VV0_S W6 nSE
  have V6_E : own_I Z h6 bE (en.set (p2).toNatClampNeg ((en.getD (p2).toNatClampNeg 0) + (1 : Int32))) := own_I.put VV0_E W6 hk1
  have V6_C : own_I Z h6 bC co := own_I.other VV0_C W6 (Ne.symm nEC)
  have N6 := Fr.snoc X6 N0 gE
  obtain ⟨fs, hr, hrun, hended, hW, hsame⟩ := X6.leave (v := none) (fun _ => rfl)
  refine ⟨_, _, pre0 _ ?_, hrun, hended, _, _, rfl, ?_, ⟨_, rfl⟩, hW, hsame.mono (by decide) (by decide)⟩
  · show Steps p.tables e below (s₁.setTop (mkF m 0 #[.val (.ref a1), .val (.int p2)] [])) _
    refine XS.aloadN X0.here hx rfl (hb hby d3_0) rfl rfl ?_
    show Steps p.tables e below (s₁.setTop (mkF m 1 #[.val (.ref a1), .val (.int p2)] [(.ref a1)])) _
    refine st1 _ ?_
    show Steps p.tables e below (T1.setTop (mkF m 4 #[.val (.ref a1), .val (.int p2)] [(.ref bE)])) _
    refine XS.iloadN X1.here hx rfl (hb hby d3_4) rfl ?_
    show Steps p.tables e below (T1.setTop (mkF m 5 #[.val (.ref a1), .val (.int p2)] [(.int p2), (.ref bE)])) _
    refine X1.iaload hx (j := p2) (v := (.int (en.getD (p2).toNatClampNeg 0))) (by first | exact Ar2.1 | (rw [e1]; exact Ar2.1)) (State.isArrayOf_alike hZ.alike Ar2.2.1) Ar2.2.2 (own_hin S2 hl2 hk0 hk1) (own_hat S2 H2 hl2 hk1) (g := (mkF m 5 #[.val (.ref a1), .val (.int p2)] [(.int p2), (.ref bE)])) rfl rfl (hb hby d3_5) _ ?_
    show Steps p.tables e below (T1.setTop (mkF m 6 #[.val (.ref a1), .val (.int p2)] [(.int (en.getD (p2).toNatClampNeg 0))])) _
    refine XS.ifYes X1.here hx rfl (pc0 := 6) (pc' := 26) rfl (hb hby d3_6) rfl ((if0 _ _).trans (feq hz).2) (by decide) (by decide) ?_
    show Steps p.tables e below (T1.setTop (mkF m 26 #[.val (.ref a1), .val (.int p2)] [])) _
    refine XS.aloadN X1.here hx rfl (hb hby d3_26) rfl rfl ?_
    show Steps p.tables e below (T1.setTop (mkF m 27 #[.val (.ref a1), .val (.int p2)] [(.ref a1)])) _
    refine st3 _ ?_
    show Steps p.tables e below (T3.setTop (mkF m 30 #[.val (.ref a1), .val (.int p2)] [(.ref bE)])) _
    refine XS.iloadN X3.here hx rfl (hb hby d3_30) rfl ?_
    show Steps p.tables e below (T3.setTop (mkF m 31 #[.val (.ref a1), .val (.int p2)] [(.int p2), (.ref bE)])) _
    refine Jvm.Free.XT.dup2 X3.here hx rfl (hb hby d3_31) rfl rfl rfl ?_
    show Steps p.tables e below (T3.setTop (mkF m 32 #[.val (.ref a1), .val (.int p2)] [(.int p2), (.ref bE), (.int p2), (.ref bE)])) _
    refine X3.iaload hx (j := p2) (v := (.int (en.getD (p2).toNatClampNeg 0))) (by first | exact Ar4.1 | (rw [e3]; exact Ar4.1)) (State.isArrayOf_alike hZ.alike Ar4.2.1) Ar4.2.2 (own_hin S4 hl4 hk0 hk1) (own_hat S4 H4 hl4 hk1) (g := (mkF m 32 #[.val (.ref a1), .val (.int p2)] [(.int p2), (.ref bE), (.int p2), (.ref bE)])) rfl rfl (hb hby d3_32) _ ?_
    show Steps p.tables e below (T3.setTop (mkF m 33 #[.val (.ref a1), .val (.int p2)] [(.int (en.getD (p2).toNatClampNeg 0)), (.int p2), (.ref bE)])) _
    refine XS.iconst X3.here hx rfl (hb hby d3_33) ?_
    show Steps p.tables e below (T3.setTop (mkF m 34 #[.val (.ref a1), .val (.int p2)] [(.int (1 : Int32)), (.int (en.getD (p2).toNatClampNeg 0)), (.int p2), (.ref bE)])) _
    refine XS.iadd X3.here hx rfl (hb hby d3_34) rfl ?_
    show Steps p.tables e below (T3.setTop (mkF m 35 #[.val (.ref a1), .val (.int p2)] [(.int ((en.getD (p2).toNatClampNeg 0) + (1 : Int32))), (.int p2), (.ref bE)])) _
    refine st6 _ ?_
    show Steps p.tables e below (T6.setTop (mkF m 36 #[.val (.ref a1), .val (.int p2)] [])) _
    exact X6.returnOut hx Bd.returns (hb hby d3_36) hr
  · show Q3 Z a1 p2 ni st en co ky h0 n0 _ T6.heap _
    rw [e6]
    have hm : own_mc (ni, st, en, co, ky) p2 = (ni, st, (en.set p2.toNatClampNeg (en.getD p2.toNatClampNeg 0 + 1)), co, ky) := if_neg hz
    show _ ∧ _ ∧ _ ∧ own_S Z _ n0 a1 (own_mc (ni, st, en, co, ky) p2)
    rw [hm]
    exact ⟨rfl, N6, Zs6, ⟨bI, bS, bE, bC, its, Ex6, F6_items, F6_starts, F6_ends, F6_counted, F6_keys, V6_I, hni, V6_S, V6_E, V6_C, ⟨nIS, nIE, nIC, nSE, nSC, nEC⟩, ⟨aI, aS, aE, aC⟩, ⟨ga, gI, gS, gE, gC⟩⟩⟩
set_option maxRecDepth 65536 in
set_option maxHeartbeats 40000000 in
theorem rm3 (l : Launch) (Z : State) (a0 : Array Value) (hw : ∀ d ∈ tables_1, d.before a0 Z = true) (ws : List Jvm.Cond) (a1 : Addr) (p2 : Int32) (ni : Nat) (st : List Int32) (en : List Int32) (co : List Int32) (ky : Int32) (h0 : Heap) (n0 : Nat) (Z0 : n0 ≤ h0.size) (HS : own_S Z h0 n0 a1 (ni, st, en, co, ky)) (hok : own_okc (ni, st, en, co, ky) p2 = true) :
    MetFree l (⟨"com/example/prune/prune/mdp/Lists", "count", "(I)V"⟩ : MethodName) (head1 (Jvm.Cond.code (⟨"com/example/prune/prune/mdp/Lists", "count", "(I)V"⟩ : MethodName) prog_50_method_3_code 2 none :: ws) ({ frames := 0, cells := 0, slots := 0, locals := 0 } : Room)) (fun a U => a = #[(.ref a1), (.int p2)] ∧ Z.Warmed39 U.vm ∧ U.heap = h0) (fun _ _ _ _ _ => True) (fun _ U o U' => ∃ v L, o = .returned v ∧ Q3 Z a1 p2 ni st en co ky h0 n0 v U'.heap L ∧ FrameEnd U o U' L ({ frames := 0, cells := 0, slots := 0, locals := 0 } : Room).cells ({ frames := 0, cells := 0, slots := 0, locals := 0 } : Room).slots) := by
  by_cases hz : (en.getD (p2).toNatClampNeg 0) = (0 : Int32)
  · exact rm3_a l Z a0 hw ws a1 p2 ni st en co ky h0 n0 Z0 HS hok hz
  · exact rm3_b l Z a0 hw ws a1 p2 ni st en co ky h0 n0 Z0 HS hok hz
theorem d9_0 : decode prog_50_method_5_code 0 = .ok (.aload_n 0, 1) := by decide +kernel
theorem d9_1 : decode prog_50_method_5_code 1 = .ok (.getfield 7, 3) := by decide +kernel
theorem d9_4 : decode prog_50_method_5_code 4 = .ok (.aload_n 0, 1) := by decide +kernel
theorem d9_5 : decode prog_50_method_5_code 5 = .ok (.getfield 16, 3) := by decide +kernel
theorem d9_8 : decode prog_50_method_5_code 8 = .ok (.iload_n 1, 1) := by decide +kernel
theorem d9_9 : decode prog_50_method_5_code 9 = .ok (.dup2, 1) := by decide +kernel
theorem d9_10 : decode prog_50_method_5_code 10 = .ok (.iaload, 1) := by decide +kernel
theorem d9_11 : decode prog_50_method_5_code 11 = .ok (.dup_x2, 1) := by decide +kernel
theorem d9_12 : decode prog_50_method_5_code 12 = .ok (.iconst 1, 1) := by decide +kernel
theorem d9_13 : decode prog_50_method_5_code 13 = .ok (.iadd, 1) := by decide +kernel
theorem d9_14 : decode prog_50_method_5_code 14 = .ok (.iastore, 1) := by decide +kernel
theorem d9_15 : decode prog_50_method_5_code 15 = .ok (.iload_n 2, 1) := by decide +kernel
theorem d9_16 : decode prog_50_method_5_code 16 = .ok (.iastore, 1) := by decide +kernel
theorem d9_17 : decode prog_50_method_5_code 17 = .ok (.return_, 1) := by decide +kernel
theorem pn_9 : plainName "com/example/prune/prune/mdp/Lists" = true := by first | (simp [plainName, overriddenIn]; done) | decide +kernel
theorem ef_9 (m : MethodId) (x0 : Addr) (x1 : Int32) (x2 : Int32) : entryFrame m #[(.ref x0), (.int x1), (.int x2)] 3 = mkF m 0 #[.val (.ref x0), .val (.int x1), .val (.int x2)] [] := by first | (simp [entryFrame, mkF, argsToLocals, Value.category]; done) | rfl
def Q9 (Z : State) (a1 : Addr) (p2 : Int32) (p3 : Int32) (ni : Nat) (st : List Int32) (en : List Int32) (co : List Int32) (ky : Int32) (h0 : Heap) (n0 : Nat) (v : Option Value) (h : Heap) (L : List Loc) : Prop := v = none ∧ Fr n0 L ∧ n0 ≤ h.size ∧ own_S Z h n0 a1 (own_ma (ni, st, en, co, ky) p2)
set_option maxRecDepth 65536 in
set_option maxHeartbeats 40000000 in
theorem rm9 (l : Launch) (Z : State) (a0 : Array Value) (hw : ∀ d ∈ tables_1, d.before a0 Z = true) (ws : List Jvm.Cond) (a1 : Addr) (p2 : Int32) (p3 : Int32) (ni : Nat) (st : List Int32) (en : List Int32) (co : List Int32) (ky : Int32) (h0 : Heap) (n0 : Nat) (Z0 : n0 ≤ h0.size) (HS : own_S Z h0 n0 a1 (ni, st, en, co, ky)) (hok : own_oka (ni, st, en, co, ky) p2 = true) :
    MetFree l (⟨"com/example/prune/prune/mdp/Lists", "add", "(II)V"⟩ : MethodName) (head1 (Jvm.Cond.code (⟨"com/example/prune/prune/mdp/Lists", "add", "(II)V"⟩ : MethodName) prog_50_method_5_code 3 none :: ws) ({ frames := 0, cells := 0, slots := 0, locals := 0 } : Room)) (fun a U => a = #[(.ref a1), (.int p2), (.int p3)] ∧ Z.Warmed39 U.vm ∧ U.heap = h0) (fun _ _ _ _ _ => True) (fun _ U o U' => ∃ v L, o = .returned v ∧ Q9 Z a1 p2 p3 ni st en co ky h0 n0 v U'.heap L ∧ FrameEnd U o U' L ({ frames := 0, cells := 0, slots := 0, locals := 0 } : Room).cells ({ frames := 0, cells := 0, slots := 0, locals := 0 } : Room).slots) := by
  refine MetFree.of_bodySF (plainFor_of_name pn_9) hisR ?_
  intro p e s m args below meth c s₁ Bd hml0 hP hK
  obtain ⟨rfl, hZ, hh⟩ := hP
  have hx := Bd.exec
  have hby := Bd.bytes
  have hml : c.maxLocals = 3 := hml0
  have hown : s.vm.findClass "com/example/prune/prune/mdp/Lists" = some m.cls := findClass_of_methodNamed Bd.named
  have hnm := (name_of_methodNamed Bd.named Bd.method).1
  have X0 : Stand p l e ({ frames := 0, cells := 0, slots := 0, locals := 0 } : Room) s m #[(.ref a1), (.int p2), (.int p3)] below meth c s₁ [] 0 0 := Stand.of_body Bd
  have e0 : s₁.heap = h0 := by rw [← hh, Bd.state]; rfl
  have N0 := Fr.nil n0
  have pre0 : ∀ t, Steps p.tables e below (s₁.setTop (mkF m 0 #[.val (.ref a1), .val (.int p2), .val (.int p3)] [])) t → Steps p.tables e below (s₁.setTop (entryFrame m #[(.ref a1), (.int p2), (.int p3)] 3)) t := fun t k => castTop (ef_9 m a1 p2 p3) k
  obtain ⟨bI, bS, bE, bC, its, Ex0, F0_items, F0_starts, F0_ends, F0_counted, F0_keys, VI0, hni, VS0, VE0, VC0, ⟨nIS, nIE, nIC, nSE, nSC, nEC⟩, ⟨aI, aS, aE, aC⟩, ⟨ga, gI, gS, gE, gC⟩⟩ := id HS
  have VV0_I : own_I Z h0 bI its := VI0
  have VV0_S : own_I Z h0 bS st := VS0
  have VV0_E : own_I Z h0 bE en := VE0
  have VV0_C : own_I Z h0 bC co := VC0
  have FF0_keys : Fld Z h0 a1 "com/example/prune/prune/mdp/Lists" "keys" "I" (.int ky) := F0_keys
  obtain ⟨hk0, hk1, hk2, hk3⟩ := own_oka_e hok
  have hk4 : (en.getD (p2).toNatClampNeg 0).toNatClampNeg < its.length := by rw [hni]; exact hk3
  obtain ⟨T1, X1, e1, st1⟩ := getF X0 hx hZ hown (host := "") (Or.inl (hw _ (List.mem_of_getElem? (i := 10) rfl))) Via.refl e0 F0_items (g := (mkF m 1 #[.val (.ref a1), .val (.int p2), .val (.int p3)] [(.ref a1)])) rfl rfl (hb hby d9_1)
  obtain ⟨T2, X2, e2, st2⟩ := getF X1 hx hZ hown (host := "") (Or.inl (hw _ (List.mem_of_getElem? (i := 14) rfl))) Via.refl e1 F0_ends (g := (mkF m 5 #[.val (.ref a1), .val (.int p2), .val (.int p3)] [(.ref a1), (.ref bI)])) rfl rfl (hb hby d9_5)
  obtain ⟨hl3, k3, cl3, Ar3, qq3, S3, M3, H3, G3⟩ := id VV0_E
  obtain ⟨hl4, k4, cl4, Ar4, qq4, S4, M4, H4, G4⟩ := id VV0_E
  obtain ⟨T5, h5, X5, e5, W5, st5⟩ := stI X2 hx hZ e2 Ar4 (j := p2) (own_hin S4 hl4 hk0 hk1) (g := (mkF m 14 #[.val (.ref a1), .val (.int p2), .val (.int p3)] [(.int ((en.getD (p2).toNatClampNeg 0) + (1 : Int32))), (.int p2), (.ref bE), (.int (en.getD (p2).toNatClampNeg 0)), (.ref bI)])) rfl rfl (hb hby d9_14)
  have F5_items : Fld Z h5 a1 "com/example/prune/prune/mdp/Lists" "items" "[I" (.ref bI) := (F0_items).other W5 (Or.inl aE)
  have F5_starts : Fld Z h5 a1 "com/example/prune/prune/mdp/Lists" "starts" "[I" (.ref bS) := (F0_starts).other W5 (Or.inl aE)
  have F5_ends : Fld Z h5 a1 "com/example/prune/prune/mdp/Lists" "ends" "[I" (.ref bE) := (F0_ends).other W5 (Or.inl aE)
  have F5_counted : Fld Z h5 a1 "com/example/prune/prune/mdp/Lists" "counted" "[I" (.ref bC) := (F0_counted).other W5 (Or.inl aE)
  have F5_keys : Fld Z h5 a1 "com/example/prune/prune/mdp/Lists" "keys" "I" (.int ky) := (FF0_keys).other W5 (Or.inl aE)
  have Ex5 : Exa Z h5 a1 "com/example/prune/prune/mdp/Lists" := (Ex0).wr W5
  have Zs5 : n0 ≤ h5.size := Nat.le_trans Z0 (Keep.of_wr W5).1
  have V5_I : own_I Z h5 bI its := own_I.other VV0_I W5 nIE
  have V5_S : own_I Z h5 bS st := own_I.other VV0_S W5 nSE
  have V5_E : own_I Z h5 bE (en.set (p2).toNatClampNeg ((en.getD (p2).toNatClampNeg 0) + (1 : Int32))) := own_I.put VV0_E W5 hk1
  have V5_C : own_I Z h5 bC co := own_I.other VV0_C W5 (Ne.symm nEC)
  have N5 := Fr.snoc X5 N0 gE
  obtain ⟨hl6, k6, cl6, Ar6, qq6, S6, M6, H6, G6⟩ := id V5_I
  obtain ⟨T7, h7, X7, e7, W7, st7⟩ := stI X5 hx hZ e5 Ar6 (j := (en.getD (p2).toNatClampNeg 0)) (own_hin S6 hl6 hk2 hk4) (g := (mkF m 16 #[.val (.ref a1), .val (.int p2), .val (.int p3)] [(.int p3), (.int (en.getD (p2).toNatClampNeg 0)), (.ref bI)])) rfl rfl (hb hby d9_16)
  have F7_items : Fld Z h7 a1 "com/example/prune/prune/mdp/Lists" "items" "[I" (.ref bI) := (F5_items).other W7 (Or.inl aI)
  have F7_starts : Fld Z h7 a1 "com/example/prune/prune/mdp/Lists" "starts" "[I" (.ref bS) := (F5_starts).other W7 (Or.inl aI)
  have F7_ends : Fld Z h7 a1 "com/example/prune/prune/mdp/Lists" "ends" "[I" (.ref bE) := (F5_ends).other W7 (Or.inl aI)
  have F7_counted : Fld Z h7 a1 "com/example/prune/prune/mdp/Lists" "counted" "[I" (.ref bC) := (F5_counted).other W7 (Or.inl aI)
  have F7_keys : Fld Z h7 a1 "com/example/prune/prune/mdp/Lists" "keys" "I" (.int ky) := (F5_keys).other W7 (Or.inl aI)
  have Ex7 : Exa Z h7 a1 "com/example/prune/prune/mdp/Lists" := (Ex5).wr W7
  have Zs7 : n0 ≤ h7.size := Nat.le_trans Zs5 (Keep.of_wr W7).1
  have V7_I : own_I Z h7 bI (its.set ((en.getD (p2).toNatClampNeg 0)).toNatClampNeg p3) := own_I.put V5_I W7 hk4
  have V7_S : own_I Z h7 bS st := own_I.other V5_S W7 (Ne.symm nIS)
  have V7_E : own_I Z h7 bE (en.set (p2).toNatClampNeg ((en.getD (p2).toNatClampNeg 0) + (1 : Int32))) := own_I.other V5_E W7 (Ne.symm nIE)
  have V7_C : own_I Z h7 bC co := own_I.other V5_C W7 (Ne.symm nIC)
  have N7 := Fr.snoc X7 N5 gI
  obtain ⟨fs, hr, hrun, hended, hW, hsame⟩ := X7.leave (v := none) (fun _ => rfl)
  refine ⟨_, _, pre0 _ ?_, hrun, hended, _, _, rfl, ?_, ⟨_, rfl⟩, hW, hsame.mono (by decide) (by decide)⟩
  · show Steps p.tables e below (s₁.setTop (mkF m 0 #[.val (.ref a1), .val (.int p2), .val (.int p3)] [])) _
    refine XS.aloadN X0.here hx rfl (hb hby d9_0) rfl rfl ?_
    show Steps p.tables e below (s₁.setTop (mkF m 1 #[.val (.ref a1), .val (.int p2), .val (.int p3)] [(.ref a1)])) _
    refine st1 _ ?_
    show Steps p.tables e below (T1.setTop (mkF m 4 #[.val (.ref a1), .val (.int p2), .val (.int p3)] [(.ref bI)])) _
    refine XS.aloadN X1.here hx rfl (hb hby d9_4) rfl rfl ?_
    show Steps p.tables e below (T1.setTop (mkF m 5 #[.val (.ref a1), .val (.int p2), .val (.int p3)] [(.ref a1), (.ref bI)])) _
    refine st2 _ ?_
    show Steps p.tables e below (T2.setTop (mkF m 8 #[.val (.ref a1), .val (.int p2), .val (.int p3)] [(.ref bE), (.ref bI)])) _
    refine XS.iloadN X2.here hx rfl (hb hby d9_8) rfl ?_
    show Steps p.tables e below (T2.setTop (mkF m 9 #[.val (.ref a1), .val (.int p2), .val (.int p3)] [(.int p2), (.ref bE), (.ref bI)])) _
    refine Jvm.Free.XT.dup2 X2.here hx rfl (hb hby d9_9) rfl rfl rfl ?_
    show Steps p.tables e below (T2.setTop (mkF m 10 #[.val (.ref a1), .val (.int p2), .val (.int p3)] [(.int p2), (.ref bE), (.int p2), (.ref bE), (.ref bI)])) _
    refine X2.iaload hx (j := p2) (v := (.int (en.getD (p2).toNatClampNeg 0))) (by first | exact Ar3.1 | (rw [e2]; exact Ar3.1)) (State.isArrayOf_alike hZ.alike Ar3.2.1) Ar3.2.2 (own_hin S3 hl3 hk0 hk1) (own_hat S3 H3 hl3 hk1) (g := (mkF m 10 #[.val (.ref a1), .val (.int p2), .val (.int p3)] [(.int p2), (.ref bE), (.int p2), (.ref bE), (.ref bI)])) rfl rfl (hb hby d9_10) _ ?_
    show Steps p.tables e below (T2.setTop (mkF m 11 #[.val (.ref a1), .val (.int p2), .val (.int p3)] [(.int (en.getD (p2).toNatClampNeg 0)), (.int p2), (.ref bE), (.ref bI)])) _
    refine own_dupX2 X2.here hx rfl (hb hby d9_11) rfl rfl rfl rfl ?_
    show Steps p.tables e below (T2.setTop (mkF m 12 #[.val (.ref a1), .val (.int p2), .val (.int p3)] [(.int (en.getD (p2).toNatClampNeg 0)), (.int p2), (.ref bE), (.int (en.getD (p2).toNatClampNeg 0)), (.ref bI)])) _
    refine XS.iconst X2.here hx rfl (hb hby d9_12) ?_
    show Steps p.tables e below (T2.setTop (mkF m 13 #[.val (.ref a1), .val (.int p2), .val (.int p3)] [(.int (1 : Int32)), (.int (en.getD (p2).toNatClampNeg 0)), (.int p2), (.ref bE), (.int (en.getD (p2).toNatClampNeg 0)), (.ref bI)])) _
    refine XS.iadd X2.here hx rfl (hb hby d9_13) rfl ?_
    show Steps p.tables e below (T2.setTop (mkF m 14 #[.val (.ref a1), .val (.int p2), .val (.int p3)] [(.int ((en.getD (p2).toNatClampNeg 0) + (1 : Int32))), (.int p2), (.ref bE), (.int (en.getD (p2).toNatClampNeg 0)), (.ref bI)])) _
    refine st5 _ ?_
    show Steps p.tables e below (T5.setTop (mkF m 15 #[.val (.ref a1), .val (.int p2), .val (.int p3)] [(.int (en.getD (p2).toNatClampNeg 0)), (.ref bI)])) _
    refine XS.iloadN X5.here hx rfl (hb hby d9_15) rfl ?_
    show Steps p.tables e below (T5.setTop (mkF m 16 #[.val (.ref a1), .val (.int p2), .val (.int p3)] [(.int p3), (.int (en.getD (p2).toNatClampNeg 0)), (.ref bI)])) _
    refine st7 _ ?_
    show Steps p.tables e below (T7.setTop (mkF m 17 #[.val (.ref a1), .val (.int p2), .val (.int p3)] [])) _
    exact X7.returnOut hx Bd.returns (hb hby d9_17) hr
  · show Q9 Z a1 p2 p3 ni st en co ky h0 n0 _ T7.heap _
    rw [e7]
    exact ⟨rfl, N7, Zs7, ⟨bI, bS, bE, bC, (its.set ((en.getD (p2).toNatClampNeg 0)).toNatClampNeg p3), Ex7, F7_items, F7_starts, F7_ends, F7_counted, F7_keys, V7_I, (by rw [List.length_set]; exact hni), V7_S, V7_E, V7_C, ⟨nIS, nIE, nIC, nSE, nSC, nEC⟩, ⟨aI, aS, aE, aC⟩, ⟨ga, gI, gS, gE, gC⟩⟩⟩
theorem d5_0 : decode prog_50_method_6_code 0 = .ok (.aload_n 0, 1) := by decide +kernel
theorem d5_1 : decode prog_50_method_6_code 1 = .ok (.getfield 13, 3) := by decide +kernel
theorem d5_4 : decode prog_50_method_6_code 4 = .ok (.iload_n 1, 1) := by decide +kernel
theorem d5_5 : decode prog_50_method_6_code 5 = .ok (.iaload, 1) := by decide +kernel
theorem d5_6 : decode prog_50_method_6_code 6 = .ok (.ireturn, 1) := by decide +kernel
theorem pn_5 : plainName "com/example/prune/prune/mdp/Lists" = true := by first | (simp [plainName, overriddenIn]; done) | decide +kernel
theorem ef_5 (m : MethodId) (x0 : Addr) (x1 : Int32) : entryFrame m #[(.ref x0), (.int x1)] 2 = mkF m 0 #[.val (.ref x0), .val (.int x1)] [] := by first | (simp [entryFrame, mkF, argsToLocals, Value.category]; done) | rfl
def Q5 (Z : State) (a1 : Addr) (p2 : Int32) (ni : Nat) (st : List Int32) (en : List Int32) (co : List Int32) (ky : Int32) (h0 : Heap) (n0 : Nat) (v : Option Value) (h : Heap) (L : List Loc) : Prop := v = some (.int (own_st (ni, st, en, co, ky) p2)) ∧ Fr n0 L ∧ h = h0
set_option maxRecDepth 65536 in
set_option maxHeartbeats 40000000 in
theorem rm5 (l : Launch) (Z : State) (a0 : Array Value) (hw : ∀ d ∈ tables_1, d.before a0 Z = true) (ws : List Jvm.Cond) (a1 : Addr) (p2 : Int32) (ni : Nat) (st : List Int32) (en : List Int32) (co : List Int32) (ky : Int32) (h0 : Heap) (n0 : Nat) (Z0 : n0 ≤ h0.size) (HS : own_S Z h0 n0 a1 (ni, st, en, co, ky)) (hk0 : ¬ p2 < 0) (hk1 : p2.toNatClampNeg < st.length) :
    MetFree l (⟨"com/example/prune/prune/mdp/Lists", "start", "(I)I"⟩ : MethodName) (head1 (Jvm.Cond.code (⟨"com/example/prune/prune/mdp/Lists", "start", "(I)I"⟩ : MethodName) prog_50_method_6_code 2 (some .int) :: ws) ({ frames := 0, cells := 0, slots := 0, locals := 0 } : Room)) (fun a U => a = #[(.ref a1), (.int p2)] ∧ Z.Warmed39 U.vm ∧ U.heap = h0) (fun _ _ _ _ _ => True) (fun _ U o U' => ∃ v L, o = .returned v ∧ Q5 Z a1 p2 ni st en co ky h0 n0 v U'.heap L ∧ FrameEnd U o U' L ({ frames := 0, cells := 0, slots := 0, locals := 0 } : Room).cells ({ frames := 0, cells := 0, slots := 0, locals := 0 } : Room).slots) := by
  refine MetFree.of_bodySF (plainFor_of_name pn_5) hisR ?_
  intro p e s m args below meth c s₁ Bd hml0 hP hK
  obtain ⟨rfl, hZ, hh⟩ := hP
  have hx := Bd.exec
  have hby := Bd.bytes
  have hml : c.maxLocals = 2 := hml0
  have hown : s.vm.findClass "com/example/prune/prune/mdp/Lists" = some m.cls := findClass_of_methodNamed Bd.named
  have hnm := (name_of_methodNamed Bd.named Bd.method).1
  have X0 : Stand p l e ({ frames := 0, cells := 0, slots := 0, locals := 0 } : Room) s m #[(.ref a1), (.int p2)] below meth c s₁ [] 0 0 := Stand.of_body Bd
  have e0 : s₁.heap = h0 := by rw [← hh, Bd.state]; rfl
  have N0 := Fr.nil n0
  have pre0 : ∀ t, Steps p.tables e below (s₁.setTop (mkF m 0 #[.val (.ref a1), .val (.int p2)] [])) t → Steps p.tables e below (s₁.setTop (entryFrame m #[(.ref a1), (.int p2)] 2)) t := fun t k => castTop (ef_5 m a1 p2) k
  obtain ⟨bI, bS, bE, bC, its, Ex0, F0_items, F0_starts, F0_ends, F0_counted, F0_keys, VI0, hni, VS0, VE0, VC0, ⟨nIS, nIE, nIC, nSE, nSC, nEC⟩, ⟨aI, aS, aE, aC⟩, ⟨ga, gI, gS, gE, gC⟩⟩ := id HS
  have VV0_I : own_I Z h0 bI its := VI0
  have VV0_S : own_I Z h0 bS st := VS0
  have VV0_E : own_I Z h0 bE en := VE0
  have VV0_C : own_I Z h0 bC co := VC0
  have FF0_keys : Fld Z h0 a1 "com/example/prune/prune/mdp/Lists" "keys" "I" (.int ky) := F0_keys
  obtain ⟨T1, X1, e1, st1⟩ := getF X0 hx hZ hown (host := "") (Or.inl (hw _ (List.mem_of_getElem? (i := 12) rfl))) Via.refl e0 F0_starts (g := (mkF m 1 #[.val (.ref a1), .val (.int p2)] [(.ref a1)])) rfl rfl (hb hby d5_1)
  obtain ⟨hl2, k2, cl2, Ar2, qq2, S2, M2, H2, G2⟩ := id VV0_S
  obtain ⟨fs, hr, hrun, hended, hW, hsame⟩ := X1.leave (v := some (.int (st.getD (p2).toNatClampNeg 0))) (fun h => by rw [Bd.returns] at h; cases h)
  refine ⟨_, _, pre0 _ ?_, hrun, hended, _, _, rfl, ?_, ⟨_, rfl⟩, hW, hsame.mono (by decide) (by decide)⟩
  · show Steps p.tables e below (s₁.setTop (mkF m 0 #[.val (.ref a1), .val (.int p2)] [])) _
    refine XS.aloadN X0.here hx rfl (hb hby d5_0) rfl rfl ?_
    show Steps p.tables e below (s₁.setTop (mkF m 1 #[.val (.ref a1), .val (.int p2)] [(.ref a1)])) _
    refine st1 _ ?_
    show Steps p.tables e below (T1.setTop (mkF m 4 #[.val (.ref a1), .val (.int p2)] [(.ref bS)])) _
    refine XS.iloadN X1.here hx rfl (hb hby d5_4) rfl ?_
    show Steps p.tables e below (T1.setTop (mkF m 5 #[.val (.ref a1), .val (.int p2)] [(.int p2), (.ref bS)])) _
    refine X1.iaload hx (j := p2) (v := (.int (st.getD (p2).toNatClampNeg 0))) (by first | exact Ar2.1 | (rw [e1]; exact Ar2.1)) (State.isArrayOf_alike hZ.alike Ar2.2.1) Ar2.2.2 (own_hin S2 hl2 hk0 hk1) (own_hat S2 H2 hl2 hk1) (g := (mkF m 5 #[.val (.ref a1), .val (.int p2)] [(.int p2), (.ref bS)])) rfl rfl (hb hby d5_5) _ ?_
    show Steps p.tables e below (T1.setTop (mkF m 6 #[.val (.ref a1), .val (.int p2)] [(.int (st.getD (p2).toNatClampNeg 0))])) _
    exact retI X1 hx Bd.returns (hb hby d5_6) hr
  · show Q5 Z a1 p2 ni st en co ky h0 n0 _ T1.heap _
    rw [e1]
    exact ⟨rfl, N0, rfl⟩
theorem d10_0 : decode prog_50_method_7_code 0 = .ok (.aload_n 0, 1) := by decide +kernel
theorem d10_1 : decode prog_50_method_7_code 1 = .ok (.getfield 16, 3) := by decide +kernel
theorem d10_4 : decode prog_50_method_7_code 4 = .ok (.iload_n 1, 1) := by decide +kernel
theorem d10_5 : decode prog_50_method_7_code 5 = .ok (.iaload, 1) := by decide +kernel
theorem d10_6 : decode prog_50_method_7_code 6 = .ok (.ireturn, 1) := by decide +kernel
theorem pn_10 : plainName "com/example/prune/prune/mdp/Lists" = true := by first | (simp [plainName, overriddenIn]; done) | decide +kernel
theorem ef_10 (m : MethodId) (x0 : Addr) (x1 : Int32) : entryFrame m #[(.ref x0), (.int x1)] 2 = mkF m 0 #[.val (.ref x0), .val (.int x1)] [] := by first | (simp [entryFrame, mkF, argsToLocals, Value.category]; done) | rfl
def Q10 (Z : State) (a1 : Addr) (p2 : Int32) (ni : Nat) (st : List Int32) (en : List Int32) (co : List Int32) (ky : Int32) (h0 : Heap) (n0 : Nat) (v : Option Value) (h : Heap) (L : List Loc) : Prop := v = some (.int (own_en (ni, st, en, co, ky) p2)) ∧ Fr n0 L ∧ h = h0
set_option maxRecDepth 65536 in
set_option maxHeartbeats 40000000 in
theorem rm10 (l : Launch) (Z : State) (a0 : Array Value) (hw : ∀ d ∈ tables_1, d.before a0 Z = true) (ws : List Jvm.Cond) (a1 : Addr) (p2 : Int32) (ni : Nat) (st : List Int32) (en : List Int32) (co : List Int32) (ky : Int32) (h0 : Heap) (n0 : Nat) (Z0 : n0 ≤ h0.size) (HS : own_S Z h0 n0 a1 (ni, st, en, co, ky)) (hk0 : ¬ p2 < 0) (hk1 : p2.toNatClampNeg < en.length) :
    MetFree l (⟨"com/example/prune/prune/mdp/Lists", "end", "(I)I"⟩ : MethodName) (head1 (Jvm.Cond.code (⟨"com/example/prune/prune/mdp/Lists", "end", "(I)I"⟩ : MethodName) prog_50_method_7_code 2 (some .int) :: ws) ({ frames := 0, cells := 0, slots := 0, locals := 0 } : Room)) (fun a U => a = #[(.ref a1), (.int p2)] ∧ Z.Warmed39 U.vm ∧ U.heap = h0) (fun _ _ _ _ _ => True) (fun _ U o U' => ∃ v L, o = .returned v ∧ Q10 Z a1 p2 ni st en co ky h0 n0 v U'.heap L ∧ FrameEnd U o U' L ({ frames := 0, cells := 0, slots := 0, locals := 0 } : Room).cells ({ frames := 0, cells := 0, slots := 0, locals := 0 } : Room).slots) := by
  refine MetFree.of_bodySF (plainFor_of_name pn_10) hisR ?_
  intro p e s m args below meth c s₁ Bd hml0 hP hK
  obtain ⟨rfl, hZ, hh⟩ := hP
  have hx := Bd.exec
  have hby := Bd.bytes
  have hml : c.maxLocals = 2 := hml0
  have hown : s.vm.findClass "com/example/prune/prune/mdp/Lists" = some m.cls := findClass_of_methodNamed Bd.named
  have hnm := (name_of_methodNamed Bd.named Bd.method).1
  have X0 : Stand p l e ({ frames := 0, cells := 0, slots := 0, locals := 0 } : Room) s m #[(.ref a1), (.int p2)] below meth c s₁ [] 0 0 := Stand.of_body Bd
  have e0 : s₁.heap = h0 := by rw [← hh, Bd.state]; rfl
  have N0 := Fr.nil n0
  have pre0 : ∀ t, Steps p.tables e below (s₁.setTop (mkF m 0 #[.val (.ref a1), .val (.int p2)] [])) t → Steps p.tables e below (s₁.setTop (entryFrame m #[(.ref a1), (.int p2)] 2)) t := fun t k => castTop (ef_10 m a1 p2) k
  obtain ⟨bI, bS, bE, bC, its, Ex0, F0_items, F0_starts, F0_ends, F0_counted, F0_keys, VI0, hni, VS0, VE0, VC0, ⟨nIS, nIE, nIC, nSE, nSC, nEC⟩, ⟨aI, aS, aE, aC⟩, ⟨ga, gI, gS, gE, gC⟩⟩ := id HS
  have VV0_I : own_I Z h0 bI its := VI0
  have VV0_S : own_I Z h0 bS st := VS0
  have VV0_E : own_I Z h0 bE en := VE0
  have VV0_C : own_I Z h0 bC co := VC0
  have FF0_keys : Fld Z h0 a1 "com/example/prune/prune/mdp/Lists" "keys" "I" (.int ky) := F0_keys
  obtain ⟨T1, X1, e1, st1⟩ := getF X0 hx hZ hown (host := "") (Or.inl (hw _ (List.mem_of_getElem? (i := 14) rfl))) Via.refl e0 F0_ends (g := (mkF m 1 #[.val (.ref a1), .val (.int p2)] [(.ref a1)])) rfl rfl (hb hby d10_1)
  obtain ⟨hl2, k2, cl2, Ar2, qq2, S2, M2, H2, G2⟩ := id VV0_E
  obtain ⟨fs, hr, hrun, hended, hW, hsame⟩ := X1.leave (v := some (.int (en.getD (p2).toNatClampNeg 0))) (fun h => by rw [Bd.returns] at h; cases h)
  refine ⟨_, _, pre0 _ ?_, hrun, hended, _, _, rfl, ?_, ⟨_, rfl⟩, hW, hsame.mono (by decide) (by decide)⟩
  · show Steps p.tables e below (s₁.setTop (mkF m 0 #[.val (.ref a1), .val (.int p2)] [])) _
    refine XS.aloadN X0.here hx rfl (hb hby d10_0) rfl rfl ?_
    show Steps p.tables e below (s₁.setTop (mkF m 1 #[.val (.ref a1), .val (.int p2)] [(.ref a1)])) _
    refine st1 _ ?_
    show Steps p.tables e below (T1.setTop (mkF m 4 #[.val (.ref a1), .val (.int p2)] [(.ref bE)])) _
    refine XS.iloadN X1.here hx rfl (hb hby d10_4) rfl ?_
    show Steps p.tables e below (T1.setTop (mkF m 5 #[.val (.ref a1), .val (.int p2)] [(.int p2), (.ref bE)])) _
    refine X1.iaload hx (j := p2) (v := (.int (en.getD (p2).toNatClampNeg 0))) (by first | exact Ar2.1 | (rw [e1]; exact Ar2.1)) (State.isArrayOf_alike hZ.alike Ar2.2.1) Ar2.2.2 (own_hin S2 hl2 hk0 hk1) (own_hat S2 H2 hl2 hk1) (g := (mkF m 5 #[.val (.ref a1), .val (.int p2)] [(.int p2), (.ref bE)])) rfl rfl (hb hby d10_5) _ ?_
    show Steps p.tables e below (T1.setTop (mkF m 6 #[.val (.ref a1), .val (.int p2)] [(.int (en.getD (p2).toNatClampNeg 0))])) _
    exact retI X1 hx Bd.returns (hb hby d10_6) hr
  · show Q10 Z a1 p2 ni st en co ky h0 n0 _ T1.heap _
    rw [e1]
    exact ⟨rfl, N0, rfl⟩
theorem d7_0 : decode method_2_code 0 = .ok (.iload_n 1, 1) := by decide +kernel
theorem d7_1 : decode method_2_code 1 = .ok (.iload_n 0, 1) := by decide +kernel
theorem d7_2 : decode method_2_code 2 = .ok (.if_icmp .ne 7, 3) := by decide +kernel
theorem d7_5 : decode method_2_code 5 = .ok (.iconst 1, 1) := by decide +kernel
theorem d7_6 : decode method_2_code 6 = .ok (.goto 4, 3) := by decide +kernel
theorem d7_9 : decode method_2_code 9 = .ok (.iconst 0, 1) := by decide +kernel
theorem d7_10 : decode method_2_code 10 = .ok (.iload_n 2, 1) := by decide +kernel
theorem d7_11 : decode method_2_code 11 = .ok (.iload_n 0, 1) := by decide +kernel
theorem d7_12 : decode method_2_code 12 = .ok (.if_icmp .ne 7, 3) := by decide +kernel
theorem d7_15 : decode method_2_code 15 = .ok (.iconst 1, 1) := by decide +kernel
theorem d7_16 : decode method_2_code 16 = .ok (.goto 4, 3) := by decide +kernel
theorem d7_19 : decode method_2_code 19 = .ok (.iconst 0, 1) := by decide +kernel
theorem d7_20 : decode method_2_code 20 = .ok (.iadd, 1) := by decide +kernel
theorem d7_21 : decode method_2_code 21 = .ok (.iload_n 3, 1) := by decide +kernel
theorem d7_22 : decode method_2_code 22 = .ok (.iload_n 0, 1) := by decide +kernel
theorem d7_23 : decode method_2_code 23 = .ok (.if_icmp .ne 7, 3) := by decide +kernel
theorem d7_26 : decode method_2_code 26 = .ok (.iconst 1, 1) := by decide +kernel
theorem d7_27 : decode method_2_code 27 = .ok (.goto 4, 3) := by decide +kernel
theorem d7_30 : decode method_2_code 30 = .ok (.iconst 0, 1) := by decide +kernel
theorem d7_31 : decode method_2_code 31 = .ok (.iadd, 1) := by decide +kernel
theorem d7_32 : decode method_2_code 32 = .ok (.ireturn, 1) := by decide +kernel
theorem pn_7 : plainName "com/example/prune/prune/mdp/ListsPlacePinLaw" = true := by first | (simp [plainName, overriddenIn]; done) | decide +kernel
theorem ef_7 (m : MethodId) (x0 : Int32) (x1 : Int32) (x2 : Int32) (x3 : Int32) : entryFrame m #[(.int x0), (.int x1), (.int x2), (.int x3)] 4 = mkF m 0 #[.val (.int x0), .val (.int x1), .val (.int x2), .val (.int x3)] [] := by first | (simp [entryFrame, mkF, argsToLocals, Value.category]; done) | rfl
def Q7 (Z : State) (p1 : Int32) (p2 : Int32) (p3 : Int32) (p4 : Int32) (h0 : Heap) (n0 : Nat) (v : Option Value) (h : Heap) (L : List Loc) : Prop := v = some (.int (own_cnt p1 p2 p3 p4)) ∧ Fr n0 L ∧ h = h0
set_option maxRecDepth 65536 in
set_option maxHeartbeats 40000000 in
theorem rm7 (l : Launch) (Z : State) (a0 : Array Value) (hw : ∀ d ∈ tables_1, d.before a0 Z = true) (ws : List Jvm.Cond) (p1 : Int32) (p2 : Int32) (p3 : Int32) (p4 : Int32) (h0 : Heap) (n0 : Nat) (Z0 : n0 ≤ h0.size)  :
    MetFree l (⟨"com/example/prune/prune/mdp/ListsPlacePinLaw", "cnt", "(IIII)I"⟩ : MethodName) (head1 (Jvm.Cond.code (⟨"com/example/prune/prune/mdp/ListsPlacePinLaw", "cnt", "(IIII)I"⟩ : MethodName) method_2_code 4 (some .int) :: ws) ({ frames := 0, cells := 0, slots := 0, locals := 0 } : Room)) (fun a U => a = #[(.int p1), (.int p2), (.int p3), (.int p4)] ∧ Z.Warmed39 U.vm ∧ U.heap = h0) (fun _ _ _ _ _ => True) (fun _ U o U' => ∃ v L, o = .returned v ∧ Q7 Z p1 p2 p3 p4 h0 n0 v U'.heap L ∧ FrameEnd U o U' L ({ frames := 0, cells := 0, slots := 0, locals := 0 } : Room).cells ({ frames := 0, cells := 0, slots := 0, locals := 0 } : Room).slots) := by
  refine MetFree.of_bodySF (plainFor_of_name pn_7) hisR ?_
  intro p e s m args below meth c s₁ Bd hml0 hP hK
  obtain ⟨rfl, hZ, hh⟩ := hP
  have hx := Bd.exec
  have hby := Bd.bytes
  have hml : c.maxLocals = 4 := hml0
  have hown : s.vm.findClass "com/example/prune/prune/mdp/ListsPlacePinLaw" = some m.cls := findClass_of_methodNamed Bd.named
  have hnm := (name_of_methodNamed Bd.named Bd.method).1
  have X0 : Stand p l e ({ frames := 0, cells := 0, slots := 0, locals := 0 } : Room) s m #[(.int p1), (.int p2), (.int p3), (.int p4)] below meth c s₁ [] 0 0 := Stand.of_body Bd
  have e0 : s₁.heap = h0 := by rw [← hh, Bd.state]; rfl
  have N0 := Fr.nil n0
  have pre0 : ∀ t, Steps p.tables e below (s₁.setTop (mkF m 0 #[.val (.int p1), .val (.int p2), .val (.int p3), .val (.int p4)] [])) t → Steps p.tables e below (s₁.setTop (entryFrame m #[(.int p1), (.int p2), (.int p3), (.int p4)] 4)) t := fun t k => castTop (ef_7 m p1 p2 p3 p4) k
  obtain ⟨v2, hv2⟩ : ∃ z : Int32, z = if (p2 = p1) then (1 : Int32) else (0 : Int32) := ⟨_, rfl⟩
  obtain ⟨v4, hv4⟩ : ∃ z : Int32, z = if (p3 = p1) then (1 : Int32) else (0 : Int32) := ⟨_, rfl⟩
  obtain ⟨v6, hv6⟩ : ∃ z : Int32, z = if (p4 = p1) then (1 : Int32) else (0 : Int32) := ⟨_, rfl⟩
  obtain ⟨fs, hr, hrun, hended, hW, hsame⟩ := X0.leave (v := some (.int ((v2 + v4) + v6))) (fun h => by rw [Bd.returns] at h; cases h)
  refine ⟨_, _, pre0 _ ?_, hrun, hended, _, _, rfl, ?_, ⟨_, rfl⟩, hW, hsame.mono (by decide) (by decide)⟩
  · show Steps p.tables e below (s₁.setTop (mkF m 0 #[.val (.int p1), .val (.int p2), .val (.int p3), .val (.int p4)] [])) _
    refine XS.iloadN X0.here hx rfl (hb hby d7_0) rfl ?_
    show Steps p.tables e below (s₁.setTop (mkF m 1 #[.val (.int p1), .val (.int p2), .val (.int p3), .val (.int p4)] [(.int p2)])) _
    refine XS.iloadN X0.here hx rfl (hb hby d7_1) rfl ?_
    have sg1 : ∀ t, Steps p.tables e below (s₁.setTop (mkF m 10 #[.val (.int p1), .val (.int p2), .val (.int p3), .val (.int p4)] [(.int v2)])) t → Steps p.tables e below (s₁.setTop (mkF m 2 #[.val (.int p1), .val (.int p2), .val (.int p3), .val (.int p4)] [(.int p1), (.int p2)])) t := by
      intro t k
      by_cases hc1 : (p2 = p1)
      · rw [show v2 = (1 : Int32) from by rw [hv2, if_pos hc1]] at k
        show Steps p.tables e below (s₁.setTop (mkF m 2 #[.val (.int p1), .val (.int p2), .val (.int p3), .val (.int p4)] [(.int p1), (.int p2)])) _
        refine XS.icmpNo X0.here hx rfl (hb hby d7_2) rfl (teq hc1).2 ?_
        show Steps p.tables e below (s₁.setTop (mkF m 5 #[.val (.int p1), .val (.int p2), .val (.int p3), .val (.int p4)] [])) _
        refine XS.iconst X0.here hx rfl (hb hby d7_5) ?_
        show Steps p.tables e below (s₁.setTop (mkF m 6 #[.val (.int p1), .val (.int p2), .val (.int p3), .val (.int p4)] [(.int (1 : Int32))])) _
        refine XS.goto X0.here hx rfl (pc0 := 6) (pc' := 10) rfl (hb hby d7_6) (by decide) (by decide) ?_
        exact k
      · rw [show v2 = (0 : Int32) from by rw [hv2, if_neg hc1]] at k
        show Steps p.tables e below (s₁.setTop (mkF m 2 #[.val (.int p1), .val (.int p2), .val (.int p3), .val (.int p4)] [(.int p1), (.int p2)])) _
        refine XS.icmpYes X0.here hx rfl (pc0 := 2) (pc' := 9) rfl (hb hby d7_2) rfl (feq hc1).2 (by decide) (by decide) ?_
        show Steps p.tables e below (s₁.setTop (mkF m 9 #[.val (.int p1), .val (.int p2), .val (.int p3), .val (.int p4)] [])) _
        refine XS.iconst X0.here hx rfl (hb hby d7_9) ?_
        exact k
    refine sg1 _ ?_
    show Steps p.tables e below (s₁.setTop (mkF m 10 #[.val (.int p1), .val (.int p2), .val (.int p3), .val (.int p4)] [(.int v2)])) _
    refine XS.iloadN X0.here hx rfl (hb hby d7_10) rfl ?_
    show Steps p.tables e below (s₁.setTop (mkF m 11 #[.val (.int p1), .val (.int p2), .val (.int p3), .val (.int p4)] [(.int p3), (.int v2)])) _
    refine XS.iloadN X0.here hx rfl (hb hby d7_11) rfl ?_
    have sg3 : ∀ t, Steps p.tables e below (s₁.setTop (mkF m 20 #[.val (.int p1), .val (.int p2), .val (.int p3), .val (.int p4)] [(.int v4), (.int v2)])) t → Steps p.tables e below (s₁.setTop (mkF m 12 #[.val (.int p1), .val (.int p2), .val (.int p3), .val (.int p4)] [(.int p1), (.int p3), (.int v2)])) t := by
      intro t k
      by_cases hc3 : (p3 = p1)
      · rw [show v4 = (1 : Int32) from by rw [hv4, if_pos hc3]] at k
        show Steps p.tables e below (s₁.setTop (mkF m 12 #[.val (.int p1), .val (.int p2), .val (.int p3), .val (.int p4)] [(.int p1), (.int p3), (.int v2)])) _
        refine XS.icmpNo X0.here hx rfl (hb hby d7_12) rfl (teq hc3).2 ?_
        show Steps p.tables e below (s₁.setTop (mkF m 15 #[.val (.int p1), .val (.int p2), .val (.int p3), .val (.int p4)] [(.int v2)])) _
        refine XS.iconst X0.here hx rfl (hb hby d7_15) ?_
        show Steps p.tables e below (s₁.setTop (mkF m 16 #[.val (.int p1), .val (.int p2), .val (.int p3), .val (.int p4)] [(.int (1 : Int32)), (.int v2)])) _
        refine XS.goto X0.here hx rfl (pc0 := 16) (pc' := 20) rfl (hb hby d7_16) (by decide) (by decide) ?_
        exact k
      · rw [show v4 = (0 : Int32) from by rw [hv4, if_neg hc3]] at k
        show Steps p.tables e below (s₁.setTop (mkF m 12 #[.val (.int p1), .val (.int p2), .val (.int p3), .val (.int p4)] [(.int p1), (.int p3), (.int v2)])) _
        refine XS.icmpYes X0.here hx rfl (pc0 := 12) (pc' := 19) rfl (hb hby d7_12) rfl (feq hc3).2 (by decide) (by decide) ?_
        show Steps p.tables e below (s₁.setTop (mkF m 19 #[.val (.int p1), .val (.int p2), .val (.int p3), .val (.int p4)] [(.int v2)])) _
        refine XS.iconst X0.here hx rfl (hb hby d7_19) ?_
        exact k
    refine sg3 _ ?_
    show Steps p.tables e below (s₁.setTop (mkF m 20 #[.val (.int p1), .val (.int p2), .val (.int p3), .val (.int p4)] [(.int v4), (.int v2)])) _
    refine XS.iadd X0.here hx rfl (hb hby d7_20) rfl ?_
    show Steps p.tables e below (s₁.setTop (mkF m 21 #[.val (.int p1), .val (.int p2), .val (.int p3), .val (.int p4)] [(.int (v2 + v4))])) _
    refine XS.iloadN X0.here hx rfl (hb hby d7_21) rfl ?_
    show Steps p.tables e below (s₁.setTop (mkF m 22 #[.val (.int p1), .val (.int p2), .val (.int p3), .val (.int p4)] [(.int p4), (.int (v2 + v4))])) _
    refine XS.iloadN X0.here hx rfl (hb hby d7_22) rfl ?_
    have sg5 : ∀ t, Steps p.tables e below (s₁.setTop (mkF m 31 #[.val (.int p1), .val (.int p2), .val (.int p3), .val (.int p4)] [(.int v6), (.int (v2 + v4))])) t → Steps p.tables e below (s₁.setTop (mkF m 23 #[.val (.int p1), .val (.int p2), .val (.int p3), .val (.int p4)] [(.int p1), (.int p4), (.int (v2 + v4))])) t := by
      intro t k
      by_cases hc5 : (p4 = p1)
      · rw [show v6 = (1 : Int32) from by rw [hv6, if_pos hc5]] at k
        show Steps p.tables e below (s₁.setTop (mkF m 23 #[.val (.int p1), .val (.int p2), .val (.int p3), .val (.int p4)] [(.int p1), (.int p4), (.int (v2 + v4))])) _
        refine XS.icmpNo X0.here hx rfl (hb hby d7_23) rfl (teq hc5).2 ?_
        show Steps p.tables e below (s₁.setTop (mkF m 26 #[.val (.int p1), .val (.int p2), .val (.int p3), .val (.int p4)] [(.int (v2 + v4))])) _
        refine XS.iconst X0.here hx rfl (hb hby d7_26) ?_
        show Steps p.tables e below (s₁.setTop (mkF m 27 #[.val (.int p1), .val (.int p2), .val (.int p3), .val (.int p4)] [(.int (1 : Int32)), (.int (v2 + v4))])) _
        refine XS.goto X0.here hx rfl (pc0 := 27) (pc' := 31) rfl (hb hby d7_27) (by decide) (by decide) ?_
        exact k
      · rw [show v6 = (0 : Int32) from by rw [hv6, if_neg hc5]] at k
        show Steps p.tables e below (s₁.setTop (mkF m 23 #[.val (.int p1), .val (.int p2), .val (.int p3), .val (.int p4)] [(.int p1), (.int p4), (.int (v2 + v4))])) _
        refine XS.icmpYes X0.here hx rfl (pc0 := 23) (pc' := 30) rfl (hb hby d7_23) rfl (feq hc5).2 (by decide) (by decide) ?_
        show Steps p.tables e below (s₁.setTop (mkF m 30 #[.val (.int p1), .val (.int p2), .val (.int p3), .val (.int p4)] [(.int (v2 + v4))])) _
        refine XS.iconst X0.here hx rfl (hb hby d7_30) ?_
        exact k
    refine sg5 _ ?_
    show Steps p.tables e below (s₁.setTop (mkF m 31 #[.val (.int p1), .val (.int p2), .val (.int p3), .val (.int p4)] [(.int v6), (.int (v2 + v4))])) _
    refine XS.iadd X0.here hx rfl (hb hby d7_31) rfl ?_
    show Steps p.tables e below (s₁.setTop (mkF m 32 #[.val (.int p1), .val (.int p2), .val (.int p3), .val (.int p4)] [(.int ((v2 + v4) + v6))])) _
    exact retI X0 hx Bd.returns (hb hby d7_32) hr
  · show Q7 Z p1 p2 p3 p4 h0 n0 _ s₁.heap _
    rw [e0]
    exact ⟨by rw [hv6, hv4, hv2]; rfl, N0, rfl⟩
theorem d8_0 : decode method_3_code 0 = .ok (.iload_n 1, 1) := by decide +kernel
theorem d8_1 : decode method_3_code 1 = .ok (.iload_n 0, 1) := by decide +kernel
theorem d8_2 : decode method_3_code 2 = .ok (.if_icmp .ne 5, 3) := by decide +kernel
theorem d8_5 : decode method_3_code 5 = .ok (.iconst 0, 1) := by decide +kernel
theorem d8_6 : decode method_3_code 6 = .ok (.ireturn, 1) := by decide +kernel
theorem d8_7 : decode method_3_code 7 = .ok (.iload_n 2, 1) := by decide +kernel
theorem d8_8 : decode method_3_code 8 = .ok (.iload_n 0, 1) := by decide +kernel
theorem d8_9 : decode method_3_code 9 = .ok (.if_icmp .ne 5, 3) := by decide +kernel
theorem d8_12 : decode method_3_code 12 = .ok (.iconst 1, 1) := by decide +kernel
theorem d8_13 : decode method_3_code 13 = .ok (.ireturn, 1) := by decide +kernel
theorem d8_14 : decode method_3_code 14 = .ok (.iload_n 3, 1) := by decide +kernel
theorem d8_15 : decode method_3_code 15 = .ok (.iload_n 0, 1) := by decide +kernel
theorem d8_16 : decode method_3_code 16 = .ok (.if_icmp .ne 5, 3) := by decide +kernel
theorem d8_19 : decode method_3_code 19 = .ok (.iconst 2, 1) := by decide +kernel
theorem d8_20 : decode method_3_code 20 = .ok (.ireturn, 1) := by decide +kernel
theorem d8_21 : decode method_3_code 21 = .ok (.iconst 3, 1) := by decide +kernel
theorem d8_22 : decode method_3_code 22 = .ok (.ireturn, 1) := by decide +kernel
theorem pn_8 : plainName "com/example/prune/prune/mdp/ListsPlacePinLaw" = true := by first | (simp [plainName, overriddenIn]; done) | decide +kernel
theorem ef_8 (m : MethodId) (x0 : Int32) (x1 : Int32) (x2 : Int32) (x3 : Int32) : entryFrame m #[(.int x0), (.int x1), (.int x2), (.int x3)] 4 = mkF m 0 #[.val (.int x0), .val (.int x1), .val (.int x2), .val (.int x3)] [] := by first | (simp [entryFrame, mkF, argsToLocals, Value.category]; done) | rfl
def Q8 (Z : State) (p1 : Int32) (p2 : Int32) (p3 : Int32) (p4 : Int32) (h0 : Heap) (n0 : Nat) (v : Option Value) (h : Heap) (L : List Loc) : Prop := v = some (.int (own_first p1 p2 p3 p4)) ∧ Fr n0 L ∧ h = h0
set_option maxRecDepth 65536 in
set_option maxHeartbeats 40000000 in
theorem rm8_0 (l : Launch) (Z : State) (a0 : Array Value) (hw : ∀ d ∈ tables_1, d.before a0 Z = true) (ws : List Jvm.Cond) (p1 : Int32) (p2 : Int32) (p3 : Int32) (p4 : Int32) (h0 : Heap) (n0 : Nat) (Z0 : n0 ≤ h0.size) (q1 : p2 = p1) :
    MetFree l (⟨"com/example/prune/prune/mdp/ListsPlacePinLaw", "first", "(IIII)I"⟩ : MethodName) (head1 (Jvm.Cond.code (⟨"com/example/prune/prune/mdp/ListsPlacePinLaw", "first", "(IIII)I"⟩ : MethodName) method_3_code 4 (some .int) :: ws) ({ frames := 0, cells := 0, slots := 0, locals := 0 } : Room)) (fun a U => a = #[(.int p1), (.int p2), (.int p3), (.int p4)] ∧ Z.Warmed39 U.vm ∧ U.heap = h0) (fun _ _ _ _ _ => True) (fun _ U o U' => ∃ v L, o = .returned v ∧ Q8 Z p1 p2 p3 p4 h0 n0 v U'.heap L ∧ FrameEnd U o U' L ({ frames := 0, cells := 0, slots := 0, locals := 0 } : Room).cells ({ frames := 0, cells := 0, slots := 0, locals := 0 } : Room).slots) := by
  refine MetFree.of_bodySF (plainFor_of_name pn_8) hisR ?_
  intro p e s m args below meth c s₁ Bd hml0 hP hK
  obtain ⟨rfl, hZ, hh⟩ := hP
  have hx := Bd.exec
  have hby := Bd.bytes
  have hml : c.maxLocals = 4 := hml0
  have hown : s.vm.findClass "com/example/prune/prune/mdp/ListsPlacePinLaw" = some m.cls := findClass_of_methodNamed Bd.named
  have hnm := (name_of_methodNamed Bd.named Bd.method).1
  have X0 : Stand p l e ({ frames := 0, cells := 0, slots := 0, locals := 0 } : Room) s m #[(.int p1), (.int p2), (.int p3), (.int p4)] below meth c s₁ [] 0 0 := Stand.of_body Bd
  have e0 : s₁.heap = h0 := by rw [← hh, Bd.state]; rfl
  have N0 := Fr.nil n0
  have pre0 : ∀ t, Steps p.tables e below (s₁.setTop (mkF m 0 #[.val (.int p1), .val (.int p2), .val (.int p3), .val (.int p4)] [])) t → Steps p.tables e below (s₁.setTop (entryFrame m #[(.int p1), (.int p2), (.int p3), (.int p4)] 4)) t := fun t k => castTop (ef_8 m p1 p2 p3 p4) k
  obtain ⟨fs, hr, hrun, hended, hW, hsame⟩ := X0.leave (v := some (.int (0 : Int32))) (fun h => by rw [Bd.returns] at h; cases h)
  refine ⟨_, _, pre0 _ ?_, hrun, hended, _, _, rfl, ?_, ⟨_, rfl⟩, hW, hsame.mono (by decide) (by decide)⟩
  · show Steps p.tables e below (s₁.setTop (mkF m 0 #[.val (.int p1), .val (.int p2), .val (.int p3), .val (.int p4)] [])) _
    refine XS.iloadN X0.here hx rfl (hb hby d8_0) rfl ?_
    show Steps p.tables e below (s₁.setTop (mkF m 1 #[.val (.int p1), .val (.int p2), .val (.int p3), .val (.int p4)] [(.int p2)])) _
    refine XS.iloadN X0.here hx rfl (hb hby d8_1) rfl ?_
    show Steps p.tables e below (s₁.setTop (mkF m 2 #[.val (.int p1), .val (.int p2), .val (.int p3), .val (.int p4)] [(.int p1), (.int p2)])) _
    refine XS.icmpNo X0.here hx rfl (hb hby d8_2) rfl (teq q1).2 ?_
    show Steps p.tables e below (s₁.setTop (mkF m 5 #[.val (.int p1), .val (.int p2), .val (.int p3), .val (.int p4)] [])) _
    refine XS.iconst X0.here hx rfl (hb hby d8_5) ?_
    show Steps p.tables e below (s₁.setTop (mkF m 6 #[.val (.int p1), .val (.int p2), .val (.int p3), .val (.int p4)] [(.int (0 : Int32))])) _
    exact retI X0 hx Bd.returns (hb hby d8_6) hr
  · show Q8 Z p1 p2 p3 p4 h0 n0 _ s₁.heap _
    rw [e0]
    have hm : own_first p1 p2 p3 p4 = (0 : Int32) := by unfold own_first; rw [if_pos q1]
    exact ⟨by rw [hm], N0, rfl⟩
set_option maxRecDepth 65536 in
set_option maxHeartbeats 40000000 in
theorem rm8_1 (l : Launch) (Z : State) (a0 : Array Value) (hw : ∀ d ∈ tables_1, d.before a0 Z = true) (ws : List Jvm.Cond) (p1 : Int32) (p2 : Int32) (p3 : Int32) (p4 : Int32) (h0 : Heap) (n0 : Nat) (Z0 : n0 ≤ h0.size) (q1 : ¬ (p2 = p1)) (q2 : p3 = p1) :
    MetFree l (⟨"com/example/prune/prune/mdp/ListsPlacePinLaw", "first", "(IIII)I"⟩ : MethodName) (head1 (Jvm.Cond.code (⟨"com/example/prune/prune/mdp/ListsPlacePinLaw", "first", "(IIII)I"⟩ : MethodName) method_3_code 4 (some .int) :: ws) ({ frames := 0, cells := 0, slots := 0, locals := 0 } : Room)) (fun a U => a = #[(.int p1), (.int p2), (.int p3), (.int p4)] ∧ Z.Warmed39 U.vm ∧ U.heap = h0) (fun _ _ _ _ _ => True) (fun _ U o U' => ∃ v L, o = .returned v ∧ Q8 Z p1 p2 p3 p4 h0 n0 v U'.heap L ∧ FrameEnd U o U' L ({ frames := 0, cells := 0, slots := 0, locals := 0 } : Room).cells ({ frames := 0, cells := 0, slots := 0, locals := 0 } : Room).slots) := by
  refine MetFree.of_bodySF (plainFor_of_name pn_8) hisR ?_
  intro p e s m args below meth c s₁ Bd hml0 hP hK
  obtain ⟨rfl, hZ, hh⟩ := hP
  have hx := Bd.exec
  have hby := Bd.bytes
  have hml : c.maxLocals = 4 := hml0
  have hown : s.vm.findClass "com/example/prune/prune/mdp/ListsPlacePinLaw" = some m.cls := findClass_of_methodNamed Bd.named
  have hnm := (name_of_methodNamed Bd.named Bd.method).1
  have X0 : Stand p l e ({ frames := 0, cells := 0, slots := 0, locals := 0 } : Room) s m #[(.int p1), (.int p2), (.int p3), (.int p4)] below meth c s₁ [] 0 0 := Stand.of_body Bd
  have e0 : s₁.heap = h0 := by rw [← hh, Bd.state]; rfl
  have N0 := Fr.nil n0
  have pre0 : ∀ t, Steps p.tables e below (s₁.setTop (mkF m 0 #[.val (.int p1), .val (.int p2), .val (.int p3), .val (.int p4)] [])) t → Steps p.tables e below (s₁.setTop (entryFrame m #[(.int p1), (.int p2), (.int p3), (.int p4)] 4)) t := fun t k => castTop (ef_8 m p1 p2 p3 p4) k
  obtain ⟨fs, hr, hrun, hended, hW, hsame⟩ := X0.leave (v := some (.int (1 : Int32))) (fun h => by rw [Bd.returns] at h; cases h)
  refine ⟨_, _, pre0 _ ?_, hrun, hended, _, _, rfl, ?_, ⟨_, rfl⟩, hW, hsame.mono (by decide) (by decide)⟩
  · show Steps p.tables e below (s₁.setTop (mkF m 0 #[.val (.int p1), .val (.int p2), .val (.int p3), .val (.int p4)] [])) _
    refine XS.iloadN X0.here hx rfl (hb hby d8_0) rfl ?_
    show Steps p.tables e below (s₁.setTop (mkF m 1 #[.val (.int p1), .val (.int p2), .val (.int p3), .val (.int p4)] [(.int p2)])) _
    refine XS.iloadN X0.here hx rfl (hb hby d8_1) rfl ?_
    show Steps p.tables e below (s₁.setTop (mkF m 2 #[.val (.int p1), .val (.int p2), .val (.int p3), .val (.int p4)] [(.int p1), (.int p2)])) _
    refine XS.icmpYes X0.here hx rfl (pc0 := 2) (pc' := 7) rfl (hb hby d8_2) rfl (feq q1).2 (by decide) (by decide) ?_
    show Steps p.tables e below (s₁.setTop (mkF m 7 #[.val (.int p1), .val (.int p2), .val (.int p3), .val (.int p4)] [])) _
    refine XS.iloadN X0.here hx rfl (hb hby d8_7) rfl ?_
    show Steps p.tables e below (s₁.setTop (mkF m 8 #[.val (.int p1), .val (.int p2), .val (.int p3), .val (.int p4)] [(.int p3)])) _
    refine XS.iloadN X0.here hx rfl (hb hby d8_8) rfl ?_
    show Steps p.tables e below (s₁.setTop (mkF m 9 #[.val (.int p1), .val (.int p2), .val (.int p3), .val (.int p4)] [(.int p1), (.int p3)])) _
    refine XS.icmpNo X0.here hx rfl (hb hby d8_9) rfl (teq q2).2 ?_
    show Steps p.tables e below (s₁.setTop (mkF m 12 #[.val (.int p1), .val (.int p2), .val (.int p3), .val (.int p4)] [])) _
    refine XS.iconst X0.here hx rfl (hb hby d8_12) ?_
    show Steps p.tables e below (s₁.setTop (mkF m 13 #[.val (.int p1), .val (.int p2), .val (.int p3), .val (.int p4)] [(.int (1 : Int32))])) _
    exact retI X0 hx Bd.returns (hb hby d8_13) hr
  · show Q8 Z p1 p2 p3 p4 h0 n0 _ s₁.heap _
    rw [e0]
    have hm : own_first p1 p2 p3 p4 = (1 : Int32) := by unfold own_first; rw [if_neg q1, if_pos q2]
    exact ⟨by rw [hm], N0, rfl⟩
set_option maxRecDepth 65536 in
set_option maxHeartbeats 40000000 in
theorem rm8_2 (l : Launch) (Z : State) (a0 : Array Value) (hw : ∀ d ∈ tables_1, d.before a0 Z = true) (ws : List Jvm.Cond) (p1 : Int32) (p2 : Int32) (p3 : Int32) (p4 : Int32) (h0 : Heap) (n0 : Nat) (Z0 : n0 ≤ h0.size) (q1 : ¬ (p2 = p1)) (q2 : ¬ (p3 = p1)) (q3 : p4 = p1) :
    MetFree l (⟨"com/example/prune/prune/mdp/ListsPlacePinLaw", "first", "(IIII)I"⟩ : MethodName) (head1 (Jvm.Cond.code (⟨"com/example/prune/prune/mdp/ListsPlacePinLaw", "first", "(IIII)I"⟩ : MethodName) method_3_code 4 (some .int) :: ws) ({ frames := 0, cells := 0, slots := 0, locals := 0 } : Room)) (fun a U => a = #[(.int p1), (.int p2), (.int p3), (.int p4)] ∧ Z.Warmed39 U.vm ∧ U.heap = h0) (fun _ _ _ _ _ => True) (fun _ U o U' => ∃ v L, o = .returned v ∧ Q8 Z p1 p2 p3 p4 h0 n0 v U'.heap L ∧ FrameEnd U o U' L ({ frames := 0, cells := 0, slots := 0, locals := 0 } : Room).cells ({ frames := 0, cells := 0, slots := 0, locals := 0 } : Room).slots) := by
  refine MetFree.of_bodySF (plainFor_of_name pn_8) hisR ?_
  intro p e s m args below meth c s₁ Bd hml0 hP hK
  obtain ⟨rfl, hZ, hh⟩ := hP
  have hx := Bd.exec
  have hby := Bd.bytes
  have hml : c.maxLocals = 4 := hml0
  have hown : s.vm.findClass "com/example/prune/prune/mdp/ListsPlacePinLaw" = some m.cls := findClass_of_methodNamed Bd.named
  have hnm := (name_of_methodNamed Bd.named Bd.method).1
  have X0 : Stand p l e ({ frames := 0, cells := 0, slots := 0, locals := 0 } : Room) s m #[(.int p1), (.int p2), (.int p3), (.int p4)] below meth c s₁ [] 0 0 := Stand.of_body Bd
  have e0 : s₁.heap = h0 := by rw [← hh, Bd.state]; rfl
  have N0 := Fr.nil n0
  have pre0 : ∀ t, Steps p.tables e below (s₁.setTop (mkF m 0 #[.val (.int p1), .val (.int p2), .val (.int p3), .val (.int p4)] [])) t → Steps p.tables e below (s₁.setTop (entryFrame m #[(.int p1), (.int p2), (.int p3), (.int p4)] 4)) t := fun t k => castTop (ef_8 m p1 p2 p3 p4) k
  obtain ⟨fs, hr, hrun, hended, hW, hsame⟩ := X0.leave (v := some (.int (2 : Int32))) (fun h => by rw [Bd.returns] at h; cases h)
  refine ⟨_, _, pre0 _ ?_, hrun, hended, _, _, rfl, ?_, ⟨_, rfl⟩, hW, hsame.mono (by decide) (by decide)⟩
  · show Steps p.tables e below (s₁.setTop (mkF m 0 #[.val (.int p1), .val (.int p2), .val (.int p3), .val (.int p4)] [])) _
    refine XS.iloadN X0.here hx rfl (hb hby d8_0) rfl ?_
    show Steps p.tables e below (s₁.setTop (mkF m 1 #[.val (.int p1), .val (.int p2), .val (.int p3), .val (.int p4)] [(.int p2)])) _
    refine XS.iloadN X0.here hx rfl (hb hby d8_1) rfl ?_
    show Steps p.tables e below (s₁.setTop (mkF m 2 #[.val (.int p1), .val (.int p2), .val (.int p3), .val (.int p4)] [(.int p1), (.int p2)])) _
    refine XS.icmpYes X0.here hx rfl (pc0 := 2) (pc' := 7) rfl (hb hby d8_2) rfl (feq q1).2 (by decide) (by decide) ?_
    show Steps p.tables e below (s₁.setTop (mkF m 7 #[.val (.int p1), .val (.int p2), .val (.int p3), .val (.int p4)] [])) _
    refine XS.iloadN X0.here hx rfl (hb hby d8_7) rfl ?_
    show Steps p.tables e below (s₁.setTop (mkF m 8 #[.val (.int p1), .val (.int p2), .val (.int p3), .val (.int p4)] [(.int p3)])) _
    refine XS.iloadN X0.here hx rfl (hb hby d8_8) rfl ?_
    show Steps p.tables e below (s₁.setTop (mkF m 9 #[.val (.int p1), .val (.int p2), .val (.int p3), .val (.int p4)] [(.int p1), (.int p3)])) _
    refine XS.icmpYes X0.here hx rfl (pc0 := 9) (pc' := 14) rfl (hb hby d8_9) rfl (feq q2).2 (by decide) (by decide) ?_
    show Steps p.tables e below (s₁.setTop (mkF m 14 #[.val (.int p1), .val (.int p2), .val (.int p3), .val (.int p4)] [])) _
    refine XS.iloadN X0.here hx rfl (hb hby d8_14) rfl ?_
    show Steps p.tables e below (s₁.setTop (mkF m 15 #[.val (.int p1), .val (.int p2), .val (.int p3), .val (.int p4)] [(.int p4)])) _
    refine XS.iloadN X0.here hx rfl (hb hby d8_15) rfl ?_
    show Steps p.tables e below (s₁.setTop (mkF m 16 #[.val (.int p1), .val (.int p2), .val (.int p3), .val (.int p4)] [(.int p1), (.int p4)])) _
    refine XS.icmpNo X0.here hx rfl (hb hby d8_16) rfl (teq q3).2 ?_
    show Steps p.tables e below (s₁.setTop (mkF m 19 #[.val (.int p1), .val (.int p2), .val (.int p3), .val (.int p4)] [])) _
    refine XS.iconst X0.here hx rfl (hb hby d8_19) ?_
    show Steps p.tables e below (s₁.setTop (mkF m 20 #[.val (.int p1), .val (.int p2), .val (.int p3), .val (.int p4)] [(.int (2 : Int32))])) _
    exact retI X0 hx Bd.returns (hb hby d8_20) hr
  · show Q8 Z p1 p2 p3 p4 h0 n0 _ s₁.heap _
    rw [e0]
    have hm : own_first p1 p2 p3 p4 = (2 : Int32) := by unfold own_first; rw [if_neg q1, if_neg q2, if_pos q3]
    exact ⟨by rw [hm], N0, rfl⟩
set_option maxRecDepth 65536 in
set_option maxHeartbeats 40000000 in
theorem rm8_3 (l : Launch) (Z : State) (a0 : Array Value) (hw : ∀ d ∈ tables_1, d.before a0 Z = true) (ws : List Jvm.Cond) (p1 : Int32) (p2 : Int32) (p3 : Int32) (p4 : Int32) (h0 : Heap) (n0 : Nat) (Z0 : n0 ≤ h0.size) (q1 : ¬ (p2 = p1)) (q2 : ¬ (p3 = p1)) (q3 : ¬ (p4 = p1)) :
    MetFree l (⟨"com/example/prune/prune/mdp/ListsPlacePinLaw", "first", "(IIII)I"⟩ : MethodName) (head1 (Jvm.Cond.code (⟨"com/example/prune/prune/mdp/ListsPlacePinLaw", "first", "(IIII)I"⟩ : MethodName) method_3_code 4 (some .int) :: ws) ({ frames := 0, cells := 0, slots := 0, locals := 0 } : Room)) (fun a U => a = #[(.int p1), (.int p2), (.int p3), (.int p4)] ∧ Z.Warmed39 U.vm ∧ U.heap = h0) (fun _ _ _ _ _ => True) (fun _ U o U' => ∃ v L, o = .returned v ∧ Q8 Z p1 p2 p3 p4 h0 n0 v U'.heap L ∧ FrameEnd U o U' L ({ frames := 0, cells := 0, slots := 0, locals := 0 } : Room).cells ({ frames := 0, cells := 0, slots := 0, locals := 0 } : Room).slots) := by
  refine MetFree.of_bodySF (plainFor_of_name pn_8) hisR ?_
  intro p e s m args below meth c s₁ Bd hml0 hP hK
  obtain ⟨rfl, hZ, hh⟩ := hP
  have hx := Bd.exec
  have hby := Bd.bytes
  have hml : c.maxLocals = 4 := hml0
  have hown : s.vm.findClass "com/example/prune/prune/mdp/ListsPlacePinLaw" = some m.cls := findClass_of_methodNamed Bd.named
  have hnm := (name_of_methodNamed Bd.named Bd.method).1
  have X0 : Stand p l e ({ frames := 0, cells := 0, slots := 0, locals := 0 } : Room) s m #[(.int p1), (.int p2), (.int p3), (.int p4)] below meth c s₁ [] 0 0 := Stand.of_body Bd
  have e0 : s₁.heap = h0 := by rw [← hh, Bd.state]; rfl
  have N0 := Fr.nil n0
  have pre0 : ∀ t, Steps p.tables e below (s₁.setTop (mkF m 0 #[.val (.int p1), .val (.int p2), .val (.int p3), .val (.int p4)] [])) t → Steps p.tables e below (s₁.setTop (entryFrame m #[(.int p1), (.int p2), (.int p3), (.int p4)] 4)) t := fun t k => castTop (ef_8 m p1 p2 p3 p4) k
  obtain ⟨fs, hr, hrun, hended, hW, hsame⟩ := X0.leave (v := some (.int (3 : Int32))) (fun h => by rw [Bd.returns] at h; cases h)
  refine ⟨_, _, pre0 _ ?_, hrun, hended, _, _, rfl, ?_, ⟨_, rfl⟩, hW, hsame.mono (by decide) (by decide)⟩
  · show Steps p.tables e below (s₁.setTop (mkF m 0 #[.val (.int p1), .val (.int p2), .val (.int p3), .val (.int p4)] [])) _
    refine XS.iloadN X0.here hx rfl (hb hby d8_0) rfl ?_
    show Steps p.tables e below (s₁.setTop (mkF m 1 #[.val (.int p1), .val (.int p2), .val (.int p3), .val (.int p4)] [(.int p2)])) _
    refine XS.iloadN X0.here hx rfl (hb hby d8_1) rfl ?_
    show Steps p.tables e below (s₁.setTop (mkF m 2 #[.val (.int p1), .val (.int p2), .val (.int p3), .val (.int p4)] [(.int p1), (.int p2)])) _
    refine XS.icmpYes X0.here hx rfl (pc0 := 2) (pc' := 7) rfl (hb hby d8_2) rfl (feq q1).2 (by decide) (by decide) ?_
    show Steps p.tables e below (s₁.setTop (mkF m 7 #[.val (.int p1), .val (.int p2), .val (.int p3), .val (.int p4)] [])) _
    refine XS.iloadN X0.here hx rfl (hb hby d8_7) rfl ?_
    show Steps p.tables e below (s₁.setTop (mkF m 8 #[.val (.int p1), .val (.int p2), .val (.int p3), .val (.int p4)] [(.int p3)])) _
    refine XS.iloadN X0.here hx rfl (hb hby d8_8) rfl ?_
    show Steps p.tables e below (s₁.setTop (mkF m 9 #[.val (.int p1), .val (.int p2), .val (.int p3), .val (.int p4)] [(.int p1), (.int p3)])) _
    refine XS.icmpYes X0.here hx rfl (pc0 := 9) (pc' := 14) rfl (hb hby d8_9) rfl (feq q2).2 (by decide) (by decide) ?_
    show Steps p.tables e below (s₁.setTop (mkF m 14 #[.val (.int p1), .val (.int p2), .val (.int p3), .val (.int p4)] [])) _
    refine XS.iloadN X0.here hx rfl (hb hby d8_14) rfl ?_
    show Steps p.tables e below (s₁.setTop (mkF m 15 #[.val (.int p1), .val (.int p2), .val (.int p3), .val (.int p4)] [(.int p4)])) _
    refine XS.iloadN X0.here hx rfl (hb hby d8_15) rfl ?_
    show Steps p.tables e below (s₁.setTop (mkF m 16 #[.val (.int p1), .val (.int p2), .val (.int p3), .val (.int p4)] [(.int p1), (.int p4)])) _
    refine XS.icmpYes X0.here hx rfl (pc0 := 16) (pc' := 21) rfl (hb hby d8_16) rfl (feq q3).2 (by decide) (by decide) ?_
    show Steps p.tables e below (s₁.setTop (mkF m 21 #[.val (.int p1), .val (.int p2), .val (.int p3), .val (.int p4)] [])) _
    refine XS.iconst X0.here hx rfl (hb hby d8_21) ?_
    show Steps p.tables e below (s₁.setTop (mkF m 22 #[.val (.int p1), .val (.int p2), .val (.int p3), .val (.int p4)] [(.int (3 : Int32))])) _
    exact retI X0 hx Bd.returns (hb hby d8_22) hr
  · show Q8 Z p1 p2 p3 p4 h0 n0 _ s₁.heap _
    rw [e0]
    have hm : own_first p1 p2 p3 p4 = (3 : Int32) := by unfold own_first; rw [if_neg q1, if_neg q2, if_neg q3]
    exact ⟨by rw [hm], N0, rfl⟩
set_option maxRecDepth 65536 in
set_option maxHeartbeats 40000000 in
theorem rm8 (l : Launch) (Z : State) (a0 : Array Value) (hw : ∀ d ∈ tables_1, d.before a0 Z = true) (ws : List Jvm.Cond) (p1 : Int32) (p2 : Int32) (p3 : Int32) (p4 : Int32) (h0 : Heap) (n0 : Nat) (Z0 : n0 ≤ h0.size)  :
    MetFree l (⟨"com/example/prune/prune/mdp/ListsPlacePinLaw", "first", "(IIII)I"⟩ : MethodName) (head1 (Jvm.Cond.code (⟨"com/example/prune/prune/mdp/ListsPlacePinLaw", "first", "(IIII)I"⟩ : MethodName) method_3_code 4 (some .int) :: ws) ({ frames := 0, cells := 0, slots := 0, locals := 0 } : Room)) (fun a U => a = #[(.int p1), (.int p2), (.int p3), (.int p4)] ∧ Z.Warmed39 U.vm ∧ U.heap = h0) (fun _ _ _ _ _ => True) (fun _ U o U' => ∃ v L, o = .returned v ∧ Q8 Z p1 p2 p3 p4 h0 n0 v U'.heap L ∧ FrameEnd U o U' L ({ frames := 0, cells := 0, slots := 0, locals := 0 } : Room).cells ({ frames := 0, cells := 0, slots := 0, locals := 0 } : Room).slots) := by
  by_cases q1 : p2 = p1
  · exact rm8_0 l Z a0 hw ws p1 p2 p3 p4 h0 n0 Z0 q1
  · by_cases q2 : p3 = p1
    · exact rm8_1 l Z a0 hw ws p1 p2 p3 p4 h0 n0 Z0 q1 q2
    · by_cases q3 : p4 = p1
      · exact rm8_2 l Z a0 hw ws p1 p2 p3 p4 h0 n0 Z0 q1 q2 q3
      · exact rm8_3 l Z a0 hw ws p1 p2 p3 p4 h0 n0 Z0 q1 q2 q3
theorem d6_0 : decode method_4_code 0 = .ok (.iload_n 0, 1) := by decide +kernel
theorem d6_1 : decode method_4_code 1 = .ok (.iload_n 1, 1) := by decide +kernel
theorem d6_2 : decode method_4_code 2 = .ok (.iload_n 2, 1) := by decide +kernel
theorem d6_3 : decode method_4_code 3 = .ok (.iload_n 3, 1) := by decide +kernel
theorem d6_4 : decode method_4_code 4 = .ok (.invokestatic 7, 3) := by decide +kernel
theorem d6_7 : decode method_4_code 7 = .ok (.ifCond .ne 5, 3) := by decide +kernel
theorem d6_10 : decode method_4_code 10 = .ok (.iconst 0, 1) := by decide +kernel
theorem d6_11 : decode method_4_code 11 = .ok (.ireturn, 1) := by decide +kernel
theorem d6_12 : decode method_4_code 12 = .ok (.iload_n 0, 1) := by decide +kernel
theorem d6_13 : decode method_4_code 13 = .ok (.iload_n 1, 1) := by decide +kernel
theorem d6_14 : decode method_4_code 14 = .ok (.iload_n 2, 1) := by decide +kernel
theorem d6_15 : decode method_4_code 15 = .ok (.iload_n 3, 1) := by decide +kernel
theorem d6_16 : decode method_4_code 16 = .ok (.invokestatic 13, 3) := by decide +kernel
theorem d6_19 : decode method_4_code 19 = .ok (.istore 4, 2) := by decide +kernel
theorem d6_21 : decode method_4_code 21 = .ok (.iconst 0, 1) := by decide +kernel
theorem d6_22 : decode method_4_code 22 = .ok (.iload_n 1, 1) := by decide +kernel
theorem d6_23 : decode method_4_code 23 = .ok (.iload_n 2, 1) := by decide +kernel
theorem d6_24 : decode method_4_code 24 = .ok (.iload_n 3, 1) := by decide +kernel
theorem d6_25 : decode method_4_code 25 = .ok (.invokestatic 13, 3) := by decide +kernel
theorem d6_28 : decode method_4_code 28 = .ok (.iload 4, 2) := by decide +kernel
theorem d6_30 : decode method_4_code 30 = .ok (.if_icmp .ge 13, 3) := by decide +kernel
theorem d6_33 : decode method_4_code 33 = .ok (.iconst 0, 1) := by decide +kernel
theorem d6_34 : decode method_4_code 34 = .ok (.iload_n 1, 1) := by decide +kernel
theorem d6_35 : decode method_4_code 35 = .ok (.iload_n 2, 1) := by decide +kernel
theorem d6_36 : decode method_4_code 36 = .ok (.iload_n 3, 1) := by decide +kernel
theorem d6_37 : decode method_4_code 37 = .ok (.invokestatic 7, 3) := by decide +kernel
theorem d6_40 : decode method_4_code 40 = .ok (.goto 4, 3) := by decide +kernel
theorem d6_43 : decode method_4_code 43 = .ok (.iconst 0, 1) := by decide +kernel
theorem d6_44 : decode method_4_code 44 = .ok (.istore 5, 2) := by decide +kernel
theorem d6_46 : decode method_4_code 46 = .ok (.iconst 1, 1) := by decide +kernel
theorem d6_47 : decode method_4_code 47 = .ok (.iload_n 1, 1) := by decide +kernel
theorem d6_48 : decode method_4_code 48 = .ok (.iload_n 2, 1) := by decide +kernel
theorem d6_49 : decode method_4_code 49 = .ok (.iload_n 3, 1) := by decide +kernel
theorem d6_50 : decode method_4_code 50 = .ok (.invokestatic 13, 3) := by decide +kernel
theorem d6_53 : decode method_4_code 53 = .ok (.iload 4, 2) := by decide +kernel
theorem d6_55 : decode method_4_code 55 = .ok (.if_icmp .ge 13, 3) := by decide +kernel
theorem d6_58 : decode method_4_code 58 = .ok (.iconst 1, 1) := by decide +kernel
theorem d6_59 : decode method_4_code 59 = .ok (.iload_n 1, 1) := by decide +kernel
theorem d6_60 : decode method_4_code 60 = .ok (.iload_n 2, 1) := by decide +kernel
theorem d6_61 : decode method_4_code 61 = .ok (.iload_n 3, 1) := by decide +kernel
theorem d6_62 : decode method_4_code 62 = .ok (.invokestatic 7, 3) := by decide +kernel
theorem d6_65 : decode method_4_code 65 = .ok (.goto 4, 3) := by decide +kernel
theorem d6_68 : decode method_4_code 68 = .ok (.iconst 0, 1) := by decide +kernel
theorem d6_69 : decode method_4_code 69 = .ok (.istore 6, 2) := by decide +kernel
theorem d6_71 : decode method_4_code 71 = .ok (.iconst 2, 1) := by decide +kernel
theorem d6_72 : decode method_4_code 72 = .ok (.iload_n 1, 1) := by decide +kernel
theorem d6_73 : decode method_4_code 73 = .ok (.iload_n 2, 1) := by decide +kernel
theorem d6_74 : decode method_4_code 74 = .ok (.iload_n 3, 1) := by decide +kernel
theorem d6_75 : decode method_4_code 75 = .ok (.invokestatic 13, 3) := by decide +kernel
theorem d6_78 : decode method_4_code 78 = .ok (.iload 4, 2) := by decide +kernel
theorem d6_80 : decode method_4_code 80 = .ok (.if_icmp .ge 13, 3) := by decide +kernel
theorem d6_83 : decode method_4_code 83 = .ok (.iconst 2, 1) := by decide +kernel
theorem d6_84 : decode method_4_code 84 = .ok (.iload_n 1, 1) := by decide +kernel
theorem d6_85 : decode method_4_code 85 = .ok (.iload_n 2, 1) := by decide +kernel
theorem d6_86 : decode method_4_code 86 = .ok (.iload_n 3, 1) := by decide +kernel
theorem d6_87 : decode method_4_code 87 = .ok (.invokestatic 7, 3) := by decide +kernel
theorem d6_90 : decode method_4_code 90 = .ok (.goto 4, 3) := by decide +kernel
theorem d6_93 : decode method_4_code 93 = .ok (.iconst 0, 1) := by decide +kernel
theorem d6_94 : decode method_4_code 94 = .ok (.istore 7, 2) := by decide +kernel
theorem d6_96 : decode method_4_code 96 = .ok (.iload 5, 2) := by decide +kernel
theorem d6_98 : decode method_4_code 98 = .ok (.iload 6, 2) := by decide +kernel
theorem d6_100 : decode method_4_code 100 = .ok (.iadd, 1) := by decide +kernel
theorem d6_101 : decode method_4_code 101 = .ok (.iload 7, 2) := by decide +kernel
theorem d6_103 : decode method_4_code 103 = .ok (.iadd, 1) := by decide +kernel
theorem d6_104 : decode method_4_code 104 = .ok (.ireturn, 1) := by decide +kernel
theorem pn_6 : plainName "com/example/prune/prune/mdp/ListsPlacePinLaw" = true := by first | (simp [plainName, overriddenIn]; done) | decide +kernel
theorem ef_6 (m : MethodId) (x0 : Int32) (x1 : Int32) (x2 : Int32) (x3 : Int32) : entryFrame m #[(.int x0), (.int x1), (.int x2), (.int x3)] 8 = mkF m 0 #[.val (.int x0), .val (.int x1), .val (.int x2), .val (.int x3), .unset, .unset, .unset, .unset] [] := by first | (simp [entryFrame, mkF, argsToLocals, Value.category]; done) | rfl
theorem pd_6_0 : parseMethodDescriptor "(IIII)I" = some ⟨[.int, .int, .int, .int], some .int⟩ := by decide +kernel
def Q6 (Z : State) (p1 : Int32) (p2 : Int32) (p3 : Int32) (p4 : Int32) (h0 : Heap) (n0 : Nat) (v : Option Value) (h : Heap) (L : List Loc) : Prop := v = some (.int (own_ref p1 p2 p3 p4)) ∧ Fr n0 L ∧ h = h0
set_option maxRecDepth 65536 in
set_option maxHeartbeats 40000000 in
theorem rm6_z (l : Launch) (Z : State) (a0 : Array Value) (hw : ∀ d ∈ tables_1, d.before a0 Z = true) (ws : List Jvm.Cond) (p1 : Int32) (p2 : Int32) (p3 : Int32) (p4 : Int32) (h0 : Heap) (n0 : Nat) (Z0 : n0 ≤ h0.size) (q0 : own_cnt p1 p2 p3 p4 = (0 : Int32)) :
    MetFree l (⟨"com/example/prune/prune/mdp/ListsPlacePinLaw", "refStart", "(IIII)I"⟩ : MethodName) (head1 (Jvm.Cond.code (⟨"com/example/prune/prune/mdp/ListsPlacePinLaw", "refStart", "(IIII)I"⟩ : MethodName) method_4_code 8 (some .int) :: ws) ({ frames := 1, cells := 0, slots := 0, locals := 15 } : Room)) (fun a U => a = #[(.int p1), (.int p2), (.int p3), (.int p4)] ∧ Z.Warmed39 U.vm ∧ U.heap = h0) (fun _ _ _ _ _ => True) (fun _ U o U' => ∃ v L, o = .returned v ∧ Q6 Z p1 p2 p3 p4 h0 n0 v U'.heap L ∧ FrameEnd U o U' L ({ frames := 1, cells := 0, slots := 0, locals := 15 } : Room).cells ({ frames := 1, cells := 0, slots := 0, locals := 15 } : Room).slots) := by
  refine MetFree.of_bodySF (plainFor_of_name pn_6) hisR ?_
  intro p e s m args below meth c s₁ Bd hml0 hP hK
  obtain ⟨rfl, hZ, hh⟩ := hP
  have hx := Bd.exec
  have hby := Bd.bytes
  have hml : c.maxLocals = 8 := hml0
  have hown : s.vm.findClass "com/example/prune/prune/mdp/ListsPlacePinLaw" = some m.cls := findClass_of_methodNamed Bd.named
  have hnm := (name_of_methodNamed Bd.named Bd.method).1
  have X0 : Stand p l e ({ frames := 1, cells := 0, slots := 0, locals := 15 } : Room) s m #[(.int p1), (.int p2), (.int p3), (.int p4)] below meth c s₁ [] 0 0 := Stand.of_body Bd
  have e0 : s₁.heap = h0 := by rw [← hh, Bd.state]; rfl
  have N0 := Fr.nil n0
  have pre0 : ∀ t, Steps p.tables e below (s₁.setTop (mkF m 0 #[.val (.int p1), .val (.int p2), .val (.int p3), .val (.int p4), .unset, .unset, .unset, .unset] [])) t → Steps p.tables e below (s₁.setTop (entryFrame m #[(.int p1), (.int p2), (.int p3), (.int p4)] 8)) t := fun t k => castTop (ef_6 m p1 p2 p3 p4) k
  obtain ⟨_, _, ⟨T1, L1, k1, n1⟩, -, X1, ⟨Lc1, hQ1, l1, y1, z1⟩, st1⟩ := Jvm.LawKit.callS X0 hx (y := (⟨"com/example/prune/prune/mdp/ListsPlacePinLaw", "cnt", "(IIII)I"⟩ : MethodName)) hown (mvT hZ (hw _ (List.mem_of_getElem? (i := 39) rfl))) (mvT hZ (hw _ (List.mem_of_getElem? (i := 40) rfl))) (mvT hZ (hw _ (List.mem_of_getElem? (i := 37) rfl))) (mvT hZ (hw _ (List.mem_of_getElem? (i := 41) rfl))) (by decide) (backOf (W := 0) (rm7 l Z a0 hw [] p1 p2 p3 p4 h0 n0 Z0) hZ (hw _ (List.mem_of_getElem? (i := 41) rfl)) (hw _ (List.mem_of_getElem? (i := 37) rfl)) (by decide) (by decide)) (g := (mkF m 4 #[.val (.int p1), .val (.int p2), .val (.int p3), .val (.int p4), .unset, .unset, .unset, .unset] [(.int p4), (.int p3), (.int p2), (.int p1)])) rfl (by rw [hml]; rfl) (argsL := [(.int p1), (.int p2), (.int p3), (.int p4)]) (rest := []) (lenOf pd_6_0 rfl) rfl (by show 2 * 0 + _ ≤ _; exact Nat.le_of_eq rfl) (hb hby d6_4) (fun _ _ => ⟨rfl, e0, (by decide : 0 + 0 ≤ _), (by decide : 0 + 0 ≤ _)⟩)
  dsimp only [Pt.U, Pt.locs, Pt.cells, Pt.slots] at X1 l1 y1 z1 st1 hQ1
  subst l1 y1 z1
  obtain ⟨rfl, N1q, e1⟩ := hQ1
  have N1 := Fr.app N0 N1q
  obtain ⟨fs, hr, hrun, hended, hW, hsame⟩ := X1.leave (v := some (.int (0 : Int32))) (fun h => by rw [Bd.returns] at h; cases h)
  refine ⟨_, _, pre0 _ ?_, hrun, hended, _, _, rfl, ?_, ⟨_, rfl⟩, hW, hsame.mono (by decide) (by decide)⟩
  · show Steps p.tables e below (s₁.setTop (mkF m 0 #[.val (.int p1), .val (.int p2), .val (.int p3), .val (.int p4), .unset, .unset, .unset, .unset] [])) _
    refine XS.iloadN X0.here hx rfl (hb hby d6_0) rfl ?_
    show Steps p.tables e below (s₁.setTop (mkF m 1 #[.val (.int p1), .val (.int p2), .val (.int p3), .val (.int p4), .unset, .unset, .unset, .unset] [(.int p1)])) _
    refine XS.iloadN X0.here hx rfl (hb hby d6_1) rfl ?_
    show Steps p.tables e below (s₁.setTop (mkF m 2 #[.val (.int p1), .val (.int p2), .val (.int p3), .val (.int p4), .unset, .unset, .unset, .unset] [(.int p2), (.int p1)])) _
    refine XS.iloadN X0.here hx rfl (hb hby d6_2) rfl ?_
    show Steps p.tables e below (s₁.setTop (mkF m 3 #[.val (.int p1), .val (.int p2), .val (.int p3), .val (.int p4), .unset, .unset, .unset, .unset] [(.int p3), (.int p2), (.int p1)])) _
    refine XS.iloadN X0.here hx rfl (hb hby d6_3) rfl ?_
    show Steps p.tables e below (s₁.setTop (mkF m 4 #[.val (.int p1), .val (.int p2), .val (.int p3), .val (.int p4), .unset, .unset, .unset, .unset] [(.int p4), (.int p3), (.int p2), (.int p1)])) _
    refine st1 _ ?_
    show Steps p.tables e below (T1.setTop (mkF m 7 #[.val (.int p1), .val (.int p2), .val (.int p3), .val (.int p4), .unset, .unset, .unset, .unset] [(.int (own_cnt p1 p2 p3 p4))])) _
    refine XS.ifNo X1.here hx rfl (hb hby d6_7) rfl ((if0 _ _).trans (teq q0).2) ?_
    show Steps p.tables e below (T1.setTop (mkF m 10 #[.val (.int p1), .val (.int p2), .val (.int p3), .val (.int p4), .unset, .unset, .unset, .unset] [])) _
    refine XS.iconst X1.here hx rfl (hb hby d6_10) ?_
    show Steps p.tables e below (T1.setTop (mkF m 11 #[.val (.int p1), .val (.int p2), .val (.int p3), .val (.int p4), .unset, .unset, .unset, .unset] [(.int (0 : Int32))])) _
    exact retI X1 hx Bd.returns (hb hby d6_11) hr
  · show Q6 Z p1 p2 p3 p4 h0 n0 _ T1.heap _
    rw [e1]
    have hm : own_ref p1 p2 p3 p4 = (0 : Int32) := by unfold own_ref; rw [if_pos q0]
    exact ⟨by rw [hm], N1, rfl⟩
set_option maxRecDepth 65536 in
set_option maxHeartbeats 40000000 in
theorem rm6_000 (l : Launch) (Z : State) (a0 : Array Value) (hw : ∀ d ∈ tables_1, d.before a0 Z = true) (ws : List Jvm.Cond) (p1 : Int32) (p2 : Int32) (p3 : Int32) (p4 : Int32) (h0 : Heap) (n0 : Nat) (Z0 : n0 ≤ h0.size) (q0 : ¬ (own_cnt p1 p2 p3 p4 = (0 : Int32))) (q1 : ¬ (own_first (0 : Int32) p2 p3 p4 < own_first p1 p2 p3 p4)) (q2 : ¬ (own_first (1 : Int32) p2 p3 p4 < own_first p1 p2 p3 p4)) (q3 : ¬ (own_first (2 : Int32) p2 p3 p4 < own_first p1 p2 p3 p4)) :
    MetFree l (⟨"com/example/prune/prune/mdp/ListsPlacePinLaw", "refStart", "(IIII)I"⟩ : MethodName) (head1 (Jvm.Cond.code (⟨"com/example/prune/prune/mdp/ListsPlacePinLaw", "refStart", "(IIII)I"⟩ : MethodName) method_4_code 8 (some .int) :: ws) ({ frames := 1, cells := 0, slots := 0, locals := 15 } : Room)) (fun a U => a = #[(.int p1), (.int p2), (.int p3), (.int p4)] ∧ Z.Warmed39 U.vm ∧ U.heap = h0) (fun _ _ _ _ _ => True) (fun _ U o U' => ∃ v L, o = .returned v ∧ Q6 Z p1 p2 p3 p4 h0 n0 v U'.heap L ∧ FrameEnd U o U' L ({ frames := 1, cells := 0, slots := 0, locals := 15 } : Room).cells ({ frames := 1, cells := 0, slots := 0, locals := 15 } : Room).slots) := by
  refine MetFree.of_bodySF (plainFor_of_name pn_6) hisR ?_
  intro p e s m args below meth c s₁ Bd hml0 hP hK
  obtain ⟨rfl, hZ, hh⟩ := hP
  have hx := Bd.exec
  have hby := Bd.bytes
  have hml : c.maxLocals = 8 := hml0
  have hown : s.vm.findClass "com/example/prune/prune/mdp/ListsPlacePinLaw" = some m.cls := findClass_of_methodNamed Bd.named
  have hnm := (name_of_methodNamed Bd.named Bd.method).1
  have X0 : Stand p l e ({ frames := 1, cells := 0, slots := 0, locals := 15 } : Room) s m #[(.int p1), (.int p2), (.int p3), (.int p4)] below meth c s₁ [] 0 0 := Stand.of_body Bd
  have e0 : s₁.heap = h0 := by rw [← hh, Bd.state]; rfl
  have N0 := Fr.nil n0
  have pre0 : ∀ t, Steps p.tables e below (s₁.setTop (mkF m 0 #[.val (.int p1), .val (.int p2), .val (.int p3), .val (.int p4), .unset, .unset, .unset, .unset] [])) t → Steps p.tables e below (s₁.setTop (entryFrame m #[(.int p1), (.int p2), (.int p3), (.int p4)] 8)) t := fun t k => castTop (ef_6 m p1 p2 p3 p4) k
  obtain ⟨_, _, ⟨T1, L1, k1, n1⟩, -, X1, ⟨Lc1, hQ1, l1, y1, z1⟩, st1⟩ := Jvm.LawKit.callS X0 hx (y := (⟨"com/example/prune/prune/mdp/ListsPlacePinLaw", "cnt", "(IIII)I"⟩ : MethodName)) hown (mvT hZ (hw _ (List.mem_of_getElem? (i := 39) rfl))) (mvT hZ (hw _ (List.mem_of_getElem? (i := 40) rfl))) (mvT hZ (hw _ (List.mem_of_getElem? (i := 37) rfl))) (mvT hZ (hw _ (List.mem_of_getElem? (i := 41) rfl))) (by decide) (backOf (W := 0) (rm7 l Z a0 hw [] p1 p2 p3 p4 h0 n0 Z0) hZ (hw _ (List.mem_of_getElem? (i := 41) rfl)) (hw _ (List.mem_of_getElem? (i := 37) rfl)) (by decide) (by decide)) (g := (mkF m 4 #[.val (.int p1), .val (.int p2), .val (.int p3), .val (.int p4), .unset, .unset, .unset, .unset] [(.int p4), (.int p3), (.int p2), (.int p1)])) rfl (by rw [hml]; rfl) (argsL := [(.int p1), (.int p2), (.int p3), (.int p4)]) (rest := []) (lenOf pd_6_0 rfl) rfl (by show 2 * 0 + _ ≤ _; exact Nat.le_of_eq rfl) (hb hby d6_4) (fun _ _ => ⟨rfl, e0, (by decide : 0 + 0 ≤ _), (by decide : 0 + 0 ≤ _)⟩)
  dsimp only [Pt.U, Pt.locs, Pt.cells, Pt.slots] at X1 l1 y1 z1 st1 hQ1
  subst l1 y1 z1
  obtain ⟨rfl, N1q, e1⟩ := hQ1
  have N1 := Fr.app N0 N1q
  obtain ⟨_, _, ⟨T2, L2, k2, n2⟩, -, X2, ⟨Lc2, hQ2, l2, y2, z2⟩, st2⟩ := Jvm.LawKit.callS X1 hx (y := (⟨"com/example/prune/prune/mdp/ListsPlacePinLaw", "first", "(IIII)I"⟩ : MethodName)) hown (mvT hZ (hw _ (List.mem_of_getElem? (i := 42) rfl))) (mvT hZ (hw _ (List.mem_of_getElem? (i := 43) rfl))) (mvT hZ (hw _ (List.mem_of_getElem? (i := 37) rfl))) (mvT hZ (hw _ (List.mem_of_getElem? (i := 44) rfl))) (by decide) (backOf (W := 0) (rm8 l Z a0 hw [] p1 p2 p3 p4 h0 n0 Z0) hZ (hw _ (List.mem_of_getElem? (i := 44) rfl)) (hw _ (List.mem_of_getElem? (i := 37) rfl)) (by decide) (by decide)) (g := (mkF m 16 #[.val (.int p1), .val (.int p2), .val (.int p3), .val (.int p4), .unset, .unset, .unset, .unset] [(.int p4), (.int p3), (.int p2), (.int p1)])) rfl (by rw [hml]; rfl) (argsL := [(.int p1), (.int p2), (.int p3), (.int p4)]) (rest := []) (lenOf pd_6_0 rfl) rfl (by show 2 * 0 + _ ≤ _; exact Nat.le_of_eq rfl) (hb hby d6_16) (fun _ _ => ⟨rfl, e1, (by decide : 0 + 0 ≤ _), (by decide : 0 + 0 ≤ _)⟩)
  dsimp only [Pt.U, Pt.locs, Pt.cells, Pt.slots] at X2 l2 y2 z2 st2 hQ2
  subst l2 y2 z2
  obtain ⟨rfl, N2q, e2⟩ := hQ2
  have N2 := Fr.app N1 N2q
  obtain ⟨_, _, ⟨T3, L3, k3, n3⟩, -, X3, ⟨Lc3, hQ3, l3, y3, z3⟩, st3⟩ := Jvm.LawKit.callS X2 hx (y := (⟨"com/example/prune/prune/mdp/ListsPlacePinLaw", "first", "(IIII)I"⟩ : MethodName)) hown (mvT hZ (hw _ (List.mem_of_getElem? (i := 42) rfl))) (mvT hZ (hw _ (List.mem_of_getElem? (i := 43) rfl))) (mvT hZ (hw _ (List.mem_of_getElem? (i := 37) rfl))) (mvT hZ (hw _ (List.mem_of_getElem? (i := 44) rfl))) (by decide) (backOf (W := 0) (rm8 l Z a0 hw [] (0 : Int32) p2 p3 p4 h0 n0 Z0) hZ (hw _ (List.mem_of_getElem? (i := 44) rfl)) (hw _ (List.mem_of_getElem? (i := 37) rfl)) (by decide) (by decide)) (g := (mkF m 25 #[.val (.int p1), .val (.int p2), .val (.int p3), .val (.int p4), .val (.int (own_first p1 p2 p3 p4)), .unset, .unset, .unset] [(.int p4), (.int p3), (.int p2), (.int (0 : Int32))])) rfl (by rw [hml]; rfl) (argsL := [(.int (0 : Int32)), (.int p2), (.int p3), (.int p4)]) (rest := []) (lenOf pd_6_0 rfl) rfl (by show 2 * 0 + _ ≤ _; exact Nat.le_of_eq rfl) (hb hby d6_25) (fun _ _ => ⟨rfl, e2, (by decide : 0 + 0 ≤ _), (by decide : 0 + 0 ≤ _)⟩)
  dsimp only [Pt.U, Pt.locs, Pt.cells, Pt.slots] at X3 l3 y3 z3 st3 hQ3
  subst l3 y3 z3
  obtain ⟨rfl, N3q, e3⟩ := hQ3
  have N3 := Fr.app N2 N3q
  obtain ⟨_, _, ⟨T4, L4, k4, n4⟩, -, X4, ⟨Lc4, hQ4, l4, y4, z4⟩, st4⟩ := Jvm.LawKit.callS X3 hx (y := (⟨"com/example/prune/prune/mdp/ListsPlacePinLaw", "first", "(IIII)I"⟩ : MethodName)) hown (mvT hZ (hw _ (List.mem_of_getElem? (i := 42) rfl))) (mvT hZ (hw _ (List.mem_of_getElem? (i := 43) rfl))) (mvT hZ (hw _ (List.mem_of_getElem? (i := 37) rfl))) (mvT hZ (hw _ (List.mem_of_getElem? (i := 44) rfl))) (by decide) (backOf (W := 0) (rm8 l Z a0 hw [] (1 : Int32) p2 p3 p4 h0 n0 Z0) hZ (hw _ (List.mem_of_getElem? (i := 44) rfl)) (hw _ (List.mem_of_getElem? (i := 37) rfl)) (by decide) (by decide)) (g := (mkF m 50 #[.val (.int p1), .val (.int p2), .val (.int p3), .val (.int p4), .val (.int (own_first p1 p2 p3 p4)), .val (.int (0 : Int32)), .unset, .unset] [(.int p4), (.int p3), (.int p2), (.int (1 : Int32))])) rfl (by rw [hml]; rfl) (argsL := [(.int (1 : Int32)), (.int p2), (.int p3), (.int p4)]) (rest := []) (lenOf pd_6_0 rfl) rfl (by show 2 * 0 + _ ≤ _; exact Nat.le_of_eq rfl) (hb hby d6_50) (fun _ _ => ⟨rfl, e3, (by decide : 0 + 0 ≤ _), (by decide : 0 + 0 ≤ _)⟩)
  dsimp only [Pt.U, Pt.locs, Pt.cells, Pt.slots] at X4 l4 y4 z4 st4 hQ4
  subst l4 y4 z4
  obtain ⟨rfl, N4q, e4⟩ := hQ4
  have N4 := Fr.app N3 N4q
  obtain ⟨_, _, ⟨T5, L5, k5, n5⟩, -, X5, ⟨Lc5, hQ5, l5, y5, z5⟩, st5⟩ := Jvm.LawKit.callS X4 hx (y := (⟨"com/example/prune/prune/mdp/ListsPlacePinLaw", "first", "(IIII)I"⟩ : MethodName)) hown (mvT hZ (hw _ (List.mem_of_getElem? (i := 42) rfl))) (mvT hZ (hw _ (List.mem_of_getElem? (i := 43) rfl))) (mvT hZ (hw _ (List.mem_of_getElem? (i := 37) rfl))) (mvT hZ (hw _ (List.mem_of_getElem? (i := 44) rfl))) (by decide) (backOf (W := 0) (rm8 l Z a0 hw [] (2 : Int32) p2 p3 p4 h0 n0 Z0) hZ (hw _ (List.mem_of_getElem? (i := 44) rfl)) (hw _ (List.mem_of_getElem? (i := 37) rfl)) (by decide) (by decide)) (g := (mkF m 75 #[.val (.int p1), .val (.int p2), .val (.int p3), .val (.int p4), .val (.int (own_first p1 p2 p3 p4)), .val (.int (0 : Int32)), .val (.int (0 : Int32)), .unset] [(.int p4), (.int p3), (.int p2), (.int (2 : Int32))])) rfl (by rw [hml]; rfl) (argsL := [(.int (2 : Int32)), (.int p2), (.int p3), (.int p4)]) (rest := []) (lenOf pd_6_0 rfl) rfl (by show 2 * 0 + _ ≤ _; exact Nat.le_of_eq rfl) (hb hby d6_75) (fun _ _ => ⟨rfl, e4, (by decide : 0 + 0 ≤ _), (by decide : 0 + 0 ≤ _)⟩)
  dsimp only [Pt.U, Pt.locs, Pt.cells, Pt.slots] at X5 l5 y5 z5 st5 hQ5
  subst l5 y5 z5
  obtain ⟨rfl, N5q, e5⟩ := hQ5
  have N5 := Fr.app N4 N5q
  obtain ⟨fs, hr, hrun, hended, hW, hsame⟩ := X5.leave (v := some (.int (((0 : Int32) + (0 : Int32)) + (0 : Int32)))) (fun h => by rw [Bd.returns] at h; cases h)
  refine ⟨_, _, pre0 _ ?_, hrun, hended, _, _, rfl, ?_, ⟨_, rfl⟩, hW, hsame.mono (by decide) (by decide)⟩
  · show Steps p.tables e below (s₁.setTop (mkF m 0 #[.val (.int p1), .val (.int p2), .val (.int p3), .val (.int p4), .unset, .unset, .unset, .unset] [])) _
    refine XS.iloadN X0.here hx rfl (hb hby d6_0) rfl ?_
    show Steps p.tables e below (s₁.setTop (mkF m 1 #[.val (.int p1), .val (.int p2), .val (.int p3), .val (.int p4), .unset, .unset, .unset, .unset] [(.int p1)])) _
    refine XS.iloadN X0.here hx rfl (hb hby d6_1) rfl ?_
    show Steps p.tables e below (s₁.setTop (mkF m 2 #[.val (.int p1), .val (.int p2), .val (.int p3), .val (.int p4), .unset, .unset, .unset, .unset] [(.int p2), (.int p1)])) _
    refine XS.iloadN X0.here hx rfl (hb hby d6_2) rfl ?_
    show Steps p.tables e below (s₁.setTop (mkF m 3 #[.val (.int p1), .val (.int p2), .val (.int p3), .val (.int p4), .unset, .unset, .unset, .unset] [(.int p3), (.int p2), (.int p1)])) _
    refine XS.iloadN X0.here hx rfl (hb hby d6_3) rfl ?_
    show Steps p.tables e below (s₁.setTop (mkF m 4 #[.val (.int p1), .val (.int p2), .val (.int p3), .val (.int p4), .unset, .unset, .unset, .unset] [(.int p4), (.int p3), (.int p2), (.int p1)])) _
    refine st1 _ ?_
    show Steps p.tables e below (T1.setTop (mkF m 7 #[.val (.int p1), .val (.int p2), .val (.int p3), .val (.int p4), .unset, .unset, .unset, .unset] [(.int (own_cnt p1 p2 p3 p4))])) _
    refine XS.ifYes X1.here hx rfl (pc0 := 7) (pc' := 12) rfl (hb hby d6_7) rfl ((if0 _ _).trans (feq q0).2) (by decide) (by decide) ?_
    show Steps p.tables e below (T1.setTop (mkF m 12 #[.val (.int p1), .val (.int p2), .val (.int p3), .val (.int p4), .unset, .unset, .unset, .unset] [])) _
    refine XS.iloadN X1.here hx rfl (hb hby d6_12) rfl ?_
    show Steps p.tables e below (T1.setTop (mkF m 13 #[.val (.int p1), .val (.int p2), .val (.int p3), .val (.int p4), .unset, .unset, .unset, .unset] [(.int p1)])) _
    refine XS.iloadN X1.here hx rfl (hb hby d6_13) rfl ?_
    show Steps p.tables e below (T1.setTop (mkF m 14 #[.val (.int p1), .val (.int p2), .val (.int p3), .val (.int p4), .unset, .unset, .unset, .unset] [(.int p2), (.int p1)])) _
    refine XS.iloadN X1.here hx rfl (hb hby d6_14) rfl ?_
    show Steps p.tables e below (T1.setTop (mkF m 15 #[.val (.int p1), .val (.int p2), .val (.int p3), .val (.int p4), .unset, .unset, .unset, .unset] [(.int p3), (.int p2), (.int p1)])) _
    refine XS.iloadN X1.here hx rfl (hb hby d6_15) rfl ?_
    show Steps p.tables e below (T1.setTop (mkF m 16 #[.val (.int p1), .val (.int p2), .val (.int p3), .val (.int p4), .unset, .unset, .unset, .unset] [(.int p4), (.int p3), (.int p2), (.int p1)])) _
    refine st2 _ ?_
    show Steps p.tables e below (T2.setTop (mkF m 19 #[.val (.int p1), .val (.int p2), .val (.int p3), .val (.int p4), .unset, .unset, .unset, .unset] [(.int (own_first p1 p2 p3 p4))])) _
    refine XS.istore X2.here hx rfl (hb hby d6_19) rfl (l' := #[.val (.int p1), .val (.int p2), .val (.int p3), .val (.int p4), .val (.int (own_first p1 p2 p3 p4)), .unset, .unset, .unset]) rfl ?_
    show Steps p.tables e below (T2.setTop (mkF m 21 #[.val (.int p1), .val (.int p2), .val (.int p3), .val (.int p4), .val (.int (own_first p1 p2 p3 p4)), .unset, .unset, .unset] [])) _
    refine XS.iconst X2.here hx rfl (hb hby d6_21) ?_
    show Steps p.tables e below (T2.setTop (mkF m 22 #[.val (.int p1), .val (.int p2), .val (.int p3), .val (.int p4), .val (.int (own_first p1 p2 p3 p4)), .unset, .unset, .unset] [(.int (0 : Int32))])) _
    refine XS.iloadN X2.here hx rfl (hb hby d6_22) rfl ?_
    show Steps p.tables e below (T2.setTop (mkF m 23 #[.val (.int p1), .val (.int p2), .val (.int p3), .val (.int p4), .val (.int (own_first p1 p2 p3 p4)), .unset, .unset, .unset] [(.int p2), (.int (0 : Int32))])) _
    refine XS.iloadN X2.here hx rfl (hb hby d6_23) rfl ?_
    show Steps p.tables e below (T2.setTop (mkF m 24 #[.val (.int p1), .val (.int p2), .val (.int p3), .val (.int p4), .val (.int (own_first p1 p2 p3 p4)), .unset, .unset, .unset] [(.int p3), (.int p2), (.int (0 : Int32))])) _
    refine XS.iloadN X2.here hx rfl (hb hby d6_24) rfl ?_
    show Steps p.tables e below (T2.setTop (mkF m 25 #[.val (.int p1), .val (.int p2), .val (.int p3), .val (.int p4), .val (.int (own_first p1 p2 p3 p4)), .unset, .unset, .unset] [(.int p4), (.int p3), (.int p2), (.int (0 : Int32))])) _
    refine st3 _ ?_
    show Steps p.tables e below (T3.setTop (mkF m 28 #[.val (.int p1), .val (.int p2), .val (.int p3), .val (.int p4), .val (.int (own_first p1 p2 p3 p4)), .unset, .unset, .unset] [(.int (own_first (0 : Int32) p2 p3 p4))])) _
    refine XS.iload X3.here hx rfl (hb hby d6_28) rfl ?_
    show Steps p.tables e below (T3.setTop (mkF m 30 #[.val (.int p1), .val (.int p2), .val (.int p3), .val (.int p4), .val (.int (own_first p1 p2 p3 p4)), .unset, .unset, .unset] [(.int (own_first p1 p2 p3 p4)), (.int (own_first (0 : Int32) p2 p3 p4))])) _
    refine XS.icmpYes X3.here hx rfl (pc0 := 30) (pc' := 43) rfl (hb hby d6_30) rfl (flt q1).2.1 (by decide) (by decide) ?_
    show Steps p.tables e below (T3.setTop (mkF m 43 #[.val (.int p1), .val (.int p2), .val (.int p3), .val (.int p4), .val (.int (own_first p1 p2 p3 p4)), .unset, .unset, .unset] [])) _
    refine XS.iconst X3.here hx rfl (hb hby d6_43) ?_
    show Steps p.tables e below (T3.setTop (mkF m 44 #[.val (.int p1), .val (.int p2), .val (.int p3), .val (.int p4), .val (.int (own_first p1 p2 p3 p4)), .unset, .unset, .unset] [(.int (0 : Int32))])) _
    refine XS.istore X3.here hx rfl (hb hby d6_44) rfl (l' := #[.val (.int p1), .val (.int p2), .val (.int p3), .val (.int p4), .val (.int (own_first p1 p2 p3 p4)), .val (.int (0 : Int32)), .unset, .unset]) rfl ?_
    show Steps p.tables e below (T3.setTop (mkF m 46 #[.val (.int p1), .val (.int p2), .val (.int p3), .val (.int p4), .val (.int (own_first p1 p2 p3 p4)), .val (.int (0 : Int32)), .unset, .unset] [])) _
    refine XS.iconst X3.here hx rfl (hb hby d6_46) ?_
    show Steps p.tables e below (T3.setTop (mkF m 47 #[.val (.int p1), .val (.int p2), .val (.int p3), .val (.int p4), .val (.int (own_first p1 p2 p3 p4)), .val (.int (0 : Int32)), .unset, .unset] [(.int (1 : Int32))])) _
    refine XS.iloadN X3.here hx rfl (hb hby d6_47) rfl ?_
    show Steps p.tables e below (T3.setTop (mkF m 48 #[.val (.int p1), .val (.int p2), .val (.int p3), .val (.int p4), .val (.int (own_first p1 p2 p3 p4)), .val (.int (0 : Int32)), .unset, .unset] [(.int p2), (.int (1 : Int32))])) _
    refine XS.iloadN X3.here hx rfl (hb hby d6_48) rfl ?_
    show Steps p.tables e below (T3.setTop (mkF m 49 #[.val (.int p1), .val (.int p2), .val (.int p3), .val (.int p4), .val (.int (own_first p1 p2 p3 p4)), .val (.int (0 : Int32)), .unset, .unset] [(.int p3), (.int p2), (.int (1 : Int32))])) _
    refine XS.iloadN X3.here hx rfl (hb hby d6_49) rfl ?_
    show Steps p.tables e below (T3.setTop (mkF m 50 #[.val (.int p1), .val (.int p2), .val (.int p3), .val (.int p4), .val (.int (own_first p1 p2 p3 p4)), .val (.int (0 : Int32)), .unset, .unset] [(.int p4), (.int p3), (.int p2), (.int (1 : Int32))])) _
    refine st4 _ ?_
    show Steps p.tables e below (T4.setTop (mkF m 53 #[.val (.int p1), .val (.int p2), .val (.int p3), .val (.int p4), .val (.int (own_first p1 p2 p3 p4)), .val (.int (0 : Int32)), .unset, .unset] [(.int (own_first (1 : Int32) p2 p3 p4))])) _
    refine XS.iload X4.here hx rfl (hb hby d6_53) rfl ?_
    show Steps p.tables e below (T4.setTop (mkF m 55 #[.val (.int p1), .val (.int p2), .val (.int p3), .val (.int p4), .val (.int (own_first p1 p2 p3 p4)), .val (.int (0 : Int32)), .unset, .unset] [(.int (own_first p1 p2 p3 p4)), (.int (own_first (1 : Int32) p2 p3 p4))])) _
    refine XS.icmpYes X4.here hx rfl (pc0 := 55) (pc' := 68) rfl (hb hby d6_55) rfl (flt q2).2.1 (by decide) (by decide) ?_
    show Steps p.tables e below (T4.setTop (mkF m 68 #[.val (.int p1), .val (.int p2), .val (.int p3), .val (.int p4), .val (.int (own_first p1 p2 p3 p4)), .val (.int (0 : Int32)), .unset, .unset] [])) _
    refine XS.iconst X4.here hx rfl (hb hby d6_68) ?_
    show Steps p.tables e below (T4.setTop (mkF m 69 #[.val (.int p1), .val (.int p2), .val (.int p3), .val (.int p4), .val (.int (own_first p1 p2 p3 p4)), .val (.int (0 : Int32)), .unset, .unset] [(.int (0 : Int32))])) _
    refine XS.istore X4.here hx rfl (hb hby d6_69) rfl (l' := #[.val (.int p1), .val (.int p2), .val (.int p3), .val (.int p4), .val (.int (own_first p1 p2 p3 p4)), .val (.int (0 : Int32)), .val (.int (0 : Int32)), .unset]) rfl ?_
    show Steps p.tables e below (T4.setTop (mkF m 71 #[.val (.int p1), .val (.int p2), .val (.int p3), .val (.int p4), .val (.int (own_first p1 p2 p3 p4)), .val (.int (0 : Int32)), .val (.int (0 : Int32)), .unset] [])) _
    refine XS.iconst X4.here hx rfl (hb hby d6_71) ?_
    show Steps p.tables e below (T4.setTop (mkF m 72 #[.val (.int p1), .val (.int p2), .val (.int p3), .val (.int p4), .val (.int (own_first p1 p2 p3 p4)), .val (.int (0 : Int32)), .val (.int (0 : Int32)), .unset] [(.int (2 : Int32))])) _
    refine XS.iloadN X4.here hx rfl (hb hby d6_72) rfl ?_
    show Steps p.tables e below (T4.setTop (mkF m 73 #[.val (.int p1), .val (.int p2), .val (.int p3), .val (.int p4), .val (.int (own_first p1 p2 p3 p4)), .val (.int (0 : Int32)), .val (.int (0 : Int32)), .unset] [(.int p2), (.int (2 : Int32))])) _
    refine XS.iloadN X4.here hx rfl (hb hby d6_73) rfl ?_
    show Steps p.tables e below (T4.setTop (mkF m 74 #[.val (.int p1), .val (.int p2), .val (.int p3), .val (.int p4), .val (.int (own_first p1 p2 p3 p4)), .val (.int (0 : Int32)), .val (.int (0 : Int32)), .unset] [(.int p3), (.int p2), (.int (2 : Int32))])) _
    refine XS.iloadN X4.here hx rfl (hb hby d6_74) rfl ?_
    show Steps p.tables e below (T4.setTop (mkF m 75 #[.val (.int p1), .val (.int p2), .val (.int p3), .val (.int p4), .val (.int (own_first p1 p2 p3 p4)), .val (.int (0 : Int32)), .val (.int (0 : Int32)), .unset] [(.int p4), (.int p3), (.int p2), (.int (2 : Int32))])) _
    refine st5 _ ?_
    show Steps p.tables e below (T5.setTop (mkF m 78 #[.val (.int p1), .val (.int p2), .val (.int p3), .val (.int p4), .val (.int (own_first p1 p2 p3 p4)), .val (.int (0 : Int32)), .val (.int (0 : Int32)), .unset] [(.int (own_first (2 : Int32) p2 p3 p4))])) _
    refine XS.iload X5.here hx rfl (hb hby d6_78) rfl ?_
    show Steps p.tables e below (T5.setTop (mkF m 80 #[.val (.int p1), .val (.int p2), .val (.int p3), .val (.int p4), .val (.int (own_first p1 p2 p3 p4)), .val (.int (0 : Int32)), .val (.int (0 : Int32)), .unset] [(.int (own_first p1 p2 p3 p4)), (.int (own_first (2 : Int32) p2 p3 p4))])) _
    refine XS.icmpYes X5.here hx rfl (pc0 := 80) (pc' := 93) rfl (hb hby d6_80) rfl (flt q3).2.1 (by decide) (by decide) ?_
    show Steps p.tables e below (T5.setTop (mkF m 93 #[.val (.int p1), .val (.int p2), .val (.int p3), .val (.int p4), .val (.int (own_first p1 p2 p3 p4)), .val (.int (0 : Int32)), .val (.int (0 : Int32)), .unset] [])) _
    refine XS.iconst X5.here hx rfl (hb hby d6_93) ?_
    show Steps p.tables e below (T5.setTop (mkF m 94 #[.val (.int p1), .val (.int p2), .val (.int p3), .val (.int p4), .val (.int (own_first p1 p2 p3 p4)), .val (.int (0 : Int32)), .val (.int (0 : Int32)), .unset] [(.int (0 : Int32))])) _
    refine XS.istore X5.here hx rfl (hb hby d6_94) rfl (l' := #[.val (.int p1), .val (.int p2), .val (.int p3), .val (.int p4), .val (.int (own_first p1 p2 p3 p4)), .val (.int (0 : Int32)), .val (.int (0 : Int32)), .val (.int (0 : Int32))]) rfl ?_
    show Steps p.tables e below (T5.setTop (mkF m 96 #[.val (.int p1), .val (.int p2), .val (.int p3), .val (.int p4), .val (.int (own_first p1 p2 p3 p4)), .val (.int (0 : Int32)), .val (.int (0 : Int32)), .val (.int (0 : Int32))] [])) _
    refine XS.iload X5.here hx rfl (hb hby d6_96) rfl ?_
    show Steps p.tables e below (T5.setTop (mkF m 98 #[.val (.int p1), .val (.int p2), .val (.int p3), .val (.int p4), .val (.int (own_first p1 p2 p3 p4)), .val (.int (0 : Int32)), .val (.int (0 : Int32)), .val (.int (0 : Int32))] [(.int (0 : Int32))])) _
    refine XS.iload X5.here hx rfl (hb hby d6_98) rfl ?_
    show Steps p.tables e below (T5.setTop (mkF m 100 #[.val (.int p1), .val (.int p2), .val (.int p3), .val (.int p4), .val (.int (own_first p1 p2 p3 p4)), .val (.int (0 : Int32)), .val (.int (0 : Int32)), .val (.int (0 : Int32))] [(.int (0 : Int32)), (.int (0 : Int32))])) _
    refine XS.iadd X5.here hx rfl (hb hby d6_100) rfl ?_
    show Steps p.tables e below (T5.setTop (mkF m 101 #[.val (.int p1), .val (.int p2), .val (.int p3), .val (.int p4), .val (.int (own_first p1 p2 p3 p4)), .val (.int (0 : Int32)), .val (.int (0 : Int32)), .val (.int (0 : Int32))] [(.int ((0 : Int32) + (0 : Int32)))])) _
    refine XS.iload X5.here hx rfl (hb hby d6_101) rfl ?_
    show Steps p.tables e below (T5.setTop (mkF m 103 #[.val (.int p1), .val (.int p2), .val (.int p3), .val (.int p4), .val (.int (own_first p1 p2 p3 p4)), .val (.int (0 : Int32)), .val (.int (0 : Int32)), .val (.int (0 : Int32))] [(.int (0 : Int32)), (.int ((0 : Int32) + (0 : Int32)))])) _
    refine XS.iadd X5.here hx rfl (hb hby d6_103) rfl ?_
    show Steps p.tables e below (T5.setTop (mkF m 104 #[.val (.int p1), .val (.int p2), .val (.int p3), .val (.int p4), .val (.int (own_first p1 p2 p3 p4)), .val (.int (0 : Int32)), .val (.int (0 : Int32)), .val (.int (0 : Int32))] [(.int (((0 : Int32) + (0 : Int32)) + (0 : Int32)))])) _
    exact retI X5 hx Bd.returns (hb hby d6_104) hr
  · show Q6 Z p1 p2 p3 p4 h0 n0 _ T5.heap _
    rw [e5]
    have hm : own_ref p1 p2 p3 p4 = (((0 : Int32) + (0 : Int32)) + (0 : Int32)) := by unfold own_ref; rw [if_neg q0, if_neg q1, if_neg q2, if_neg q3]
    exact ⟨by rw [hm], N5, rfl⟩
set_option maxRecDepth 65536 in
set_option maxHeartbeats 40000000 in
theorem rm6_001 (l : Launch) (Z : State) (a0 : Array Value) (hw : ∀ d ∈ tables_1, d.before a0 Z = true) (ws : List Jvm.Cond) (p1 : Int32) (p2 : Int32) (p3 : Int32) (p4 : Int32) (h0 : Heap) (n0 : Nat) (Z0 : n0 ≤ h0.size) (q0 : ¬ (own_cnt p1 p2 p3 p4 = (0 : Int32))) (q1 : ¬ (own_first (0 : Int32) p2 p3 p4 < own_first p1 p2 p3 p4)) (q2 : ¬ (own_first (1 : Int32) p2 p3 p4 < own_first p1 p2 p3 p4)) (q3 : own_first (2 : Int32) p2 p3 p4 < own_first p1 p2 p3 p4) :
    MetFree l (⟨"com/example/prune/prune/mdp/ListsPlacePinLaw", "refStart", "(IIII)I"⟩ : MethodName) (head1 (Jvm.Cond.code (⟨"com/example/prune/prune/mdp/ListsPlacePinLaw", "refStart", "(IIII)I"⟩ : MethodName) method_4_code 8 (some .int) :: ws) ({ frames := 1, cells := 0, slots := 0, locals := 15 } : Room)) (fun a U => a = #[(.int p1), (.int p2), (.int p3), (.int p4)] ∧ Z.Warmed39 U.vm ∧ U.heap = h0) (fun _ _ _ _ _ => True) (fun _ U o U' => ∃ v L, o = .returned v ∧ Q6 Z p1 p2 p3 p4 h0 n0 v U'.heap L ∧ FrameEnd U o U' L ({ frames := 1, cells := 0, slots := 0, locals := 15 } : Room).cells ({ frames := 1, cells := 0, slots := 0, locals := 15 } : Room).slots) := by
  refine MetFree.of_bodySF (plainFor_of_name pn_6) hisR ?_
  intro p e s m args below meth c s₁ Bd hml0 hP hK
  obtain ⟨rfl, hZ, hh⟩ := hP
  have hx := Bd.exec
  have hby := Bd.bytes
  have hml : c.maxLocals = 8 := hml0
  have hown : s.vm.findClass "com/example/prune/prune/mdp/ListsPlacePinLaw" = some m.cls := findClass_of_methodNamed Bd.named
  have hnm := (name_of_methodNamed Bd.named Bd.method).1
  have X0 : Stand p l e ({ frames := 1, cells := 0, slots := 0, locals := 15 } : Room) s m #[(.int p1), (.int p2), (.int p3), (.int p4)] below meth c s₁ [] 0 0 := Stand.of_body Bd
  have e0 : s₁.heap = h0 := by rw [← hh, Bd.state]; rfl
  have N0 := Fr.nil n0
  have pre0 : ∀ t, Steps p.tables e below (s₁.setTop (mkF m 0 #[.val (.int p1), .val (.int p2), .val (.int p3), .val (.int p4), .unset, .unset, .unset, .unset] [])) t → Steps p.tables e below (s₁.setTop (entryFrame m #[(.int p1), (.int p2), (.int p3), (.int p4)] 8)) t := fun t k => castTop (ef_6 m p1 p2 p3 p4) k
  obtain ⟨_, _, ⟨T1, L1, k1, n1⟩, -, X1, ⟨Lc1, hQ1, l1, y1, z1⟩, st1⟩ := Jvm.LawKit.callS X0 hx (y := (⟨"com/example/prune/prune/mdp/ListsPlacePinLaw", "cnt", "(IIII)I"⟩ : MethodName)) hown (mvT hZ (hw _ (List.mem_of_getElem? (i := 39) rfl))) (mvT hZ (hw _ (List.mem_of_getElem? (i := 40) rfl))) (mvT hZ (hw _ (List.mem_of_getElem? (i := 37) rfl))) (mvT hZ (hw _ (List.mem_of_getElem? (i := 41) rfl))) (by decide) (backOf (W := 0) (rm7 l Z a0 hw [] p1 p2 p3 p4 h0 n0 Z0) hZ (hw _ (List.mem_of_getElem? (i := 41) rfl)) (hw _ (List.mem_of_getElem? (i := 37) rfl)) (by decide) (by decide)) (g := (mkF m 4 #[.val (.int p1), .val (.int p2), .val (.int p3), .val (.int p4), .unset, .unset, .unset, .unset] [(.int p4), (.int p3), (.int p2), (.int p1)])) rfl (by rw [hml]; rfl) (argsL := [(.int p1), (.int p2), (.int p3), (.int p4)]) (rest := []) (lenOf pd_6_0 rfl) rfl (by show 2 * 0 + _ ≤ _; exact Nat.le_of_eq rfl) (hb hby d6_4) (fun _ _ => ⟨rfl, e0, (by decide : 0 + 0 ≤ _), (by decide : 0 + 0 ≤ _)⟩)
  dsimp only [Pt.U, Pt.locs, Pt.cells, Pt.slots] at X1 l1 y1 z1 st1 hQ1
  subst l1 y1 z1
  obtain ⟨rfl, N1q, e1⟩ := hQ1
  have N1 := Fr.app N0 N1q
  obtain ⟨_, _, ⟨T2, L2, k2, n2⟩, -, X2, ⟨Lc2, hQ2, l2, y2, z2⟩, st2⟩ := Jvm.LawKit.callS X1 hx (y := (⟨"com/example/prune/prune/mdp/ListsPlacePinLaw", "first", "(IIII)I"⟩ : MethodName)) hown (mvT hZ (hw _ (List.mem_of_getElem? (i := 42) rfl))) (mvT hZ (hw _ (List.mem_of_getElem? (i := 43) rfl))) (mvT hZ (hw _ (List.mem_of_getElem? (i := 37) rfl))) (mvT hZ (hw _ (List.mem_of_getElem? (i := 44) rfl))) (by decide) (backOf (W := 0) (rm8 l Z a0 hw [] p1 p2 p3 p4 h0 n0 Z0) hZ (hw _ (List.mem_of_getElem? (i := 44) rfl)) (hw _ (List.mem_of_getElem? (i := 37) rfl)) (by decide) (by decide)) (g := (mkF m 16 #[.val (.int p1), .val (.int p2), .val (.int p3), .val (.int p4), .unset, .unset, .unset, .unset] [(.int p4), (.int p3), (.int p2), (.int p1)])) rfl (by rw [hml]; rfl) (argsL := [(.int p1), (.int p2), (.int p3), (.int p4)]) (rest := []) (lenOf pd_6_0 rfl) rfl (by show 2 * 0 + _ ≤ _; exact Nat.le_of_eq rfl) (hb hby d6_16) (fun _ _ => ⟨rfl, e1, (by decide : 0 + 0 ≤ _), (by decide : 0 + 0 ≤ _)⟩)
  dsimp only [Pt.U, Pt.locs, Pt.cells, Pt.slots] at X2 l2 y2 z2 st2 hQ2
  subst l2 y2 z2
  obtain ⟨rfl, N2q, e2⟩ := hQ2
  have N2 := Fr.app N1 N2q
  obtain ⟨_, _, ⟨T3, L3, k3, n3⟩, -, X3, ⟨Lc3, hQ3, l3, y3, z3⟩, st3⟩ := Jvm.LawKit.callS X2 hx (y := (⟨"com/example/prune/prune/mdp/ListsPlacePinLaw", "first", "(IIII)I"⟩ : MethodName)) hown (mvT hZ (hw _ (List.mem_of_getElem? (i := 42) rfl))) (mvT hZ (hw _ (List.mem_of_getElem? (i := 43) rfl))) (mvT hZ (hw _ (List.mem_of_getElem? (i := 37) rfl))) (mvT hZ (hw _ (List.mem_of_getElem? (i := 44) rfl))) (by decide) (backOf (W := 0) (rm8 l Z a0 hw [] (0 : Int32) p2 p3 p4 h0 n0 Z0) hZ (hw _ (List.mem_of_getElem? (i := 44) rfl)) (hw _ (List.mem_of_getElem? (i := 37) rfl)) (by decide) (by decide)) (g := (mkF m 25 #[.val (.int p1), .val (.int p2), .val (.int p3), .val (.int p4), .val (.int (own_first p1 p2 p3 p4)), .unset, .unset, .unset] [(.int p4), (.int p3), (.int p2), (.int (0 : Int32))])) rfl (by rw [hml]; rfl) (argsL := [(.int (0 : Int32)), (.int p2), (.int p3), (.int p4)]) (rest := []) (lenOf pd_6_0 rfl) rfl (by show 2 * 0 + _ ≤ _; exact Nat.le_of_eq rfl) (hb hby d6_25) (fun _ _ => ⟨rfl, e2, (by decide : 0 + 0 ≤ _), (by decide : 0 + 0 ≤ _)⟩)
  dsimp only [Pt.U, Pt.locs, Pt.cells, Pt.slots] at X3 l3 y3 z3 st3 hQ3
  subst l3 y3 z3
  obtain ⟨rfl, N3q, e3⟩ := hQ3
  have N3 := Fr.app N2 N3q
  obtain ⟨_, _, ⟨T4, L4, k4, n4⟩, -, X4, ⟨Lc4, hQ4, l4, y4, z4⟩, st4⟩ := Jvm.LawKit.callS X3 hx (y := (⟨"com/example/prune/prune/mdp/ListsPlacePinLaw", "first", "(IIII)I"⟩ : MethodName)) hown (mvT hZ (hw _ (List.mem_of_getElem? (i := 42) rfl))) (mvT hZ (hw _ (List.mem_of_getElem? (i := 43) rfl))) (mvT hZ (hw _ (List.mem_of_getElem? (i := 37) rfl))) (mvT hZ (hw _ (List.mem_of_getElem? (i := 44) rfl))) (by decide) (backOf (W := 0) (rm8 l Z a0 hw [] (1 : Int32) p2 p3 p4 h0 n0 Z0) hZ (hw _ (List.mem_of_getElem? (i := 44) rfl)) (hw _ (List.mem_of_getElem? (i := 37) rfl)) (by decide) (by decide)) (g := (mkF m 50 #[.val (.int p1), .val (.int p2), .val (.int p3), .val (.int p4), .val (.int (own_first p1 p2 p3 p4)), .val (.int (0 : Int32)), .unset, .unset] [(.int p4), (.int p3), (.int p2), (.int (1 : Int32))])) rfl (by rw [hml]; rfl) (argsL := [(.int (1 : Int32)), (.int p2), (.int p3), (.int p4)]) (rest := []) (lenOf pd_6_0 rfl) rfl (by show 2 * 0 + _ ≤ _; exact Nat.le_of_eq rfl) (hb hby d6_50) (fun _ _ => ⟨rfl, e3, (by decide : 0 + 0 ≤ _), (by decide : 0 + 0 ≤ _)⟩)
  dsimp only [Pt.U, Pt.locs, Pt.cells, Pt.slots] at X4 l4 y4 z4 st4 hQ4
  subst l4 y4 z4
  obtain ⟨rfl, N4q, e4⟩ := hQ4
  have N4 := Fr.app N3 N4q
  obtain ⟨_, _, ⟨T5, L5, k5, n5⟩, -, X5, ⟨Lc5, hQ5, l5, y5, z5⟩, st5⟩ := Jvm.LawKit.callS X4 hx (y := (⟨"com/example/prune/prune/mdp/ListsPlacePinLaw", "first", "(IIII)I"⟩ : MethodName)) hown (mvT hZ (hw _ (List.mem_of_getElem? (i := 42) rfl))) (mvT hZ (hw _ (List.mem_of_getElem? (i := 43) rfl))) (mvT hZ (hw _ (List.mem_of_getElem? (i := 37) rfl))) (mvT hZ (hw _ (List.mem_of_getElem? (i := 44) rfl))) (by decide) (backOf (W := 0) (rm8 l Z a0 hw [] (2 : Int32) p2 p3 p4 h0 n0 Z0) hZ (hw _ (List.mem_of_getElem? (i := 44) rfl)) (hw _ (List.mem_of_getElem? (i := 37) rfl)) (by decide) (by decide)) (g := (mkF m 75 #[.val (.int p1), .val (.int p2), .val (.int p3), .val (.int p4), .val (.int (own_first p1 p2 p3 p4)), .val (.int (0 : Int32)), .val (.int (0 : Int32)), .unset] [(.int p4), (.int p3), (.int p2), (.int (2 : Int32))])) rfl (by rw [hml]; rfl) (argsL := [(.int (2 : Int32)), (.int p2), (.int p3), (.int p4)]) (rest := []) (lenOf pd_6_0 rfl) rfl (by show 2 * 0 + _ ≤ _; exact Nat.le_of_eq rfl) (hb hby d6_75) (fun _ _ => ⟨rfl, e4, (by decide : 0 + 0 ≤ _), (by decide : 0 + 0 ≤ _)⟩)
  dsimp only [Pt.U, Pt.locs, Pt.cells, Pt.slots] at X5 l5 y5 z5 st5 hQ5
  subst l5 y5 z5
  obtain ⟨rfl, N5q, e5⟩ := hQ5
  have N5 := Fr.app N4 N5q
  obtain ⟨_, _, ⟨T6, L6, k6, n6⟩, -, X6, ⟨Lc6, hQ6, l6, y6, z6⟩, st6⟩ := Jvm.LawKit.callS X5 hx (y := (⟨"com/example/prune/prune/mdp/ListsPlacePinLaw", "cnt", "(IIII)I"⟩ : MethodName)) hown (mvT hZ (hw _ (List.mem_of_getElem? (i := 39) rfl))) (mvT hZ (hw _ (List.mem_of_getElem? (i := 40) rfl))) (mvT hZ (hw _ (List.mem_of_getElem? (i := 37) rfl))) (mvT hZ (hw _ (List.mem_of_getElem? (i := 41) rfl))) (by decide) (backOf (W := 0) (rm7 l Z a0 hw [] (2 : Int32) p2 p3 p4 h0 n0 Z0) hZ (hw _ (List.mem_of_getElem? (i := 41) rfl)) (hw _ (List.mem_of_getElem? (i := 37) rfl)) (by decide) (by decide)) (g := (mkF m 87 #[.val (.int p1), .val (.int p2), .val (.int p3), .val (.int p4), .val (.int (own_first p1 p2 p3 p4)), .val (.int (0 : Int32)), .val (.int (0 : Int32)), .unset] [(.int p4), (.int p3), (.int p2), (.int (2 : Int32))])) rfl (by rw [hml]; rfl) (argsL := [(.int (2 : Int32)), (.int p2), (.int p3), (.int p4)]) (rest := []) (lenOf pd_6_0 rfl) rfl (by show 2 * 0 + _ ≤ _; exact Nat.le_of_eq rfl) (hb hby d6_87) (fun _ _ => ⟨rfl, e5, (by decide : 0 + 0 ≤ _), (by decide : 0 + 0 ≤ _)⟩)
  dsimp only [Pt.U, Pt.locs, Pt.cells, Pt.slots] at X6 l6 y6 z6 st6 hQ6
  subst l6 y6 z6
  obtain ⟨rfl, N6q, e6⟩ := hQ6
  have N6 := Fr.app N5 N6q
  obtain ⟨fs, hr, hrun, hended, hW, hsame⟩ := X6.leave (v := some (.int (((0 : Int32) + (0 : Int32)) + (own_cnt (2 : Int32) p2 p3 p4)))) (fun h => by rw [Bd.returns] at h; cases h)
  refine ⟨_, _, pre0 _ ?_, hrun, hended, _, _, rfl, ?_, ⟨_, rfl⟩, hW, hsame.mono (by decide) (by decide)⟩
  · show Steps p.tables e below (s₁.setTop (mkF m 0 #[.val (.int p1), .val (.int p2), .val (.int p3), .val (.int p4), .unset, .unset, .unset, .unset] [])) _
    refine XS.iloadN X0.here hx rfl (hb hby d6_0) rfl ?_
    show Steps p.tables e below (s₁.setTop (mkF m 1 #[.val (.int p1), .val (.int p2), .val (.int p3), .val (.int p4), .unset, .unset, .unset, .unset] [(.int p1)])) _
    refine XS.iloadN X0.here hx rfl (hb hby d6_1) rfl ?_
    show Steps p.tables e below (s₁.setTop (mkF m 2 #[.val (.int p1), .val (.int p2), .val (.int p3), .val (.int p4), .unset, .unset, .unset, .unset] [(.int p2), (.int p1)])) _
    refine XS.iloadN X0.here hx rfl (hb hby d6_2) rfl ?_
    show Steps p.tables e below (s₁.setTop (mkF m 3 #[.val (.int p1), .val (.int p2), .val (.int p3), .val (.int p4), .unset, .unset, .unset, .unset] [(.int p3), (.int p2), (.int p1)])) _
    refine XS.iloadN X0.here hx rfl (hb hby d6_3) rfl ?_
    show Steps p.tables e below (s₁.setTop (mkF m 4 #[.val (.int p1), .val (.int p2), .val (.int p3), .val (.int p4), .unset, .unset, .unset, .unset] [(.int p4), (.int p3), (.int p2), (.int p1)])) _
    refine st1 _ ?_
    show Steps p.tables e below (T1.setTop (mkF m 7 #[.val (.int p1), .val (.int p2), .val (.int p3), .val (.int p4), .unset, .unset, .unset, .unset] [(.int (own_cnt p1 p2 p3 p4))])) _
    refine XS.ifYes X1.here hx rfl (pc0 := 7) (pc' := 12) rfl (hb hby d6_7) rfl ((if0 _ _).trans (feq q0).2) (by decide) (by decide) ?_
    show Steps p.tables e below (T1.setTop (mkF m 12 #[.val (.int p1), .val (.int p2), .val (.int p3), .val (.int p4), .unset, .unset, .unset, .unset] [])) _
    refine XS.iloadN X1.here hx rfl (hb hby d6_12) rfl ?_
    show Steps p.tables e below (T1.setTop (mkF m 13 #[.val (.int p1), .val (.int p2), .val (.int p3), .val (.int p4), .unset, .unset, .unset, .unset] [(.int p1)])) _
    refine XS.iloadN X1.here hx rfl (hb hby d6_13) rfl ?_
    show Steps p.tables e below (T1.setTop (mkF m 14 #[.val (.int p1), .val (.int p2), .val (.int p3), .val (.int p4), .unset, .unset, .unset, .unset] [(.int p2), (.int p1)])) _
    refine XS.iloadN X1.here hx rfl (hb hby d6_14) rfl ?_
    show Steps p.tables e below (T1.setTop (mkF m 15 #[.val (.int p1), .val (.int p2), .val (.int p3), .val (.int p4), .unset, .unset, .unset, .unset] [(.int p3), (.int p2), (.int p1)])) _
    refine XS.iloadN X1.here hx rfl (hb hby d6_15) rfl ?_
    show Steps p.tables e below (T1.setTop (mkF m 16 #[.val (.int p1), .val (.int p2), .val (.int p3), .val (.int p4), .unset, .unset, .unset, .unset] [(.int p4), (.int p3), (.int p2), (.int p1)])) _
    refine st2 _ ?_
    show Steps p.tables e below (T2.setTop (mkF m 19 #[.val (.int p1), .val (.int p2), .val (.int p3), .val (.int p4), .unset, .unset, .unset, .unset] [(.int (own_first p1 p2 p3 p4))])) _
    refine XS.istore X2.here hx rfl (hb hby d6_19) rfl (l' := #[.val (.int p1), .val (.int p2), .val (.int p3), .val (.int p4), .val (.int (own_first p1 p2 p3 p4)), .unset, .unset, .unset]) rfl ?_
    show Steps p.tables e below (T2.setTop (mkF m 21 #[.val (.int p1), .val (.int p2), .val (.int p3), .val (.int p4), .val (.int (own_first p1 p2 p3 p4)), .unset, .unset, .unset] [])) _
    refine XS.iconst X2.here hx rfl (hb hby d6_21) ?_
    show Steps p.tables e below (T2.setTop (mkF m 22 #[.val (.int p1), .val (.int p2), .val (.int p3), .val (.int p4), .val (.int (own_first p1 p2 p3 p4)), .unset, .unset, .unset] [(.int (0 : Int32))])) _
    refine XS.iloadN X2.here hx rfl (hb hby d6_22) rfl ?_
    show Steps p.tables e below (T2.setTop (mkF m 23 #[.val (.int p1), .val (.int p2), .val (.int p3), .val (.int p4), .val (.int (own_first p1 p2 p3 p4)), .unset, .unset, .unset] [(.int p2), (.int (0 : Int32))])) _
    refine XS.iloadN X2.here hx rfl (hb hby d6_23) rfl ?_
    show Steps p.tables e below (T2.setTop (mkF m 24 #[.val (.int p1), .val (.int p2), .val (.int p3), .val (.int p4), .val (.int (own_first p1 p2 p3 p4)), .unset, .unset, .unset] [(.int p3), (.int p2), (.int (0 : Int32))])) _
    refine XS.iloadN X2.here hx rfl (hb hby d6_24) rfl ?_
    show Steps p.tables e below (T2.setTop (mkF m 25 #[.val (.int p1), .val (.int p2), .val (.int p3), .val (.int p4), .val (.int (own_first p1 p2 p3 p4)), .unset, .unset, .unset] [(.int p4), (.int p3), (.int p2), (.int (0 : Int32))])) _
    refine st3 _ ?_
    show Steps p.tables e below (T3.setTop (mkF m 28 #[.val (.int p1), .val (.int p2), .val (.int p3), .val (.int p4), .val (.int (own_first p1 p2 p3 p4)), .unset, .unset, .unset] [(.int (own_first (0 : Int32) p2 p3 p4))])) _
    refine XS.iload X3.here hx rfl (hb hby d6_28) rfl ?_
    show Steps p.tables e below (T3.setTop (mkF m 30 #[.val (.int p1), .val (.int p2), .val (.int p3), .val (.int p4), .val (.int (own_first p1 p2 p3 p4)), .unset, .unset, .unset] [(.int (own_first p1 p2 p3 p4)), (.int (own_first (0 : Int32) p2 p3 p4))])) _
    refine XS.icmpYes X3.here hx rfl (pc0 := 30) (pc' := 43) rfl (hb hby d6_30) rfl (flt q1).2.1 (by decide) (by decide) ?_
    show Steps p.tables e below (T3.setTop (mkF m 43 #[.val (.int p1), .val (.int p2), .val (.int p3), .val (.int p4), .val (.int (own_first p1 p2 p3 p4)), .unset, .unset, .unset] [])) _
    refine XS.iconst X3.here hx rfl (hb hby d6_43) ?_
    show Steps p.tables e below (T3.setTop (mkF m 44 #[.val (.int p1), .val (.int p2), .val (.int p3), .val (.int p4), .val (.int (own_first p1 p2 p3 p4)), .unset, .unset, .unset] [(.int (0 : Int32))])) _
    refine XS.istore X3.here hx rfl (hb hby d6_44) rfl (l' := #[.val (.int p1), .val (.int p2), .val (.int p3), .val (.int p4), .val (.int (own_first p1 p2 p3 p4)), .val (.int (0 : Int32)), .unset, .unset]) rfl ?_
    show Steps p.tables e below (T3.setTop (mkF m 46 #[.val (.int p1), .val (.int p2), .val (.int p3), .val (.int p4), .val (.int (own_first p1 p2 p3 p4)), .val (.int (0 : Int32)), .unset, .unset] [])) _
    refine XS.iconst X3.here hx rfl (hb hby d6_46) ?_
    show Steps p.tables e below (T3.setTop (mkF m 47 #[.val (.int p1), .val (.int p2), .val (.int p3), .val (.int p4), .val (.int (own_first p1 p2 p3 p4)), .val (.int (0 : Int32)), .unset, .unset] [(.int (1 : Int32))])) _
    refine XS.iloadN X3.here hx rfl (hb hby d6_47) rfl ?_
    show Steps p.tables e below (T3.setTop (mkF m 48 #[.val (.int p1), .val (.int p2), .val (.int p3), .val (.int p4), .val (.int (own_first p1 p2 p3 p4)), .val (.int (0 : Int32)), .unset, .unset] [(.int p2), (.int (1 : Int32))])) _
    refine XS.iloadN X3.here hx rfl (hb hby d6_48) rfl ?_
    show Steps p.tables e below (T3.setTop (mkF m 49 #[.val (.int p1), .val (.int p2), .val (.int p3), .val (.int p4), .val (.int (own_first p1 p2 p3 p4)), .val (.int (0 : Int32)), .unset, .unset] [(.int p3), (.int p2), (.int (1 : Int32))])) _
    refine XS.iloadN X3.here hx rfl (hb hby d6_49) rfl ?_
    show Steps p.tables e below (T3.setTop (mkF m 50 #[.val (.int p1), .val (.int p2), .val (.int p3), .val (.int p4), .val (.int (own_first p1 p2 p3 p4)), .val (.int (0 : Int32)), .unset, .unset] [(.int p4), (.int p3), (.int p2), (.int (1 : Int32))])) _
    refine st4 _ ?_
    show Steps p.tables e below (T4.setTop (mkF m 53 #[.val (.int p1), .val (.int p2), .val (.int p3), .val (.int p4), .val (.int (own_first p1 p2 p3 p4)), .val (.int (0 : Int32)), .unset, .unset] [(.int (own_first (1 : Int32) p2 p3 p4))])) _
    refine XS.iload X4.here hx rfl (hb hby d6_53) rfl ?_
    show Steps p.tables e below (T4.setTop (mkF m 55 #[.val (.int p1), .val (.int p2), .val (.int p3), .val (.int p4), .val (.int (own_first p1 p2 p3 p4)), .val (.int (0 : Int32)), .unset, .unset] [(.int (own_first p1 p2 p3 p4)), (.int (own_first (1 : Int32) p2 p3 p4))])) _
    refine XS.icmpYes X4.here hx rfl (pc0 := 55) (pc' := 68) rfl (hb hby d6_55) rfl (flt q2).2.1 (by decide) (by decide) ?_
    show Steps p.tables e below (T4.setTop (mkF m 68 #[.val (.int p1), .val (.int p2), .val (.int p3), .val (.int p4), .val (.int (own_first p1 p2 p3 p4)), .val (.int (0 : Int32)), .unset, .unset] [])) _
    refine XS.iconst X4.here hx rfl (hb hby d6_68) ?_
    show Steps p.tables e below (T4.setTop (mkF m 69 #[.val (.int p1), .val (.int p2), .val (.int p3), .val (.int p4), .val (.int (own_first p1 p2 p3 p4)), .val (.int (0 : Int32)), .unset, .unset] [(.int (0 : Int32))])) _
    refine XS.istore X4.here hx rfl (hb hby d6_69) rfl (l' := #[.val (.int p1), .val (.int p2), .val (.int p3), .val (.int p4), .val (.int (own_first p1 p2 p3 p4)), .val (.int (0 : Int32)), .val (.int (0 : Int32)), .unset]) rfl ?_
    show Steps p.tables e below (T4.setTop (mkF m 71 #[.val (.int p1), .val (.int p2), .val (.int p3), .val (.int p4), .val (.int (own_first p1 p2 p3 p4)), .val (.int (0 : Int32)), .val (.int (0 : Int32)), .unset] [])) _
    refine XS.iconst X4.here hx rfl (hb hby d6_71) ?_
    show Steps p.tables e below (T4.setTop (mkF m 72 #[.val (.int p1), .val (.int p2), .val (.int p3), .val (.int p4), .val (.int (own_first p1 p2 p3 p4)), .val (.int (0 : Int32)), .val (.int (0 : Int32)), .unset] [(.int (2 : Int32))])) _
    refine XS.iloadN X4.here hx rfl (hb hby d6_72) rfl ?_
    show Steps p.tables e below (T4.setTop (mkF m 73 #[.val (.int p1), .val (.int p2), .val (.int p3), .val (.int p4), .val (.int (own_first p1 p2 p3 p4)), .val (.int (0 : Int32)), .val (.int (0 : Int32)), .unset] [(.int p2), (.int (2 : Int32))])) _
    refine XS.iloadN X4.here hx rfl (hb hby d6_73) rfl ?_
    show Steps p.tables e below (T4.setTop (mkF m 74 #[.val (.int p1), .val (.int p2), .val (.int p3), .val (.int p4), .val (.int (own_first p1 p2 p3 p4)), .val (.int (0 : Int32)), .val (.int (0 : Int32)), .unset] [(.int p3), (.int p2), (.int (2 : Int32))])) _
    refine XS.iloadN X4.here hx rfl (hb hby d6_74) rfl ?_
    show Steps p.tables e below (T4.setTop (mkF m 75 #[.val (.int p1), .val (.int p2), .val (.int p3), .val (.int p4), .val (.int (own_first p1 p2 p3 p4)), .val (.int (0 : Int32)), .val (.int (0 : Int32)), .unset] [(.int p4), (.int p3), (.int p2), (.int (2 : Int32))])) _
    refine st5 _ ?_
    show Steps p.tables e below (T5.setTop (mkF m 78 #[.val (.int p1), .val (.int p2), .val (.int p3), .val (.int p4), .val (.int (own_first p1 p2 p3 p4)), .val (.int (0 : Int32)), .val (.int (0 : Int32)), .unset] [(.int (own_first (2 : Int32) p2 p3 p4))])) _
    refine XS.iload X5.here hx rfl (hb hby d6_78) rfl ?_
    show Steps p.tables e below (T5.setTop (mkF m 80 #[.val (.int p1), .val (.int p2), .val (.int p3), .val (.int p4), .val (.int (own_first p1 p2 p3 p4)), .val (.int (0 : Int32)), .val (.int (0 : Int32)), .unset] [(.int (own_first p1 p2 p3 p4)), (.int (own_first (2 : Int32) p2 p3 p4))])) _
    refine XS.icmpNo X5.here hx rfl (hb hby d6_80) rfl (tlt q3).2.1 ?_
    show Steps p.tables e below (T5.setTop (mkF m 83 #[.val (.int p1), .val (.int p2), .val (.int p3), .val (.int p4), .val (.int (own_first p1 p2 p3 p4)), .val (.int (0 : Int32)), .val (.int (0 : Int32)), .unset] [])) _
    refine XS.iconst X5.here hx rfl (hb hby d6_83) ?_
    show Steps p.tables e below (T5.setTop (mkF m 84 #[.val (.int p1), .val (.int p2), .val (.int p3), .val (.int p4), .val (.int (own_first p1 p2 p3 p4)), .val (.int (0 : Int32)), .val (.int (0 : Int32)), .unset] [(.int (2 : Int32))])) _
    refine XS.iloadN X5.here hx rfl (hb hby d6_84) rfl ?_
    show Steps p.tables e below (T5.setTop (mkF m 85 #[.val (.int p1), .val (.int p2), .val (.int p3), .val (.int p4), .val (.int (own_first p1 p2 p3 p4)), .val (.int (0 : Int32)), .val (.int (0 : Int32)), .unset] [(.int p2), (.int (2 : Int32))])) _
    refine XS.iloadN X5.here hx rfl (hb hby d6_85) rfl ?_
    show Steps p.tables e below (T5.setTop (mkF m 86 #[.val (.int p1), .val (.int p2), .val (.int p3), .val (.int p4), .val (.int (own_first p1 p2 p3 p4)), .val (.int (0 : Int32)), .val (.int (0 : Int32)), .unset] [(.int p3), (.int p2), (.int (2 : Int32))])) _
    refine XS.iloadN X5.here hx rfl (hb hby d6_86) rfl ?_
    show Steps p.tables e below (T5.setTop (mkF m 87 #[.val (.int p1), .val (.int p2), .val (.int p3), .val (.int p4), .val (.int (own_first p1 p2 p3 p4)), .val (.int (0 : Int32)), .val (.int (0 : Int32)), .unset] [(.int p4), (.int p3), (.int p2), (.int (2 : Int32))])) _
    refine st6 _ ?_
    show Steps p.tables e below (T6.setTop (mkF m 90 #[.val (.int p1), .val (.int p2), .val (.int p3), .val (.int p4), .val (.int (own_first p1 p2 p3 p4)), .val (.int (0 : Int32)), .val (.int (0 : Int32)), .unset] [(.int (own_cnt (2 : Int32) p2 p3 p4))])) _
    refine XS.goto X6.here hx rfl (pc0 := 90) (pc' := 94) rfl (hb hby d6_90) (by decide) (by decide) ?_
    show Steps p.tables e below (T6.setTop (mkF m 94 #[.val (.int p1), .val (.int p2), .val (.int p3), .val (.int p4), .val (.int (own_first p1 p2 p3 p4)), .val (.int (0 : Int32)), .val (.int (0 : Int32)), .unset] [(.int (own_cnt (2 : Int32) p2 p3 p4))])) _
    refine XS.istore X6.here hx rfl (hb hby d6_94) rfl (l' := #[.val (.int p1), .val (.int p2), .val (.int p3), .val (.int p4), .val (.int (own_first p1 p2 p3 p4)), .val (.int (0 : Int32)), .val (.int (0 : Int32)), .val (.int (own_cnt (2 : Int32) p2 p3 p4))]) rfl ?_
    show Steps p.tables e below (T6.setTop (mkF m 96 #[.val (.int p1), .val (.int p2), .val (.int p3), .val (.int p4), .val (.int (own_first p1 p2 p3 p4)), .val (.int (0 : Int32)), .val (.int (0 : Int32)), .val (.int (own_cnt (2 : Int32) p2 p3 p4))] [])) _
    refine XS.iload X6.here hx rfl (hb hby d6_96) rfl ?_
    show Steps p.tables e below (T6.setTop (mkF m 98 #[.val (.int p1), .val (.int p2), .val (.int p3), .val (.int p4), .val (.int (own_first p1 p2 p3 p4)), .val (.int (0 : Int32)), .val (.int (0 : Int32)), .val (.int (own_cnt (2 : Int32) p2 p3 p4))] [(.int (0 : Int32))])) _
    refine XS.iload X6.here hx rfl (hb hby d6_98) rfl ?_
    show Steps p.tables e below (T6.setTop (mkF m 100 #[.val (.int p1), .val (.int p2), .val (.int p3), .val (.int p4), .val (.int (own_first p1 p2 p3 p4)), .val (.int (0 : Int32)), .val (.int (0 : Int32)), .val (.int (own_cnt (2 : Int32) p2 p3 p4))] [(.int (0 : Int32)), (.int (0 : Int32))])) _
    refine XS.iadd X6.here hx rfl (hb hby d6_100) rfl ?_
    show Steps p.tables e below (T6.setTop (mkF m 101 #[.val (.int p1), .val (.int p2), .val (.int p3), .val (.int p4), .val (.int (own_first p1 p2 p3 p4)), .val (.int (0 : Int32)), .val (.int (0 : Int32)), .val (.int (own_cnt (2 : Int32) p2 p3 p4))] [(.int ((0 : Int32) + (0 : Int32)))])) _
    refine XS.iload X6.here hx rfl (hb hby d6_101) rfl ?_
    show Steps p.tables e below (T6.setTop (mkF m 103 #[.val (.int p1), .val (.int p2), .val (.int p3), .val (.int p4), .val (.int (own_first p1 p2 p3 p4)), .val (.int (0 : Int32)), .val (.int (0 : Int32)), .val (.int (own_cnt (2 : Int32) p2 p3 p4))] [(.int (own_cnt (2 : Int32) p2 p3 p4)), (.int ((0 : Int32) + (0 : Int32)))])) _
    refine XS.iadd X6.here hx rfl (hb hby d6_103) rfl ?_
    show Steps p.tables e below (T6.setTop (mkF m 104 #[.val (.int p1), .val (.int p2), .val (.int p3), .val (.int p4), .val (.int (own_first p1 p2 p3 p4)), .val (.int (0 : Int32)), .val (.int (0 : Int32)), .val (.int (own_cnt (2 : Int32) p2 p3 p4))] [(.int (((0 : Int32) + (0 : Int32)) + (own_cnt (2 : Int32) p2 p3 p4)))])) _
    exact retI X6 hx Bd.returns (hb hby d6_104) hr
  · show Q6 Z p1 p2 p3 p4 h0 n0 _ T6.heap _
    rw [e6]
    have hm : own_ref p1 p2 p3 p4 = (((0 : Int32) + (0 : Int32)) + (own_cnt (2 : Int32) p2 p3 p4)) := by unfold own_ref; rw [if_neg q0, if_neg q1, if_neg q2, if_pos q3]
    exact ⟨by rw [hm], N6, rfl⟩
set_option maxRecDepth 65536 in
set_option maxHeartbeats 40000000 in
theorem rm6_010 (l : Launch) (Z : State) (a0 : Array Value) (hw : ∀ d ∈ tables_1, d.before a0 Z = true) (ws : List Jvm.Cond) (p1 : Int32) (p2 : Int32) (p3 : Int32) (p4 : Int32) (h0 : Heap) (n0 : Nat) (Z0 : n0 ≤ h0.size) (q0 : ¬ (own_cnt p1 p2 p3 p4 = (0 : Int32))) (q1 : ¬ (own_first (0 : Int32) p2 p3 p4 < own_first p1 p2 p3 p4)) (q2 : own_first (1 : Int32) p2 p3 p4 < own_first p1 p2 p3 p4) (q3 : ¬ (own_first (2 : Int32) p2 p3 p4 < own_first p1 p2 p3 p4)) :
    MetFree l (⟨"com/example/prune/prune/mdp/ListsPlacePinLaw", "refStart", "(IIII)I"⟩ : MethodName) (head1 (Jvm.Cond.code (⟨"com/example/prune/prune/mdp/ListsPlacePinLaw", "refStart", "(IIII)I"⟩ : MethodName) method_4_code 8 (some .int) :: ws) ({ frames := 1, cells := 0, slots := 0, locals := 15 } : Room)) (fun a U => a = #[(.int p1), (.int p2), (.int p3), (.int p4)] ∧ Z.Warmed39 U.vm ∧ U.heap = h0) (fun _ _ _ _ _ => True) (fun _ U o U' => ∃ v L, o = .returned v ∧ Q6 Z p1 p2 p3 p4 h0 n0 v U'.heap L ∧ FrameEnd U o U' L ({ frames := 1, cells := 0, slots := 0, locals := 15 } : Room).cells ({ frames := 1, cells := 0, slots := 0, locals := 15 } : Room).slots) := by
  refine MetFree.of_bodySF (plainFor_of_name pn_6) hisR ?_
  intro p e s m args below meth c s₁ Bd hml0 hP hK
  obtain ⟨rfl, hZ, hh⟩ := hP
  have hx := Bd.exec
  have hby := Bd.bytes
  have hml : c.maxLocals = 8 := hml0
  have hown : s.vm.findClass "com/example/prune/prune/mdp/ListsPlacePinLaw" = some m.cls := findClass_of_methodNamed Bd.named
  have hnm := (name_of_methodNamed Bd.named Bd.method).1
  have X0 : Stand p l e ({ frames := 1, cells := 0, slots := 0, locals := 15 } : Room) s m #[(.int p1), (.int p2), (.int p3), (.int p4)] below meth c s₁ [] 0 0 := Stand.of_body Bd
  have e0 : s₁.heap = h0 := by rw [← hh, Bd.state]; rfl
  have N0 := Fr.nil n0
  have pre0 : ∀ t, Steps p.tables e below (s₁.setTop (mkF m 0 #[.val (.int p1), .val (.int p2), .val (.int p3), .val (.int p4), .unset, .unset, .unset, .unset] [])) t → Steps p.tables e below (s₁.setTop (entryFrame m #[(.int p1), (.int p2), (.int p3), (.int p4)] 8)) t := fun t k => castTop (ef_6 m p1 p2 p3 p4) k
  obtain ⟨_, _, ⟨T1, L1, k1, n1⟩, -, X1, ⟨Lc1, hQ1, l1, y1, z1⟩, st1⟩ := Jvm.LawKit.callS X0 hx (y := (⟨"com/example/prune/prune/mdp/ListsPlacePinLaw", "cnt", "(IIII)I"⟩ : MethodName)) hown (mvT hZ (hw _ (List.mem_of_getElem? (i := 39) rfl))) (mvT hZ (hw _ (List.mem_of_getElem? (i := 40) rfl))) (mvT hZ (hw _ (List.mem_of_getElem? (i := 37) rfl))) (mvT hZ (hw _ (List.mem_of_getElem? (i := 41) rfl))) (by decide) (backOf (W := 0) (rm7 l Z a0 hw [] p1 p2 p3 p4 h0 n0 Z0) hZ (hw _ (List.mem_of_getElem? (i := 41) rfl)) (hw _ (List.mem_of_getElem? (i := 37) rfl)) (by decide) (by decide)) (g := (mkF m 4 #[.val (.int p1), .val (.int p2), .val (.int p3), .val (.int p4), .unset, .unset, .unset, .unset] [(.int p4), (.int p3), (.int p2), (.int p1)])) rfl (by rw [hml]; rfl) (argsL := [(.int p1), (.int p2), (.int p3), (.int p4)]) (rest := []) (lenOf pd_6_0 rfl) rfl (by show 2 * 0 + _ ≤ _; exact Nat.le_of_eq rfl) (hb hby d6_4) (fun _ _ => ⟨rfl, e0, (by decide : 0 + 0 ≤ _), (by decide : 0 + 0 ≤ _)⟩)
  dsimp only [Pt.U, Pt.locs, Pt.cells, Pt.slots] at X1 l1 y1 z1 st1 hQ1
  subst l1 y1 z1
  obtain ⟨rfl, N1q, e1⟩ := hQ1
  have N1 := Fr.app N0 N1q
  obtain ⟨_, _, ⟨T2, L2, k2, n2⟩, -, X2, ⟨Lc2, hQ2, l2, y2, z2⟩, st2⟩ := Jvm.LawKit.callS X1 hx (y := (⟨"com/example/prune/prune/mdp/ListsPlacePinLaw", "first", "(IIII)I"⟩ : MethodName)) hown (mvT hZ (hw _ (List.mem_of_getElem? (i := 42) rfl))) (mvT hZ (hw _ (List.mem_of_getElem? (i := 43) rfl))) (mvT hZ (hw _ (List.mem_of_getElem? (i := 37) rfl))) (mvT hZ (hw _ (List.mem_of_getElem? (i := 44) rfl))) (by decide) (backOf (W := 0) (rm8 l Z a0 hw [] p1 p2 p3 p4 h0 n0 Z0) hZ (hw _ (List.mem_of_getElem? (i := 44) rfl)) (hw _ (List.mem_of_getElem? (i := 37) rfl)) (by decide) (by decide)) (g := (mkF m 16 #[.val (.int p1), .val (.int p2), .val (.int p3), .val (.int p4), .unset, .unset, .unset, .unset] [(.int p4), (.int p3), (.int p2), (.int p1)])) rfl (by rw [hml]; rfl) (argsL := [(.int p1), (.int p2), (.int p3), (.int p4)]) (rest := []) (lenOf pd_6_0 rfl) rfl (by show 2 * 0 + _ ≤ _; exact Nat.le_of_eq rfl) (hb hby d6_16) (fun _ _ => ⟨rfl, e1, (by decide : 0 + 0 ≤ _), (by decide : 0 + 0 ≤ _)⟩)
  dsimp only [Pt.U, Pt.locs, Pt.cells, Pt.slots] at X2 l2 y2 z2 st2 hQ2
  subst l2 y2 z2
  obtain ⟨rfl, N2q, e2⟩ := hQ2
  have N2 := Fr.app N1 N2q
  obtain ⟨_, _, ⟨T3, L3, k3, n3⟩, -, X3, ⟨Lc3, hQ3, l3, y3, z3⟩, st3⟩ := Jvm.LawKit.callS X2 hx (y := (⟨"com/example/prune/prune/mdp/ListsPlacePinLaw", "first", "(IIII)I"⟩ : MethodName)) hown (mvT hZ (hw _ (List.mem_of_getElem? (i := 42) rfl))) (mvT hZ (hw _ (List.mem_of_getElem? (i := 43) rfl))) (mvT hZ (hw _ (List.mem_of_getElem? (i := 37) rfl))) (mvT hZ (hw _ (List.mem_of_getElem? (i := 44) rfl))) (by decide) (backOf (W := 0) (rm8 l Z a0 hw [] (0 : Int32) p2 p3 p4 h0 n0 Z0) hZ (hw _ (List.mem_of_getElem? (i := 44) rfl)) (hw _ (List.mem_of_getElem? (i := 37) rfl)) (by decide) (by decide)) (g := (mkF m 25 #[.val (.int p1), .val (.int p2), .val (.int p3), .val (.int p4), .val (.int (own_first p1 p2 p3 p4)), .unset, .unset, .unset] [(.int p4), (.int p3), (.int p2), (.int (0 : Int32))])) rfl (by rw [hml]; rfl) (argsL := [(.int (0 : Int32)), (.int p2), (.int p3), (.int p4)]) (rest := []) (lenOf pd_6_0 rfl) rfl (by show 2 * 0 + _ ≤ _; exact Nat.le_of_eq rfl) (hb hby d6_25) (fun _ _ => ⟨rfl, e2, (by decide : 0 + 0 ≤ _), (by decide : 0 + 0 ≤ _)⟩)
  dsimp only [Pt.U, Pt.locs, Pt.cells, Pt.slots] at X3 l3 y3 z3 st3 hQ3
  subst l3 y3 z3
  obtain ⟨rfl, N3q, e3⟩ := hQ3
  have N3 := Fr.app N2 N3q
  obtain ⟨_, _, ⟨T4, L4, k4, n4⟩, -, X4, ⟨Lc4, hQ4, l4, y4, z4⟩, st4⟩ := Jvm.LawKit.callS X3 hx (y := (⟨"com/example/prune/prune/mdp/ListsPlacePinLaw", "first", "(IIII)I"⟩ : MethodName)) hown (mvT hZ (hw _ (List.mem_of_getElem? (i := 42) rfl))) (mvT hZ (hw _ (List.mem_of_getElem? (i := 43) rfl))) (mvT hZ (hw _ (List.mem_of_getElem? (i := 37) rfl))) (mvT hZ (hw _ (List.mem_of_getElem? (i := 44) rfl))) (by decide) (backOf (W := 0) (rm8 l Z a0 hw [] (1 : Int32) p2 p3 p4 h0 n0 Z0) hZ (hw _ (List.mem_of_getElem? (i := 44) rfl)) (hw _ (List.mem_of_getElem? (i := 37) rfl)) (by decide) (by decide)) (g := (mkF m 50 #[.val (.int p1), .val (.int p2), .val (.int p3), .val (.int p4), .val (.int (own_first p1 p2 p3 p4)), .val (.int (0 : Int32)), .unset, .unset] [(.int p4), (.int p3), (.int p2), (.int (1 : Int32))])) rfl (by rw [hml]; rfl) (argsL := [(.int (1 : Int32)), (.int p2), (.int p3), (.int p4)]) (rest := []) (lenOf pd_6_0 rfl) rfl (by show 2 * 0 + _ ≤ _; exact Nat.le_of_eq rfl) (hb hby d6_50) (fun _ _ => ⟨rfl, e3, (by decide : 0 + 0 ≤ _), (by decide : 0 + 0 ≤ _)⟩)
  dsimp only [Pt.U, Pt.locs, Pt.cells, Pt.slots] at X4 l4 y4 z4 st4 hQ4
  subst l4 y4 z4
  obtain ⟨rfl, N4q, e4⟩ := hQ4
  have N4 := Fr.app N3 N4q
  obtain ⟨_, _, ⟨T5, L5, k5, n5⟩, -, X5, ⟨Lc5, hQ5, l5, y5, z5⟩, st5⟩ := Jvm.LawKit.callS X4 hx (y := (⟨"com/example/prune/prune/mdp/ListsPlacePinLaw", "cnt", "(IIII)I"⟩ : MethodName)) hown (mvT hZ (hw _ (List.mem_of_getElem? (i := 39) rfl))) (mvT hZ (hw _ (List.mem_of_getElem? (i := 40) rfl))) (mvT hZ (hw _ (List.mem_of_getElem? (i := 37) rfl))) (mvT hZ (hw _ (List.mem_of_getElem? (i := 41) rfl))) (by decide) (backOf (W := 0) (rm7 l Z a0 hw [] (1 : Int32) p2 p3 p4 h0 n0 Z0) hZ (hw _ (List.mem_of_getElem? (i := 41) rfl)) (hw _ (List.mem_of_getElem? (i := 37) rfl)) (by decide) (by decide)) (g := (mkF m 62 #[.val (.int p1), .val (.int p2), .val (.int p3), .val (.int p4), .val (.int (own_first p1 p2 p3 p4)), .val (.int (0 : Int32)), .unset, .unset] [(.int p4), (.int p3), (.int p2), (.int (1 : Int32))])) rfl (by rw [hml]; rfl) (argsL := [(.int (1 : Int32)), (.int p2), (.int p3), (.int p4)]) (rest := []) (lenOf pd_6_0 rfl) rfl (by show 2 * 0 + _ ≤ _; exact Nat.le_of_eq rfl) (hb hby d6_62) (fun _ _ => ⟨rfl, e4, (by decide : 0 + 0 ≤ _), (by decide : 0 + 0 ≤ _)⟩)
  dsimp only [Pt.U, Pt.locs, Pt.cells, Pt.slots] at X5 l5 y5 z5 st5 hQ5
  subst l5 y5 z5
  obtain ⟨rfl, N5q, e5⟩ := hQ5
  have N5 := Fr.app N4 N5q
  obtain ⟨_, _, ⟨T6, L6, k6, n6⟩, -, X6, ⟨Lc6, hQ6, l6, y6, z6⟩, st6⟩ := Jvm.LawKit.callS X5 hx (y := (⟨"com/example/prune/prune/mdp/ListsPlacePinLaw", "first", "(IIII)I"⟩ : MethodName)) hown (mvT hZ (hw _ (List.mem_of_getElem? (i := 42) rfl))) (mvT hZ (hw _ (List.mem_of_getElem? (i := 43) rfl))) (mvT hZ (hw _ (List.mem_of_getElem? (i := 37) rfl))) (mvT hZ (hw _ (List.mem_of_getElem? (i := 44) rfl))) (by decide) (backOf (W := 0) (rm8 l Z a0 hw [] (2 : Int32) p2 p3 p4 h0 n0 Z0) hZ (hw _ (List.mem_of_getElem? (i := 44) rfl)) (hw _ (List.mem_of_getElem? (i := 37) rfl)) (by decide) (by decide)) (g := (mkF m 75 #[.val (.int p1), .val (.int p2), .val (.int p3), .val (.int p4), .val (.int (own_first p1 p2 p3 p4)), .val (.int (0 : Int32)), .val (.int (own_cnt (1 : Int32) p2 p3 p4)), .unset] [(.int p4), (.int p3), (.int p2), (.int (2 : Int32))])) rfl (by rw [hml]; rfl) (argsL := [(.int (2 : Int32)), (.int p2), (.int p3), (.int p4)]) (rest := []) (lenOf pd_6_0 rfl) rfl (by show 2 * 0 + _ ≤ _; exact Nat.le_of_eq rfl) (hb hby d6_75) (fun _ _ => ⟨rfl, e5, (by decide : 0 + 0 ≤ _), (by decide : 0 + 0 ≤ _)⟩)
  dsimp only [Pt.U, Pt.locs, Pt.cells, Pt.slots] at X6 l6 y6 z6 st6 hQ6
  subst l6 y6 z6
  obtain ⟨rfl, N6q, e6⟩ := hQ6
  have N6 := Fr.app N5 N6q
  obtain ⟨fs, hr, hrun, hended, hW, hsame⟩ := X6.leave (v := some (.int (((0 : Int32) + (own_cnt (1 : Int32) p2 p3 p4)) + (0 : Int32)))) (fun h => by rw [Bd.returns] at h; cases h)
  refine ⟨_, _, pre0 _ ?_, hrun, hended, _, _, rfl, ?_, ⟨_, rfl⟩, hW, hsame.mono (by decide) (by decide)⟩
  · show Steps p.tables e below (s₁.setTop (mkF m 0 #[.val (.int p1), .val (.int p2), .val (.int p3), .val (.int p4), .unset, .unset, .unset, .unset] [])) _
    refine XS.iloadN X0.here hx rfl (hb hby d6_0) rfl ?_
    show Steps p.tables e below (s₁.setTop (mkF m 1 #[.val (.int p1), .val (.int p2), .val (.int p3), .val (.int p4), .unset, .unset, .unset, .unset] [(.int p1)])) _
    refine XS.iloadN X0.here hx rfl (hb hby d6_1) rfl ?_
    show Steps p.tables e below (s₁.setTop (mkF m 2 #[.val (.int p1), .val (.int p2), .val (.int p3), .val (.int p4), .unset, .unset, .unset, .unset] [(.int p2), (.int p1)])) _
    refine XS.iloadN X0.here hx rfl (hb hby d6_2) rfl ?_
    show Steps p.tables e below (s₁.setTop (mkF m 3 #[.val (.int p1), .val (.int p2), .val (.int p3), .val (.int p4), .unset, .unset, .unset, .unset] [(.int p3), (.int p2), (.int p1)])) _
    refine XS.iloadN X0.here hx rfl (hb hby d6_3) rfl ?_
    show Steps p.tables e below (s₁.setTop (mkF m 4 #[.val (.int p1), .val (.int p2), .val (.int p3), .val (.int p4), .unset, .unset, .unset, .unset] [(.int p4), (.int p3), (.int p2), (.int p1)])) _
    refine st1 _ ?_
    show Steps p.tables e below (T1.setTop (mkF m 7 #[.val (.int p1), .val (.int p2), .val (.int p3), .val (.int p4), .unset, .unset, .unset, .unset] [(.int (own_cnt p1 p2 p3 p4))])) _
    refine XS.ifYes X1.here hx rfl (pc0 := 7) (pc' := 12) rfl (hb hby d6_7) rfl ((if0 _ _).trans (feq q0).2) (by decide) (by decide) ?_
    show Steps p.tables e below (T1.setTop (mkF m 12 #[.val (.int p1), .val (.int p2), .val (.int p3), .val (.int p4), .unset, .unset, .unset, .unset] [])) _
    refine XS.iloadN X1.here hx rfl (hb hby d6_12) rfl ?_
    show Steps p.tables e below (T1.setTop (mkF m 13 #[.val (.int p1), .val (.int p2), .val (.int p3), .val (.int p4), .unset, .unset, .unset, .unset] [(.int p1)])) _
    refine XS.iloadN X1.here hx rfl (hb hby d6_13) rfl ?_
    show Steps p.tables e below (T1.setTop (mkF m 14 #[.val (.int p1), .val (.int p2), .val (.int p3), .val (.int p4), .unset, .unset, .unset, .unset] [(.int p2), (.int p1)])) _
    refine XS.iloadN X1.here hx rfl (hb hby d6_14) rfl ?_
    show Steps p.tables e below (T1.setTop (mkF m 15 #[.val (.int p1), .val (.int p2), .val (.int p3), .val (.int p4), .unset, .unset, .unset, .unset] [(.int p3), (.int p2), (.int p1)])) _
    refine XS.iloadN X1.here hx rfl (hb hby d6_15) rfl ?_
    show Steps p.tables e below (T1.setTop (mkF m 16 #[.val (.int p1), .val (.int p2), .val (.int p3), .val (.int p4), .unset, .unset, .unset, .unset] [(.int p4), (.int p3), (.int p2), (.int p1)])) _
    refine st2 _ ?_
    show Steps p.tables e below (T2.setTop (mkF m 19 #[.val (.int p1), .val (.int p2), .val (.int p3), .val (.int p4), .unset, .unset, .unset, .unset] [(.int (own_first p1 p2 p3 p4))])) _
    refine XS.istore X2.here hx rfl (hb hby d6_19) rfl (l' := #[.val (.int p1), .val (.int p2), .val (.int p3), .val (.int p4), .val (.int (own_first p1 p2 p3 p4)), .unset, .unset, .unset]) rfl ?_
    show Steps p.tables e below (T2.setTop (mkF m 21 #[.val (.int p1), .val (.int p2), .val (.int p3), .val (.int p4), .val (.int (own_first p1 p2 p3 p4)), .unset, .unset, .unset] [])) _
    refine XS.iconst X2.here hx rfl (hb hby d6_21) ?_
    show Steps p.tables e below (T2.setTop (mkF m 22 #[.val (.int p1), .val (.int p2), .val (.int p3), .val (.int p4), .val (.int (own_first p1 p2 p3 p4)), .unset, .unset, .unset] [(.int (0 : Int32))])) _
    refine XS.iloadN X2.here hx rfl (hb hby d6_22) rfl ?_
    show Steps p.tables e below (T2.setTop (mkF m 23 #[.val (.int p1), .val (.int p2), .val (.int p3), .val (.int p4), .val (.int (own_first p1 p2 p3 p4)), .unset, .unset, .unset] [(.int p2), (.int (0 : Int32))])) _
    refine XS.iloadN X2.here hx rfl (hb hby d6_23) rfl ?_
    show Steps p.tables e below (T2.setTop (mkF m 24 #[.val (.int p1), .val (.int p2), .val (.int p3), .val (.int p4), .val (.int (own_first p1 p2 p3 p4)), .unset, .unset, .unset] [(.int p3), (.int p2), (.int (0 : Int32))])) _
    refine XS.iloadN X2.here hx rfl (hb hby d6_24) rfl ?_
    show Steps p.tables e below (T2.setTop (mkF m 25 #[.val (.int p1), .val (.int p2), .val (.int p3), .val (.int p4), .val (.int (own_first p1 p2 p3 p4)), .unset, .unset, .unset] [(.int p4), (.int p3), (.int p2), (.int (0 : Int32))])) _
    refine st3 _ ?_
    show Steps p.tables e below (T3.setTop (mkF m 28 #[.val (.int p1), .val (.int p2), .val (.int p3), .val (.int p4), .val (.int (own_first p1 p2 p3 p4)), .unset, .unset, .unset] [(.int (own_first (0 : Int32) p2 p3 p4))])) _
    refine XS.iload X3.here hx rfl (hb hby d6_28) rfl ?_
    show Steps p.tables e below (T3.setTop (mkF m 30 #[.val (.int p1), .val (.int p2), .val (.int p3), .val (.int p4), .val (.int (own_first p1 p2 p3 p4)), .unset, .unset, .unset] [(.int (own_first p1 p2 p3 p4)), (.int (own_first (0 : Int32) p2 p3 p4))])) _
    refine XS.icmpYes X3.here hx rfl (pc0 := 30) (pc' := 43) rfl (hb hby d6_30) rfl (flt q1).2.1 (by decide) (by decide) ?_
    show Steps p.tables e below (T3.setTop (mkF m 43 #[.val (.int p1), .val (.int p2), .val (.int p3), .val (.int p4), .val (.int (own_first p1 p2 p3 p4)), .unset, .unset, .unset] [])) _
    refine XS.iconst X3.here hx rfl (hb hby d6_43) ?_
    show Steps p.tables e below (T3.setTop (mkF m 44 #[.val (.int p1), .val (.int p2), .val (.int p3), .val (.int p4), .val (.int (own_first p1 p2 p3 p4)), .unset, .unset, .unset] [(.int (0 : Int32))])) _
    refine XS.istore X3.here hx rfl (hb hby d6_44) rfl (l' := #[.val (.int p1), .val (.int p2), .val (.int p3), .val (.int p4), .val (.int (own_first p1 p2 p3 p4)), .val (.int (0 : Int32)), .unset, .unset]) rfl ?_
    show Steps p.tables e below (T3.setTop (mkF m 46 #[.val (.int p1), .val (.int p2), .val (.int p3), .val (.int p4), .val (.int (own_first p1 p2 p3 p4)), .val (.int (0 : Int32)), .unset, .unset] [])) _
    refine XS.iconst X3.here hx rfl (hb hby d6_46) ?_
    show Steps p.tables e below (T3.setTop (mkF m 47 #[.val (.int p1), .val (.int p2), .val (.int p3), .val (.int p4), .val (.int (own_first p1 p2 p3 p4)), .val (.int (0 : Int32)), .unset, .unset] [(.int (1 : Int32))])) _
    refine XS.iloadN X3.here hx rfl (hb hby d6_47) rfl ?_
    show Steps p.tables e below (T3.setTop (mkF m 48 #[.val (.int p1), .val (.int p2), .val (.int p3), .val (.int p4), .val (.int (own_first p1 p2 p3 p4)), .val (.int (0 : Int32)), .unset, .unset] [(.int p2), (.int (1 : Int32))])) _
    refine XS.iloadN X3.here hx rfl (hb hby d6_48) rfl ?_
    show Steps p.tables e below (T3.setTop (mkF m 49 #[.val (.int p1), .val (.int p2), .val (.int p3), .val (.int p4), .val (.int (own_first p1 p2 p3 p4)), .val (.int (0 : Int32)), .unset, .unset] [(.int p3), (.int p2), (.int (1 : Int32))])) _
    refine XS.iloadN X3.here hx rfl (hb hby d6_49) rfl ?_
    show Steps p.tables e below (T3.setTop (mkF m 50 #[.val (.int p1), .val (.int p2), .val (.int p3), .val (.int p4), .val (.int (own_first p1 p2 p3 p4)), .val (.int (0 : Int32)), .unset, .unset] [(.int p4), (.int p3), (.int p2), (.int (1 : Int32))])) _
    refine st4 _ ?_
    show Steps p.tables e below (T4.setTop (mkF m 53 #[.val (.int p1), .val (.int p2), .val (.int p3), .val (.int p4), .val (.int (own_first p1 p2 p3 p4)), .val (.int (0 : Int32)), .unset, .unset] [(.int (own_first (1 : Int32) p2 p3 p4))])) _
    refine XS.iload X4.here hx rfl (hb hby d6_53) rfl ?_
    show Steps p.tables e below (T4.setTop (mkF m 55 #[.val (.int p1), .val (.int p2), .val (.int p3), .val (.int p4), .val (.int (own_first p1 p2 p3 p4)), .val (.int (0 : Int32)), .unset, .unset] [(.int (own_first p1 p2 p3 p4)), (.int (own_first (1 : Int32) p2 p3 p4))])) _
    refine XS.icmpNo X4.here hx rfl (hb hby d6_55) rfl (tlt q2).2.1 ?_
    show Steps p.tables e below (T4.setTop (mkF m 58 #[.val (.int p1), .val (.int p2), .val (.int p3), .val (.int p4), .val (.int (own_first p1 p2 p3 p4)), .val (.int (0 : Int32)), .unset, .unset] [])) _
    refine XS.iconst X4.here hx rfl (hb hby d6_58) ?_
    show Steps p.tables e below (T4.setTop (mkF m 59 #[.val (.int p1), .val (.int p2), .val (.int p3), .val (.int p4), .val (.int (own_first p1 p2 p3 p4)), .val (.int (0 : Int32)), .unset, .unset] [(.int (1 : Int32))])) _
    refine XS.iloadN X4.here hx rfl (hb hby d6_59) rfl ?_
    show Steps p.tables e below (T4.setTop (mkF m 60 #[.val (.int p1), .val (.int p2), .val (.int p3), .val (.int p4), .val (.int (own_first p1 p2 p3 p4)), .val (.int (0 : Int32)), .unset, .unset] [(.int p2), (.int (1 : Int32))])) _
    refine XS.iloadN X4.here hx rfl (hb hby d6_60) rfl ?_
    show Steps p.tables e below (T4.setTop (mkF m 61 #[.val (.int p1), .val (.int p2), .val (.int p3), .val (.int p4), .val (.int (own_first p1 p2 p3 p4)), .val (.int (0 : Int32)), .unset, .unset] [(.int p3), (.int p2), (.int (1 : Int32))])) _
    refine XS.iloadN X4.here hx rfl (hb hby d6_61) rfl ?_
    show Steps p.tables e below (T4.setTop (mkF m 62 #[.val (.int p1), .val (.int p2), .val (.int p3), .val (.int p4), .val (.int (own_first p1 p2 p3 p4)), .val (.int (0 : Int32)), .unset, .unset] [(.int p4), (.int p3), (.int p2), (.int (1 : Int32))])) _
    refine st5 _ ?_
    show Steps p.tables e below (T5.setTop (mkF m 65 #[.val (.int p1), .val (.int p2), .val (.int p3), .val (.int p4), .val (.int (own_first p1 p2 p3 p4)), .val (.int (0 : Int32)), .unset, .unset] [(.int (own_cnt (1 : Int32) p2 p3 p4))])) _
    refine XS.goto X5.here hx rfl (pc0 := 65) (pc' := 69) rfl (hb hby d6_65) (by decide) (by decide) ?_
    show Steps p.tables e below (T5.setTop (mkF m 69 #[.val (.int p1), .val (.int p2), .val (.int p3), .val (.int p4), .val (.int (own_first p1 p2 p3 p4)), .val (.int (0 : Int32)), .unset, .unset] [(.int (own_cnt (1 : Int32) p2 p3 p4))])) _
    refine XS.istore X5.here hx rfl (hb hby d6_69) rfl (l' := #[.val (.int p1), .val (.int p2), .val (.int p3), .val (.int p4), .val (.int (own_first p1 p2 p3 p4)), .val (.int (0 : Int32)), .val (.int (own_cnt (1 : Int32) p2 p3 p4)), .unset]) rfl ?_
    show Steps p.tables e below (T5.setTop (mkF m 71 #[.val (.int p1), .val (.int p2), .val (.int p3), .val (.int p4), .val (.int (own_first p1 p2 p3 p4)), .val (.int (0 : Int32)), .val (.int (own_cnt (1 : Int32) p2 p3 p4)), .unset] [])) _
    refine XS.iconst X5.here hx rfl (hb hby d6_71) ?_
    show Steps p.tables e below (T5.setTop (mkF m 72 #[.val (.int p1), .val (.int p2), .val (.int p3), .val (.int p4), .val (.int (own_first p1 p2 p3 p4)), .val (.int (0 : Int32)), .val (.int (own_cnt (1 : Int32) p2 p3 p4)), .unset] [(.int (2 : Int32))])) _
    refine XS.iloadN X5.here hx rfl (hb hby d6_72) rfl ?_
    show Steps p.tables e below (T5.setTop (mkF m 73 #[.val (.int p1), .val (.int p2), .val (.int p3), .val (.int p4), .val (.int (own_first p1 p2 p3 p4)), .val (.int (0 : Int32)), .val (.int (own_cnt (1 : Int32) p2 p3 p4)), .unset] [(.int p2), (.int (2 : Int32))])) _
    refine XS.iloadN X5.here hx rfl (hb hby d6_73) rfl ?_
    show Steps p.tables e below (T5.setTop (mkF m 74 #[.val (.int p1), .val (.int p2), .val (.int p3), .val (.int p4), .val (.int (own_first p1 p2 p3 p4)), .val (.int (0 : Int32)), .val (.int (own_cnt (1 : Int32) p2 p3 p4)), .unset] [(.int p3), (.int p2), (.int (2 : Int32))])) _
    refine XS.iloadN X5.here hx rfl (hb hby d6_74) rfl ?_
    show Steps p.tables e below (T5.setTop (mkF m 75 #[.val (.int p1), .val (.int p2), .val (.int p3), .val (.int p4), .val (.int (own_first p1 p2 p3 p4)), .val (.int (0 : Int32)), .val (.int (own_cnt (1 : Int32) p2 p3 p4)), .unset] [(.int p4), (.int p3), (.int p2), (.int (2 : Int32))])) _
    refine st6 _ ?_
    show Steps p.tables e below (T6.setTop (mkF m 78 #[.val (.int p1), .val (.int p2), .val (.int p3), .val (.int p4), .val (.int (own_first p1 p2 p3 p4)), .val (.int (0 : Int32)), .val (.int (own_cnt (1 : Int32) p2 p3 p4)), .unset] [(.int (own_first (2 : Int32) p2 p3 p4))])) _
    refine XS.iload X6.here hx rfl (hb hby d6_78) rfl ?_
    show Steps p.tables e below (T6.setTop (mkF m 80 #[.val (.int p1), .val (.int p2), .val (.int p3), .val (.int p4), .val (.int (own_first p1 p2 p3 p4)), .val (.int (0 : Int32)), .val (.int (own_cnt (1 : Int32) p2 p3 p4)), .unset] [(.int (own_first p1 p2 p3 p4)), (.int (own_first (2 : Int32) p2 p3 p4))])) _
    refine XS.icmpYes X6.here hx rfl (pc0 := 80) (pc' := 93) rfl (hb hby d6_80) rfl (flt q3).2.1 (by decide) (by decide) ?_
    show Steps p.tables e below (T6.setTop (mkF m 93 #[.val (.int p1), .val (.int p2), .val (.int p3), .val (.int p4), .val (.int (own_first p1 p2 p3 p4)), .val (.int (0 : Int32)), .val (.int (own_cnt (1 : Int32) p2 p3 p4)), .unset] [])) _
    refine XS.iconst X6.here hx rfl (hb hby d6_93) ?_
    show Steps p.tables e below (T6.setTop (mkF m 94 #[.val (.int p1), .val (.int p2), .val (.int p3), .val (.int p4), .val (.int (own_first p1 p2 p3 p4)), .val (.int (0 : Int32)), .val (.int (own_cnt (1 : Int32) p2 p3 p4)), .unset] [(.int (0 : Int32))])) _
    refine XS.istore X6.here hx rfl (hb hby d6_94) rfl (l' := #[.val (.int p1), .val (.int p2), .val (.int p3), .val (.int p4), .val (.int (own_first p1 p2 p3 p4)), .val (.int (0 : Int32)), .val (.int (own_cnt (1 : Int32) p2 p3 p4)), .val (.int (0 : Int32))]) rfl ?_
    show Steps p.tables e below (T6.setTop (mkF m 96 #[.val (.int p1), .val (.int p2), .val (.int p3), .val (.int p4), .val (.int (own_first p1 p2 p3 p4)), .val (.int (0 : Int32)), .val (.int (own_cnt (1 : Int32) p2 p3 p4)), .val (.int (0 : Int32))] [])) _
    refine XS.iload X6.here hx rfl (hb hby d6_96) rfl ?_
    show Steps p.tables e below (T6.setTop (mkF m 98 #[.val (.int p1), .val (.int p2), .val (.int p3), .val (.int p4), .val (.int (own_first p1 p2 p3 p4)), .val (.int (0 : Int32)), .val (.int (own_cnt (1 : Int32) p2 p3 p4)), .val (.int (0 : Int32))] [(.int (0 : Int32))])) _
    refine XS.iload X6.here hx rfl (hb hby d6_98) rfl ?_
    show Steps p.tables e below (T6.setTop (mkF m 100 #[.val (.int p1), .val (.int p2), .val (.int p3), .val (.int p4), .val (.int (own_first p1 p2 p3 p4)), .val (.int (0 : Int32)), .val (.int (own_cnt (1 : Int32) p2 p3 p4)), .val (.int (0 : Int32))] [(.int (own_cnt (1 : Int32) p2 p3 p4)), (.int (0 : Int32))])) _
    refine XS.iadd X6.here hx rfl (hb hby d6_100) rfl ?_
    show Steps p.tables e below (T6.setTop (mkF m 101 #[.val (.int p1), .val (.int p2), .val (.int p3), .val (.int p4), .val (.int (own_first p1 p2 p3 p4)), .val (.int (0 : Int32)), .val (.int (own_cnt (1 : Int32) p2 p3 p4)), .val (.int (0 : Int32))] [(.int ((0 : Int32) + (own_cnt (1 : Int32) p2 p3 p4)))])) _
    refine XS.iload X6.here hx rfl (hb hby d6_101) rfl ?_
    show Steps p.tables e below (T6.setTop (mkF m 103 #[.val (.int p1), .val (.int p2), .val (.int p3), .val (.int p4), .val (.int (own_first p1 p2 p3 p4)), .val (.int (0 : Int32)), .val (.int (own_cnt (1 : Int32) p2 p3 p4)), .val (.int (0 : Int32))] [(.int (0 : Int32)), (.int ((0 : Int32) + (own_cnt (1 : Int32) p2 p3 p4)))])) _
    refine XS.iadd X6.here hx rfl (hb hby d6_103) rfl ?_
    show Steps p.tables e below (T6.setTop (mkF m 104 #[.val (.int p1), .val (.int p2), .val (.int p3), .val (.int p4), .val (.int (own_first p1 p2 p3 p4)), .val (.int (0 : Int32)), .val (.int (own_cnt (1 : Int32) p2 p3 p4)), .val (.int (0 : Int32))] [(.int (((0 : Int32) + (own_cnt (1 : Int32) p2 p3 p4)) + (0 : Int32)))])) _
    exact retI X6 hx Bd.returns (hb hby d6_104) hr
  · show Q6 Z p1 p2 p3 p4 h0 n0 _ T6.heap _
    rw [e6]
    have hm : own_ref p1 p2 p3 p4 = (((0 : Int32) + (own_cnt (1 : Int32) p2 p3 p4)) + (0 : Int32)) := by unfold own_ref; rw [if_neg q0, if_neg q1, if_pos q2, if_neg q3]
    exact ⟨by rw [hm], N6, rfl⟩
set_option maxRecDepth 65536 in
set_option maxHeartbeats 40000000 in
theorem rm6_011 (l : Launch) (Z : State) (a0 : Array Value) (hw : ∀ d ∈ tables_1, d.before a0 Z = true) (ws : List Jvm.Cond) (p1 : Int32) (p2 : Int32) (p3 : Int32) (p4 : Int32) (h0 : Heap) (n0 : Nat) (Z0 : n0 ≤ h0.size) (q0 : ¬ (own_cnt p1 p2 p3 p4 = (0 : Int32))) (q1 : ¬ (own_first (0 : Int32) p2 p3 p4 < own_first p1 p2 p3 p4)) (q2 : own_first (1 : Int32) p2 p3 p4 < own_first p1 p2 p3 p4) (q3 : own_first (2 : Int32) p2 p3 p4 < own_first p1 p2 p3 p4) :
    MetFree l (⟨"com/example/prune/prune/mdp/ListsPlacePinLaw", "refStart", "(IIII)I"⟩ : MethodName) (head1 (Jvm.Cond.code (⟨"com/example/prune/prune/mdp/ListsPlacePinLaw", "refStart", "(IIII)I"⟩ : MethodName) method_4_code 8 (some .int) :: ws) ({ frames := 1, cells := 0, slots := 0, locals := 15 } : Room)) (fun a U => a = #[(.int p1), (.int p2), (.int p3), (.int p4)] ∧ Z.Warmed39 U.vm ∧ U.heap = h0) (fun _ _ _ _ _ => True) (fun _ U o U' => ∃ v L, o = .returned v ∧ Q6 Z p1 p2 p3 p4 h0 n0 v U'.heap L ∧ FrameEnd U o U' L ({ frames := 1, cells := 0, slots := 0, locals := 15 } : Room).cells ({ frames := 1, cells := 0, slots := 0, locals := 15 } : Room).slots) := by
  refine MetFree.of_bodySF (plainFor_of_name pn_6) hisR ?_
  intro p e s m args below meth c s₁ Bd hml0 hP hK
  obtain ⟨rfl, hZ, hh⟩ := hP
  have hx := Bd.exec
  have hby := Bd.bytes
  have hml : c.maxLocals = 8 := hml0
  have hown : s.vm.findClass "com/example/prune/prune/mdp/ListsPlacePinLaw" = some m.cls := findClass_of_methodNamed Bd.named
  have hnm := (name_of_methodNamed Bd.named Bd.method).1
  have X0 : Stand p l e ({ frames := 1, cells := 0, slots := 0, locals := 15 } : Room) s m #[(.int p1), (.int p2), (.int p3), (.int p4)] below meth c s₁ [] 0 0 := Stand.of_body Bd
  have e0 : s₁.heap = h0 := by rw [← hh, Bd.state]; rfl
  have N0 := Fr.nil n0
  have pre0 : ∀ t, Steps p.tables e below (s₁.setTop (mkF m 0 #[.val (.int p1), .val (.int p2), .val (.int p3), .val (.int p4), .unset, .unset, .unset, .unset] [])) t → Steps p.tables e below (s₁.setTop (entryFrame m #[(.int p1), (.int p2), (.int p3), (.int p4)] 8)) t := fun t k => castTop (ef_6 m p1 p2 p3 p4) k
  obtain ⟨_, _, ⟨T1, L1, k1, n1⟩, -, X1, ⟨Lc1, hQ1, l1, y1, z1⟩, st1⟩ := Jvm.LawKit.callS X0 hx (y := (⟨"com/example/prune/prune/mdp/ListsPlacePinLaw", "cnt", "(IIII)I"⟩ : MethodName)) hown (mvT hZ (hw _ (List.mem_of_getElem? (i := 39) rfl))) (mvT hZ (hw _ (List.mem_of_getElem? (i := 40) rfl))) (mvT hZ (hw _ (List.mem_of_getElem? (i := 37) rfl))) (mvT hZ (hw _ (List.mem_of_getElem? (i := 41) rfl))) (by decide) (backOf (W := 0) (rm7 l Z a0 hw [] p1 p2 p3 p4 h0 n0 Z0) hZ (hw _ (List.mem_of_getElem? (i := 41) rfl)) (hw _ (List.mem_of_getElem? (i := 37) rfl)) (by decide) (by decide)) (g := (mkF m 4 #[.val (.int p1), .val (.int p2), .val (.int p3), .val (.int p4), .unset, .unset, .unset, .unset] [(.int p4), (.int p3), (.int p2), (.int p1)])) rfl (by rw [hml]; rfl) (argsL := [(.int p1), (.int p2), (.int p3), (.int p4)]) (rest := []) (lenOf pd_6_0 rfl) rfl (by show 2 * 0 + _ ≤ _; exact Nat.le_of_eq rfl) (hb hby d6_4) (fun _ _ => ⟨rfl, e0, (by decide : 0 + 0 ≤ _), (by decide : 0 + 0 ≤ _)⟩)
  dsimp only [Pt.U, Pt.locs, Pt.cells, Pt.slots] at X1 l1 y1 z1 st1 hQ1
  subst l1 y1 z1
  obtain ⟨rfl, N1q, e1⟩ := hQ1
  have N1 := Fr.app N0 N1q
  obtain ⟨_, _, ⟨T2, L2, k2, n2⟩, -, X2, ⟨Lc2, hQ2, l2, y2, z2⟩, st2⟩ := Jvm.LawKit.callS X1 hx (y := (⟨"com/example/prune/prune/mdp/ListsPlacePinLaw", "first", "(IIII)I"⟩ : MethodName)) hown (mvT hZ (hw _ (List.mem_of_getElem? (i := 42) rfl))) (mvT hZ (hw _ (List.mem_of_getElem? (i := 43) rfl))) (mvT hZ (hw _ (List.mem_of_getElem? (i := 37) rfl))) (mvT hZ (hw _ (List.mem_of_getElem? (i := 44) rfl))) (by decide) (backOf (W := 0) (rm8 l Z a0 hw [] p1 p2 p3 p4 h0 n0 Z0) hZ (hw _ (List.mem_of_getElem? (i := 44) rfl)) (hw _ (List.mem_of_getElem? (i := 37) rfl)) (by decide) (by decide)) (g := (mkF m 16 #[.val (.int p1), .val (.int p2), .val (.int p3), .val (.int p4), .unset, .unset, .unset, .unset] [(.int p4), (.int p3), (.int p2), (.int p1)])) rfl (by rw [hml]; rfl) (argsL := [(.int p1), (.int p2), (.int p3), (.int p4)]) (rest := []) (lenOf pd_6_0 rfl) rfl (by show 2 * 0 + _ ≤ _; exact Nat.le_of_eq rfl) (hb hby d6_16) (fun _ _ => ⟨rfl, e1, (by decide : 0 + 0 ≤ _), (by decide : 0 + 0 ≤ _)⟩)
  dsimp only [Pt.U, Pt.locs, Pt.cells, Pt.slots] at X2 l2 y2 z2 st2 hQ2
  subst l2 y2 z2
  obtain ⟨rfl, N2q, e2⟩ := hQ2
  have N2 := Fr.app N1 N2q
  obtain ⟨_, _, ⟨T3, L3, k3, n3⟩, -, X3, ⟨Lc3, hQ3, l3, y3, z3⟩, st3⟩ := Jvm.LawKit.callS X2 hx (y := (⟨"com/example/prune/prune/mdp/ListsPlacePinLaw", "first", "(IIII)I"⟩ : MethodName)) hown (mvT hZ (hw _ (List.mem_of_getElem? (i := 42) rfl))) (mvT hZ (hw _ (List.mem_of_getElem? (i := 43) rfl))) (mvT hZ (hw _ (List.mem_of_getElem? (i := 37) rfl))) (mvT hZ (hw _ (List.mem_of_getElem? (i := 44) rfl))) (by decide) (backOf (W := 0) (rm8 l Z a0 hw [] (0 : Int32) p2 p3 p4 h0 n0 Z0) hZ (hw _ (List.mem_of_getElem? (i := 44) rfl)) (hw _ (List.mem_of_getElem? (i := 37) rfl)) (by decide) (by decide)) (g := (mkF m 25 #[.val (.int p1), .val (.int p2), .val (.int p3), .val (.int p4), .val (.int (own_first p1 p2 p3 p4)), .unset, .unset, .unset] [(.int p4), (.int p3), (.int p2), (.int (0 : Int32))])) rfl (by rw [hml]; rfl) (argsL := [(.int (0 : Int32)), (.int p2), (.int p3), (.int p4)]) (rest := []) (lenOf pd_6_0 rfl) rfl (by show 2 * 0 + _ ≤ _; exact Nat.le_of_eq rfl) (hb hby d6_25) (fun _ _ => ⟨rfl, e2, (by decide : 0 + 0 ≤ _), (by decide : 0 + 0 ≤ _)⟩)
  dsimp only [Pt.U, Pt.locs, Pt.cells, Pt.slots] at X3 l3 y3 z3 st3 hQ3
  subst l3 y3 z3
  obtain ⟨rfl, N3q, e3⟩ := hQ3
  have N3 := Fr.app N2 N3q
  obtain ⟨_, _, ⟨T4, L4, k4, n4⟩, -, X4, ⟨Lc4, hQ4, l4, y4, z4⟩, st4⟩ := Jvm.LawKit.callS X3 hx (y := (⟨"com/example/prune/prune/mdp/ListsPlacePinLaw", "first", "(IIII)I"⟩ : MethodName)) hown (mvT hZ (hw _ (List.mem_of_getElem? (i := 42) rfl))) (mvT hZ (hw _ (List.mem_of_getElem? (i := 43) rfl))) (mvT hZ (hw _ (List.mem_of_getElem? (i := 37) rfl))) (mvT hZ (hw _ (List.mem_of_getElem? (i := 44) rfl))) (by decide) (backOf (W := 0) (rm8 l Z a0 hw [] (1 : Int32) p2 p3 p4 h0 n0 Z0) hZ (hw _ (List.mem_of_getElem? (i := 44) rfl)) (hw _ (List.mem_of_getElem? (i := 37) rfl)) (by decide) (by decide)) (g := (mkF m 50 #[.val (.int p1), .val (.int p2), .val (.int p3), .val (.int p4), .val (.int (own_first p1 p2 p3 p4)), .val (.int (0 : Int32)), .unset, .unset] [(.int p4), (.int p3), (.int p2), (.int (1 : Int32))])) rfl (by rw [hml]; rfl) (argsL := [(.int (1 : Int32)), (.int p2), (.int p3), (.int p4)]) (rest := []) (lenOf pd_6_0 rfl) rfl (by show 2 * 0 + _ ≤ _; exact Nat.le_of_eq rfl) (hb hby d6_50) (fun _ _ => ⟨rfl, e3, (by decide : 0 + 0 ≤ _), (by decide : 0 + 0 ≤ _)⟩)
  dsimp only [Pt.U, Pt.locs, Pt.cells, Pt.slots] at X4 l4 y4 z4 st4 hQ4
  subst l4 y4 z4
  obtain ⟨rfl, N4q, e4⟩ := hQ4
  have N4 := Fr.app N3 N4q
  obtain ⟨_, _, ⟨T5, L5, k5, n5⟩, -, X5, ⟨Lc5, hQ5, l5, y5, z5⟩, st5⟩ := Jvm.LawKit.callS X4 hx (y := (⟨"com/example/prune/prune/mdp/ListsPlacePinLaw", "cnt", "(IIII)I"⟩ : MethodName)) hown (mvT hZ (hw _ (List.mem_of_getElem? (i := 39) rfl))) (mvT hZ (hw _ (List.mem_of_getElem? (i := 40) rfl))) (mvT hZ (hw _ (List.mem_of_getElem? (i := 37) rfl))) (mvT hZ (hw _ (List.mem_of_getElem? (i := 41) rfl))) (by decide) (backOf (W := 0) (rm7 l Z a0 hw [] (1 : Int32) p2 p3 p4 h0 n0 Z0) hZ (hw _ (List.mem_of_getElem? (i := 41) rfl)) (hw _ (List.mem_of_getElem? (i := 37) rfl)) (by decide) (by decide)) (g := (mkF m 62 #[.val (.int p1), .val (.int p2), .val (.int p3), .val (.int p4), .val (.int (own_first p1 p2 p3 p4)), .val (.int (0 : Int32)), .unset, .unset] [(.int p4), (.int p3), (.int p2), (.int (1 : Int32))])) rfl (by rw [hml]; rfl) (argsL := [(.int (1 : Int32)), (.int p2), (.int p3), (.int p4)]) (rest := []) (lenOf pd_6_0 rfl) rfl (by show 2 * 0 + _ ≤ _; exact Nat.le_of_eq rfl) (hb hby d6_62) (fun _ _ => ⟨rfl, e4, (by decide : 0 + 0 ≤ _), (by decide : 0 + 0 ≤ _)⟩)
  dsimp only [Pt.U, Pt.locs, Pt.cells, Pt.slots] at X5 l5 y5 z5 st5 hQ5
  subst l5 y5 z5
  obtain ⟨rfl, N5q, e5⟩ := hQ5
  have N5 := Fr.app N4 N5q
  obtain ⟨_, _, ⟨T6, L6, k6, n6⟩, -, X6, ⟨Lc6, hQ6, l6, y6, z6⟩, st6⟩ := Jvm.LawKit.callS X5 hx (y := (⟨"com/example/prune/prune/mdp/ListsPlacePinLaw", "first", "(IIII)I"⟩ : MethodName)) hown (mvT hZ (hw _ (List.mem_of_getElem? (i := 42) rfl))) (mvT hZ (hw _ (List.mem_of_getElem? (i := 43) rfl))) (mvT hZ (hw _ (List.mem_of_getElem? (i := 37) rfl))) (mvT hZ (hw _ (List.mem_of_getElem? (i := 44) rfl))) (by decide) (backOf (W := 0) (rm8 l Z a0 hw [] (2 : Int32) p2 p3 p4 h0 n0 Z0) hZ (hw _ (List.mem_of_getElem? (i := 44) rfl)) (hw _ (List.mem_of_getElem? (i := 37) rfl)) (by decide) (by decide)) (g := (mkF m 75 #[.val (.int p1), .val (.int p2), .val (.int p3), .val (.int p4), .val (.int (own_first p1 p2 p3 p4)), .val (.int (0 : Int32)), .val (.int (own_cnt (1 : Int32) p2 p3 p4)), .unset] [(.int p4), (.int p3), (.int p2), (.int (2 : Int32))])) rfl (by rw [hml]; rfl) (argsL := [(.int (2 : Int32)), (.int p2), (.int p3), (.int p4)]) (rest := []) (lenOf pd_6_0 rfl) rfl (by show 2 * 0 + _ ≤ _; exact Nat.le_of_eq rfl) (hb hby d6_75) (fun _ _ => ⟨rfl, e5, (by decide : 0 + 0 ≤ _), (by decide : 0 + 0 ≤ _)⟩)
  dsimp only [Pt.U, Pt.locs, Pt.cells, Pt.slots] at X6 l6 y6 z6 st6 hQ6
  subst l6 y6 z6
  obtain ⟨rfl, N6q, e6⟩ := hQ6
  have N6 := Fr.app N5 N6q
  obtain ⟨_, _, ⟨T7, L7, k7, n7⟩, -, X7, ⟨Lc7, hQ7, l7, y7, z7⟩, st7⟩ := Jvm.LawKit.callS X6 hx (y := (⟨"com/example/prune/prune/mdp/ListsPlacePinLaw", "cnt", "(IIII)I"⟩ : MethodName)) hown (mvT hZ (hw _ (List.mem_of_getElem? (i := 39) rfl))) (mvT hZ (hw _ (List.mem_of_getElem? (i := 40) rfl))) (mvT hZ (hw _ (List.mem_of_getElem? (i := 37) rfl))) (mvT hZ (hw _ (List.mem_of_getElem? (i := 41) rfl))) (by decide) (backOf (W := 0) (rm7 l Z a0 hw [] (2 : Int32) p2 p3 p4 h0 n0 Z0) hZ (hw _ (List.mem_of_getElem? (i := 41) rfl)) (hw _ (List.mem_of_getElem? (i := 37) rfl)) (by decide) (by decide)) (g := (mkF m 87 #[.val (.int p1), .val (.int p2), .val (.int p3), .val (.int p4), .val (.int (own_first p1 p2 p3 p4)), .val (.int (0 : Int32)), .val (.int (own_cnt (1 : Int32) p2 p3 p4)), .unset] [(.int p4), (.int p3), (.int p2), (.int (2 : Int32))])) rfl (by rw [hml]; rfl) (argsL := [(.int (2 : Int32)), (.int p2), (.int p3), (.int p4)]) (rest := []) (lenOf pd_6_0 rfl) rfl (by show 2 * 0 + _ ≤ _; exact Nat.le_of_eq rfl) (hb hby d6_87) (fun _ _ => ⟨rfl, e6, (by decide : 0 + 0 ≤ _), (by decide : 0 + 0 ≤ _)⟩)
  dsimp only [Pt.U, Pt.locs, Pt.cells, Pt.slots] at X7 l7 y7 z7 st7 hQ7
  subst l7 y7 z7
  obtain ⟨rfl, N7q, e7⟩ := hQ7
  have N7 := Fr.app N6 N7q
  obtain ⟨fs, hr, hrun, hended, hW, hsame⟩ := X7.leave (v := some (.int (((0 : Int32) + (own_cnt (1 : Int32) p2 p3 p4)) + (own_cnt (2 : Int32) p2 p3 p4)))) (fun h => by rw [Bd.returns] at h; cases h)
  refine ⟨_, _, pre0 _ ?_, hrun, hended, _, _, rfl, ?_, ⟨_, rfl⟩, hW, hsame.mono (by decide) (by decide)⟩
  · show Steps p.tables e below (s₁.setTop (mkF m 0 #[.val (.int p1), .val (.int p2), .val (.int p3), .val (.int p4), .unset, .unset, .unset, .unset] [])) _
    refine XS.iloadN X0.here hx rfl (hb hby d6_0) rfl ?_
    show Steps p.tables e below (s₁.setTop (mkF m 1 #[.val (.int p1), .val (.int p2), .val (.int p3), .val (.int p4), .unset, .unset, .unset, .unset] [(.int p1)])) _
    refine XS.iloadN X0.here hx rfl (hb hby d6_1) rfl ?_
    show Steps p.tables e below (s₁.setTop (mkF m 2 #[.val (.int p1), .val (.int p2), .val (.int p3), .val (.int p4), .unset, .unset, .unset, .unset] [(.int p2), (.int p1)])) _
    refine XS.iloadN X0.here hx rfl (hb hby d6_2) rfl ?_
    show Steps p.tables e below (s₁.setTop (mkF m 3 #[.val (.int p1), .val (.int p2), .val (.int p3), .val (.int p4), .unset, .unset, .unset, .unset] [(.int p3), (.int p2), (.int p1)])) _
    refine XS.iloadN X0.here hx rfl (hb hby d6_3) rfl ?_
    show Steps p.tables e below (s₁.setTop (mkF m 4 #[.val (.int p1), .val (.int p2), .val (.int p3), .val (.int p4), .unset, .unset, .unset, .unset] [(.int p4), (.int p3), (.int p2), (.int p1)])) _
    refine st1 _ ?_
    show Steps p.tables e below (T1.setTop (mkF m 7 #[.val (.int p1), .val (.int p2), .val (.int p3), .val (.int p4), .unset, .unset, .unset, .unset] [(.int (own_cnt p1 p2 p3 p4))])) _
    refine XS.ifYes X1.here hx rfl (pc0 := 7) (pc' := 12) rfl (hb hby d6_7) rfl ((if0 _ _).trans (feq q0).2) (by decide) (by decide) ?_
    show Steps p.tables e below (T1.setTop (mkF m 12 #[.val (.int p1), .val (.int p2), .val (.int p3), .val (.int p4), .unset, .unset, .unset, .unset] [])) _
    refine XS.iloadN X1.here hx rfl (hb hby d6_12) rfl ?_
    show Steps p.tables e below (T1.setTop (mkF m 13 #[.val (.int p1), .val (.int p2), .val (.int p3), .val (.int p4), .unset, .unset, .unset, .unset] [(.int p1)])) _
    refine XS.iloadN X1.here hx rfl (hb hby d6_13) rfl ?_
    show Steps p.tables e below (T1.setTop (mkF m 14 #[.val (.int p1), .val (.int p2), .val (.int p3), .val (.int p4), .unset, .unset, .unset, .unset] [(.int p2), (.int p1)])) _
    refine XS.iloadN X1.here hx rfl (hb hby d6_14) rfl ?_
    show Steps p.tables e below (T1.setTop (mkF m 15 #[.val (.int p1), .val (.int p2), .val (.int p3), .val (.int p4), .unset, .unset, .unset, .unset] [(.int p3), (.int p2), (.int p1)])) _
    refine XS.iloadN X1.here hx rfl (hb hby d6_15) rfl ?_
    show Steps p.tables e below (T1.setTop (mkF m 16 #[.val (.int p1), .val (.int p2), .val (.int p3), .val (.int p4), .unset, .unset, .unset, .unset] [(.int p4), (.int p3), (.int p2), (.int p1)])) _
    refine st2 _ ?_
    show Steps p.tables e below (T2.setTop (mkF m 19 #[.val (.int p1), .val (.int p2), .val (.int p3), .val (.int p4), .unset, .unset, .unset, .unset] [(.int (own_first p1 p2 p3 p4))])) _
    refine XS.istore X2.here hx rfl (hb hby d6_19) rfl (l' := #[.val (.int p1), .val (.int p2), .val (.int p3), .val (.int p4), .val (.int (own_first p1 p2 p3 p4)), .unset, .unset, .unset]) rfl ?_
    show Steps p.tables e below (T2.setTop (mkF m 21 #[.val (.int p1), .val (.int p2), .val (.int p3), .val (.int p4), .val (.int (own_first p1 p2 p3 p4)), .unset, .unset, .unset] [])) _
    refine XS.iconst X2.here hx rfl (hb hby d6_21) ?_
    show Steps p.tables e below (T2.setTop (mkF m 22 #[.val (.int p1), .val (.int p2), .val (.int p3), .val (.int p4), .val (.int (own_first p1 p2 p3 p4)), .unset, .unset, .unset] [(.int (0 : Int32))])) _
    refine XS.iloadN X2.here hx rfl (hb hby d6_22) rfl ?_
    show Steps p.tables e below (T2.setTop (mkF m 23 #[.val (.int p1), .val (.int p2), .val (.int p3), .val (.int p4), .val (.int (own_first p1 p2 p3 p4)), .unset, .unset, .unset] [(.int p2), (.int (0 : Int32))])) _
    refine XS.iloadN X2.here hx rfl (hb hby d6_23) rfl ?_
    show Steps p.tables e below (T2.setTop (mkF m 24 #[.val (.int p1), .val (.int p2), .val (.int p3), .val (.int p4), .val (.int (own_first p1 p2 p3 p4)), .unset, .unset, .unset] [(.int p3), (.int p2), (.int (0 : Int32))])) _
    refine XS.iloadN X2.here hx rfl (hb hby d6_24) rfl ?_
    show Steps p.tables e below (T2.setTop (mkF m 25 #[.val (.int p1), .val (.int p2), .val (.int p3), .val (.int p4), .val (.int (own_first p1 p2 p3 p4)), .unset, .unset, .unset] [(.int p4), (.int p3), (.int p2), (.int (0 : Int32))])) _
    refine st3 _ ?_
    show Steps p.tables e below (T3.setTop (mkF m 28 #[.val (.int p1), .val (.int p2), .val (.int p3), .val (.int p4), .val (.int (own_first p1 p2 p3 p4)), .unset, .unset, .unset] [(.int (own_first (0 : Int32) p2 p3 p4))])) _
    refine XS.iload X3.here hx rfl (hb hby d6_28) rfl ?_
    show Steps p.tables e below (T3.setTop (mkF m 30 #[.val (.int p1), .val (.int p2), .val (.int p3), .val (.int p4), .val (.int (own_first p1 p2 p3 p4)), .unset, .unset, .unset] [(.int (own_first p1 p2 p3 p4)), (.int (own_first (0 : Int32) p2 p3 p4))])) _
    refine XS.icmpYes X3.here hx rfl (pc0 := 30) (pc' := 43) rfl (hb hby d6_30) rfl (flt q1).2.1 (by decide) (by decide) ?_
    show Steps p.tables e below (T3.setTop (mkF m 43 #[.val (.int p1), .val (.int p2), .val (.int p3), .val (.int p4), .val (.int (own_first p1 p2 p3 p4)), .unset, .unset, .unset] [])) _
    refine XS.iconst X3.here hx rfl (hb hby d6_43) ?_
    show Steps p.tables e below (T3.setTop (mkF m 44 #[.val (.int p1), .val (.int p2), .val (.int p3), .val (.int p4), .val (.int (own_first p1 p2 p3 p4)), .unset, .unset, .unset] [(.int (0 : Int32))])) _
    refine XS.istore X3.here hx rfl (hb hby d6_44) rfl (l' := #[.val (.int p1), .val (.int p2), .val (.int p3), .val (.int p4), .val (.int (own_first p1 p2 p3 p4)), .val (.int (0 : Int32)), .unset, .unset]) rfl ?_
    show Steps p.tables e below (T3.setTop (mkF m 46 #[.val (.int p1), .val (.int p2), .val (.int p3), .val (.int p4), .val (.int (own_first p1 p2 p3 p4)), .val (.int (0 : Int32)), .unset, .unset] [])) _
    refine XS.iconst X3.here hx rfl (hb hby d6_46) ?_
    show Steps p.tables e below (T3.setTop (mkF m 47 #[.val (.int p1), .val (.int p2), .val (.int p3), .val (.int p4), .val (.int (own_first p1 p2 p3 p4)), .val (.int (0 : Int32)), .unset, .unset] [(.int (1 : Int32))])) _
    refine XS.iloadN X3.here hx rfl (hb hby d6_47) rfl ?_
    show Steps p.tables e below (T3.setTop (mkF m 48 #[.val (.int p1), .val (.int p2), .val (.int p3), .val (.int p4), .val (.int (own_first p1 p2 p3 p4)), .val (.int (0 : Int32)), .unset, .unset] [(.int p2), (.int (1 : Int32))])) _
    refine XS.iloadN X3.here hx rfl (hb hby d6_48) rfl ?_
    show Steps p.tables e below (T3.setTop (mkF m 49 #[.val (.int p1), .val (.int p2), .val (.int p3), .val (.int p4), .val (.int (own_first p1 p2 p3 p4)), .val (.int (0 : Int32)), .unset, .unset] [(.int p3), (.int p2), (.int (1 : Int32))])) _
    refine XS.iloadN X3.here hx rfl (hb hby d6_49) rfl ?_
    show Steps p.tables e below (T3.setTop (mkF m 50 #[.val (.int p1), .val (.int p2), .val (.int p3), .val (.int p4), .val (.int (own_first p1 p2 p3 p4)), .val (.int (0 : Int32)), .unset, .unset] [(.int p4), (.int p3), (.int p2), (.int (1 : Int32))])) _
    refine st4 _ ?_
    show Steps p.tables e below (T4.setTop (mkF m 53 #[.val (.int p1), .val (.int p2), .val (.int p3), .val (.int p4), .val (.int (own_first p1 p2 p3 p4)), .val (.int (0 : Int32)), .unset, .unset] [(.int (own_first (1 : Int32) p2 p3 p4))])) _
    refine XS.iload X4.here hx rfl (hb hby d6_53) rfl ?_
    show Steps p.tables e below (T4.setTop (mkF m 55 #[.val (.int p1), .val (.int p2), .val (.int p3), .val (.int p4), .val (.int (own_first p1 p2 p3 p4)), .val (.int (0 : Int32)), .unset, .unset] [(.int (own_first p1 p2 p3 p4)), (.int (own_first (1 : Int32) p2 p3 p4))])) _
    refine XS.icmpNo X4.here hx rfl (hb hby d6_55) rfl (tlt q2).2.1 ?_
    show Steps p.tables e below (T4.setTop (mkF m 58 #[.val (.int p1), .val (.int p2), .val (.int p3), .val (.int p4), .val (.int (own_first p1 p2 p3 p4)), .val (.int (0 : Int32)), .unset, .unset] [])) _
    refine XS.iconst X4.here hx rfl (hb hby d6_58) ?_
    show Steps p.tables e below (T4.setTop (mkF m 59 #[.val (.int p1), .val (.int p2), .val (.int p3), .val (.int p4), .val (.int (own_first p1 p2 p3 p4)), .val (.int (0 : Int32)), .unset, .unset] [(.int (1 : Int32))])) _
    refine XS.iloadN X4.here hx rfl (hb hby d6_59) rfl ?_
    show Steps p.tables e below (T4.setTop (mkF m 60 #[.val (.int p1), .val (.int p2), .val (.int p3), .val (.int p4), .val (.int (own_first p1 p2 p3 p4)), .val (.int (0 : Int32)), .unset, .unset] [(.int p2), (.int (1 : Int32))])) _
    refine XS.iloadN X4.here hx rfl (hb hby d6_60) rfl ?_
    show Steps p.tables e below (T4.setTop (mkF m 61 #[.val (.int p1), .val (.int p2), .val (.int p3), .val (.int p4), .val (.int (own_first p1 p2 p3 p4)), .val (.int (0 : Int32)), .unset, .unset] [(.int p3), (.int p2), (.int (1 : Int32))])) _
    refine XS.iloadN X4.here hx rfl (hb hby d6_61) rfl ?_
    show Steps p.tables e below (T4.setTop (mkF m 62 #[.val (.int p1), .val (.int p2), .val (.int p3), .val (.int p4), .val (.int (own_first p1 p2 p3 p4)), .val (.int (0 : Int32)), .unset, .unset] [(.int p4), (.int p3), (.int p2), (.int (1 : Int32))])) _
    refine st5 _ ?_
    show Steps p.tables e below (T5.setTop (mkF m 65 #[.val (.int p1), .val (.int p2), .val (.int p3), .val (.int p4), .val (.int (own_first p1 p2 p3 p4)), .val (.int (0 : Int32)), .unset, .unset] [(.int (own_cnt (1 : Int32) p2 p3 p4))])) _
    refine XS.goto X5.here hx rfl (pc0 := 65) (pc' := 69) rfl (hb hby d6_65) (by decide) (by decide) ?_
    show Steps p.tables e below (T5.setTop (mkF m 69 #[.val (.int p1), .val (.int p2), .val (.int p3), .val (.int p4), .val (.int (own_first p1 p2 p3 p4)), .val (.int (0 : Int32)), .unset, .unset] [(.int (own_cnt (1 : Int32) p2 p3 p4))])) _
    refine XS.istore X5.here hx rfl (hb hby d6_69) rfl (l' := #[.val (.int p1), .val (.int p2), .val (.int p3), .val (.int p4), .val (.int (own_first p1 p2 p3 p4)), .val (.int (0 : Int32)), .val (.int (own_cnt (1 : Int32) p2 p3 p4)), .unset]) rfl ?_
    show Steps p.tables e below (T5.setTop (mkF m 71 #[.val (.int p1), .val (.int p2), .val (.int p3), .val (.int p4), .val (.int (own_first p1 p2 p3 p4)), .val (.int (0 : Int32)), .val (.int (own_cnt (1 : Int32) p2 p3 p4)), .unset] [])) _
    refine XS.iconst X5.here hx rfl (hb hby d6_71) ?_
    show Steps p.tables e below (T5.setTop (mkF m 72 #[.val (.int p1), .val (.int p2), .val (.int p3), .val (.int p4), .val (.int (own_first p1 p2 p3 p4)), .val (.int (0 : Int32)), .val (.int (own_cnt (1 : Int32) p2 p3 p4)), .unset] [(.int (2 : Int32))])) _
    refine XS.iloadN X5.here hx rfl (hb hby d6_72) rfl ?_
    show Steps p.tables e below (T5.setTop (mkF m 73 #[.val (.int p1), .val (.int p2), .val (.int p3), .val (.int p4), .val (.int (own_first p1 p2 p3 p4)), .val (.int (0 : Int32)), .val (.int (own_cnt (1 : Int32) p2 p3 p4)), .unset] [(.int p2), (.int (2 : Int32))])) _
    refine XS.iloadN X5.here hx rfl (hb hby d6_73) rfl ?_
    show Steps p.tables e below (T5.setTop (mkF m 74 #[.val (.int p1), .val (.int p2), .val (.int p3), .val (.int p4), .val (.int (own_first p1 p2 p3 p4)), .val (.int (0 : Int32)), .val (.int (own_cnt (1 : Int32) p2 p3 p4)), .unset] [(.int p3), (.int p2), (.int (2 : Int32))])) _
    refine XS.iloadN X5.here hx rfl (hb hby d6_74) rfl ?_
    show Steps p.tables e below (T5.setTop (mkF m 75 #[.val (.int p1), .val (.int p2), .val (.int p3), .val (.int p4), .val (.int (own_first p1 p2 p3 p4)), .val (.int (0 : Int32)), .val (.int (own_cnt (1 : Int32) p2 p3 p4)), .unset] [(.int p4), (.int p3), (.int p2), (.int (2 : Int32))])) _
    refine st6 _ ?_
    show Steps p.tables e below (T6.setTop (mkF m 78 #[.val (.int p1), .val (.int p2), .val (.int p3), .val (.int p4), .val (.int (own_first p1 p2 p3 p4)), .val (.int (0 : Int32)), .val (.int (own_cnt (1 : Int32) p2 p3 p4)), .unset] [(.int (own_first (2 : Int32) p2 p3 p4))])) _
    refine XS.iload X6.here hx rfl (hb hby d6_78) rfl ?_
    show Steps p.tables e below (T6.setTop (mkF m 80 #[.val (.int p1), .val (.int p2), .val (.int p3), .val (.int p4), .val (.int (own_first p1 p2 p3 p4)), .val (.int (0 : Int32)), .val (.int (own_cnt (1 : Int32) p2 p3 p4)), .unset] [(.int (own_first p1 p2 p3 p4)), (.int (own_first (2 : Int32) p2 p3 p4))])) _
    refine XS.icmpNo X6.here hx rfl (hb hby d6_80) rfl (tlt q3).2.1 ?_
    show Steps p.tables e below (T6.setTop (mkF m 83 #[.val (.int p1), .val (.int p2), .val (.int p3), .val (.int p4), .val (.int (own_first p1 p2 p3 p4)), .val (.int (0 : Int32)), .val (.int (own_cnt (1 : Int32) p2 p3 p4)), .unset] [])) _
    refine XS.iconst X6.here hx rfl (hb hby d6_83) ?_
    show Steps p.tables e below (T6.setTop (mkF m 84 #[.val (.int p1), .val (.int p2), .val (.int p3), .val (.int p4), .val (.int (own_first p1 p2 p3 p4)), .val (.int (0 : Int32)), .val (.int (own_cnt (1 : Int32) p2 p3 p4)), .unset] [(.int (2 : Int32))])) _
    refine XS.iloadN X6.here hx rfl (hb hby d6_84) rfl ?_
    show Steps p.tables e below (T6.setTop (mkF m 85 #[.val (.int p1), .val (.int p2), .val (.int p3), .val (.int p4), .val (.int (own_first p1 p2 p3 p4)), .val (.int (0 : Int32)), .val (.int (own_cnt (1 : Int32) p2 p3 p4)), .unset] [(.int p2), (.int (2 : Int32))])) _
    refine XS.iloadN X6.here hx rfl (hb hby d6_85) rfl ?_
    show Steps p.tables e below (T6.setTop (mkF m 86 #[.val (.int p1), .val (.int p2), .val (.int p3), .val (.int p4), .val (.int (own_first p1 p2 p3 p4)), .val (.int (0 : Int32)), .val (.int (own_cnt (1 : Int32) p2 p3 p4)), .unset] [(.int p3), (.int p2), (.int (2 : Int32))])) _
    refine XS.iloadN X6.here hx rfl (hb hby d6_86) rfl ?_
    show Steps p.tables e below (T6.setTop (mkF m 87 #[.val (.int p1), .val (.int p2), .val (.int p3), .val (.int p4), .val (.int (own_first p1 p2 p3 p4)), .val (.int (0 : Int32)), .val (.int (own_cnt (1 : Int32) p2 p3 p4)), .unset] [(.int p4), (.int p3), (.int p2), (.int (2 : Int32))])) _
    refine st7 _ ?_
    show Steps p.tables e below (T7.setTop (mkF m 90 #[.val (.int p1), .val (.int p2), .val (.int p3), .val (.int p4), .val (.int (own_first p1 p2 p3 p4)), .val (.int (0 : Int32)), .val (.int (own_cnt (1 : Int32) p2 p3 p4)), .unset] [(.int (own_cnt (2 : Int32) p2 p3 p4))])) _
    refine XS.goto X7.here hx rfl (pc0 := 90) (pc' := 94) rfl (hb hby d6_90) (by decide) (by decide) ?_
    show Steps p.tables e below (T7.setTop (mkF m 94 #[.val (.int p1), .val (.int p2), .val (.int p3), .val (.int p4), .val (.int (own_first p1 p2 p3 p4)), .val (.int (0 : Int32)), .val (.int (own_cnt (1 : Int32) p2 p3 p4)), .unset] [(.int (own_cnt (2 : Int32) p2 p3 p4))])) _
    refine XS.istore X7.here hx rfl (hb hby d6_94) rfl (l' := #[.val (.int p1), .val (.int p2), .val (.int p3), .val (.int p4), .val (.int (own_first p1 p2 p3 p4)), .val (.int (0 : Int32)), .val (.int (own_cnt (1 : Int32) p2 p3 p4)), .val (.int (own_cnt (2 : Int32) p2 p3 p4))]) rfl ?_
    show Steps p.tables e below (T7.setTop (mkF m 96 #[.val (.int p1), .val (.int p2), .val (.int p3), .val (.int p4), .val (.int (own_first p1 p2 p3 p4)), .val (.int (0 : Int32)), .val (.int (own_cnt (1 : Int32) p2 p3 p4)), .val (.int (own_cnt (2 : Int32) p2 p3 p4))] [])) _
    refine XS.iload X7.here hx rfl (hb hby d6_96) rfl ?_
    show Steps p.tables e below (T7.setTop (mkF m 98 #[.val (.int p1), .val (.int p2), .val (.int p3), .val (.int p4), .val (.int (own_first p1 p2 p3 p4)), .val (.int (0 : Int32)), .val (.int (own_cnt (1 : Int32) p2 p3 p4)), .val (.int (own_cnt (2 : Int32) p2 p3 p4))] [(.int (0 : Int32))])) _
    refine XS.iload X7.here hx rfl (hb hby d6_98) rfl ?_
    show Steps p.tables e below (T7.setTop (mkF m 100 #[.val (.int p1), .val (.int p2), .val (.int p3), .val (.int p4), .val (.int (own_first p1 p2 p3 p4)), .val (.int (0 : Int32)), .val (.int (own_cnt (1 : Int32) p2 p3 p4)), .val (.int (own_cnt (2 : Int32) p2 p3 p4))] [(.int (own_cnt (1 : Int32) p2 p3 p4)), (.int (0 : Int32))])) _
    refine XS.iadd X7.here hx rfl (hb hby d6_100) rfl ?_
    show Steps p.tables e below (T7.setTop (mkF m 101 #[.val (.int p1), .val (.int p2), .val (.int p3), .val (.int p4), .val (.int (own_first p1 p2 p3 p4)), .val (.int (0 : Int32)), .val (.int (own_cnt (1 : Int32) p2 p3 p4)), .val (.int (own_cnt (2 : Int32) p2 p3 p4))] [(.int ((0 : Int32) + (own_cnt (1 : Int32) p2 p3 p4)))])) _
    refine XS.iload X7.here hx rfl (hb hby d6_101) rfl ?_
    show Steps p.tables e below (T7.setTop (mkF m 103 #[.val (.int p1), .val (.int p2), .val (.int p3), .val (.int p4), .val (.int (own_first p1 p2 p3 p4)), .val (.int (0 : Int32)), .val (.int (own_cnt (1 : Int32) p2 p3 p4)), .val (.int (own_cnt (2 : Int32) p2 p3 p4))] [(.int (own_cnt (2 : Int32) p2 p3 p4)), (.int ((0 : Int32) + (own_cnt (1 : Int32) p2 p3 p4)))])) _
    refine XS.iadd X7.here hx rfl (hb hby d6_103) rfl ?_
    show Steps p.tables e below (T7.setTop (mkF m 104 #[.val (.int p1), .val (.int p2), .val (.int p3), .val (.int p4), .val (.int (own_first p1 p2 p3 p4)), .val (.int (0 : Int32)), .val (.int (own_cnt (1 : Int32) p2 p3 p4)), .val (.int (own_cnt (2 : Int32) p2 p3 p4))] [(.int (((0 : Int32) + (own_cnt (1 : Int32) p2 p3 p4)) + (own_cnt (2 : Int32) p2 p3 p4)))])) _
    exact retI X7 hx Bd.returns (hb hby d6_104) hr
  · show Q6 Z p1 p2 p3 p4 h0 n0 _ T7.heap _
    rw [e7]
    have hm : own_ref p1 p2 p3 p4 = (((0 : Int32) + (own_cnt (1 : Int32) p2 p3 p4)) + (own_cnt (2 : Int32) p2 p3 p4)) := by unfold own_ref; rw [if_neg q0, if_neg q1, if_pos q2, if_pos q3]
    exact ⟨by rw [hm], N7, rfl⟩
set_option maxRecDepth 65536 in
set_option maxHeartbeats 40000000 in
theorem rm6_100 (l : Launch) (Z : State) (a0 : Array Value) (hw : ∀ d ∈ tables_1, d.before a0 Z = true) (ws : List Jvm.Cond) (p1 : Int32) (p2 : Int32) (p3 : Int32) (p4 : Int32) (h0 : Heap) (n0 : Nat) (Z0 : n0 ≤ h0.size) (q0 : ¬ (own_cnt p1 p2 p3 p4 = (0 : Int32))) (q1 : own_first (0 : Int32) p2 p3 p4 < own_first p1 p2 p3 p4) (q2 : ¬ (own_first (1 : Int32) p2 p3 p4 < own_first p1 p2 p3 p4)) (q3 : ¬ (own_first (2 : Int32) p2 p3 p4 < own_first p1 p2 p3 p4)) :
    MetFree l (⟨"com/example/prune/prune/mdp/ListsPlacePinLaw", "refStart", "(IIII)I"⟩ : MethodName) (head1 (Jvm.Cond.code (⟨"com/example/prune/prune/mdp/ListsPlacePinLaw", "refStart", "(IIII)I"⟩ : MethodName) method_4_code 8 (some .int) :: ws) ({ frames := 1, cells := 0, slots := 0, locals := 15 } : Room)) (fun a U => a = #[(.int p1), (.int p2), (.int p3), (.int p4)] ∧ Z.Warmed39 U.vm ∧ U.heap = h0) (fun _ _ _ _ _ => True) (fun _ U o U' => ∃ v L, o = .returned v ∧ Q6 Z p1 p2 p3 p4 h0 n0 v U'.heap L ∧ FrameEnd U o U' L ({ frames := 1, cells := 0, slots := 0, locals := 15 } : Room).cells ({ frames := 1, cells := 0, slots := 0, locals := 15 } : Room).slots) := by
  refine MetFree.of_bodySF (plainFor_of_name pn_6) hisR ?_
  intro p e s m args below meth c s₁ Bd hml0 hP hK
  obtain ⟨rfl, hZ, hh⟩ := hP
  have hx := Bd.exec
  have hby := Bd.bytes
  have hml : c.maxLocals = 8 := hml0
  have hown : s.vm.findClass "com/example/prune/prune/mdp/ListsPlacePinLaw" = some m.cls := findClass_of_methodNamed Bd.named
  have hnm := (name_of_methodNamed Bd.named Bd.method).1
  have X0 : Stand p l e ({ frames := 1, cells := 0, slots := 0, locals := 15 } : Room) s m #[(.int p1), (.int p2), (.int p3), (.int p4)] below meth c s₁ [] 0 0 := Stand.of_body Bd
  have e0 : s₁.heap = h0 := by rw [← hh, Bd.state]; rfl
  have N0 := Fr.nil n0
  have pre0 : ∀ t, Steps p.tables e below (s₁.setTop (mkF m 0 #[.val (.int p1), .val (.int p2), .val (.int p3), .val (.int p4), .unset, .unset, .unset, .unset] [])) t → Steps p.tables e below (s₁.setTop (entryFrame m #[(.int p1), (.int p2), (.int p3), (.int p4)] 8)) t := fun t k => castTop (ef_6 m p1 p2 p3 p4) k
  obtain ⟨_, _, ⟨T1, L1, k1, n1⟩, -, X1, ⟨Lc1, hQ1, l1, y1, z1⟩, st1⟩ := Jvm.LawKit.callS X0 hx (y := (⟨"com/example/prune/prune/mdp/ListsPlacePinLaw", "cnt", "(IIII)I"⟩ : MethodName)) hown (mvT hZ (hw _ (List.mem_of_getElem? (i := 39) rfl))) (mvT hZ (hw _ (List.mem_of_getElem? (i := 40) rfl))) (mvT hZ (hw _ (List.mem_of_getElem? (i := 37) rfl))) (mvT hZ (hw _ (List.mem_of_getElem? (i := 41) rfl))) (by decide) (backOf (W := 0) (rm7 l Z a0 hw [] p1 p2 p3 p4 h0 n0 Z0) hZ (hw _ (List.mem_of_getElem? (i := 41) rfl)) (hw _ (List.mem_of_getElem? (i := 37) rfl)) (by decide) (by decide)) (g := (mkF m 4 #[.val (.int p1), .val (.int p2), .val (.int p3), .val (.int p4), .unset, .unset, .unset, .unset] [(.int p4), (.int p3), (.int p2), (.int p1)])) rfl (by rw [hml]; rfl) (argsL := [(.int p1), (.int p2), (.int p3), (.int p4)]) (rest := []) (lenOf pd_6_0 rfl) rfl (by show 2 * 0 + _ ≤ _; exact Nat.le_of_eq rfl) (hb hby d6_4) (fun _ _ => ⟨rfl, e0, (by decide : 0 + 0 ≤ _), (by decide : 0 + 0 ≤ _)⟩)
  dsimp only [Pt.U, Pt.locs, Pt.cells, Pt.slots] at X1 l1 y1 z1 st1 hQ1
  subst l1 y1 z1
  obtain ⟨rfl, N1q, e1⟩ := hQ1
  have N1 := Fr.app N0 N1q
  obtain ⟨_, _, ⟨T2, L2, k2, n2⟩, -, X2, ⟨Lc2, hQ2, l2, y2, z2⟩, st2⟩ := Jvm.LawKit.callS X1 hx (y := (⟨"com/example/prune/prune/mdp/ListsPlacePinLaw", "first", "(IIII)I"⟩ : MethodName)) hown (mvT hZ (hw _ (List.mem_of_getElem? (i := 42) rfl))) (mvT hZ (hw _ (List.mem_of_getElem? (i := 43) rfl))) (mvT hZ (hw _ (List.mem_of_getElem? (i := 37) rfl))) (mvT hZ (hw _ (List.mem_of_getElem? (i := 44) rfl))) (by decide) (backOf (W := 0) (rm8 l Z a0 hw [] p1 p2 p3 p4 h0 n0 Z0) hZ (hw _ (List.mem_of_getElem? (i := 44) rfl)) (hw _ (List.mem_of_getElem? (i := 37) rfl)) (by decide) (by decide)) (g := (mkF m 16 #[.val (.int p1), .val (.int p2), .val (.int p3), .val (.int p4), .unset, .unset, .unset, .unset] [(.int p4), (.int p3), (.int p2), (.int p1)])) rfl (by rw [hml]; rfl) (argsL := [(.int p1), (.int p2), (.int p3), (.int p4)]) (rest := []) (lenOf pd_6_0 rfl) rfl (by show 2 * 0 + _ ≤ _; exact Nat.le_of_eq rfl) (hb hby d6_16) (fun _ _ => ⟨rfl, e1, (by decide : 0 + 0 ≤ _), (by decide : 0 + 0 ≤ _)⟩)
  dsimp only [Pt.U, Pt.locs, Pt.cells, Pt.slots] at X2 l2 y2 z2 st2 hQ2
  subst l2 y2 z2
  obtain ⟨rfl, N2q, e2⟩ := hQ2
  have N2 := Fr.app N1 N2q
  obtain ⟨_, _, ⟨T3, L3, k3, n3⟩, -, X3, ⟨Lc3, hQ3, l3, y3, z3⟩, st3⟩ := Jvm.LawKit.callS X2 hx (y := (⟨"com/example/prune/prune/mdp/ListsPlacePinLaw", "first", "(IIII)I"⟩ : MethodName)) hown (mvT hZ (hw _ (List.mem_of_getElem? (i := 42) rfl))) (mvT hZ (hw _ (List.mem_of_getElem? (i := 43) rfl))) (mvT hZ (hw _ (List.mem_of_getElem? (i := 37) rfl))) (mvT hZ (hw _ (List.mem_of_getElem? (i := 44) rfl))) (by decide) (backOf (W := 0) (rm8 l Z a0 hw [] (0 : Int32) p2 p3 p4 h0 n0 Z0) hZ (hw _ (List.mem_of_getElem? (i := 44) rfl)) (hw _ (List.mem_of_getElem? (i := 37) rfl)) (by decide) (by decide)) (g := (mkF m 25 #[.val (.int p1), .val (.int p2), .val (.int p3), .val (.int p4), .val (.int (own_first p1 p2 p3 p4)), .unset, .unset, .unset] [(.int p4), (.int p3), (.int p2), (.int (0 : Int32))])) rfl (by rw [hml]; rfl) (argsL := [(.int (0 : Int32)), (.int p2), (.int p3), (.int p4)]) (rest := []) (lenOf pd_6_0 rfl) rfl (by show 2 * 0 + _ ≤ _; exact Nat.le_of_eq rfl) (hb hby d6_25) (fun _ _ => ⟨rfl, e2, (by decide : 0 + 0 ≤ _), (by decide : 0 + 0 ≤ _)⟩)
  dsimp only [Pt.U, Pt.locs, Pt.cells, Pt.slots] at X3 l3 y3 z3 st3 hQ3
  subst l3 y3 z3
  obtain ⟨rfl, N3q, e3⟩ := hQ3
  have N3 := Fr.app N2 N3q
  obtain ⟨_, _, ⟨T4, L4, k4, n4⟩, -, X4, ⟨Lc4, hQ4, l4, y4, z4⟩, st4⟩ := Jvm.LawKit.callS X3 hx (y := (⟨"com/example/prune/prune/mdp/ListsPlacePinLaw", "cnt", "(IIII)I"⟩ : MethodName)) hown (mvT hZ (hw _ (List.mem_of_getElem? (i := 39) rfl))) (mvT hZ (hw _ (List.mem_of_getElem? (i := 40) rfl))) (mvT hZ (hw _ (List.mem_of_getElem? (i := 37) rfl))) (mvT hZ (hw _ (List.mem_of_getElem? (i := 41) rfl))) (by decide) (backOf (W := 0) (rm7 l Z a0 hw [] (0 : Int32) p2 p3 p4 h0 n0 Z0) hZ (hw _ (List.mem_of_getElem? (i := 41) rfl)) (hw _ (List.mem_of_getElem? (i := 37) rfl)) (by decide) (by decide)) (g := (mkF m 37 #[.val (.int p1), .val (.int p2), .val (.int p3), .val (.int p4), .val (.int (own_first p1 p2 p3 p4)), .unset, .unset, .unset] [(.int p4), (.int p3), (.int p2), (.int (0 : Int32))])) rfl (by rw [hml]; rfl) (argsL := [(.int (0 : Int32)), (.int p2), (.int p3), (.int p4)]) (rest := []) (lenOf pd_6_0 rfl) rfl (by show 2 * 0 + _ ≤ _; exact Nat.le_of_eq rfl) (hb hby d6_37) (fun _ _ => ⟨rfl, e3, (by decide : 0 + 0 ≤ _), (by decide : 0 + 0 ≤ _)⟩)
  dsimp only [Pt.U, Pt.locs, Pt.cells, Pt.slots] at X4 l4 y4 z4 st4 hQ4
  subst l4 y4 z4
  obtain ⟨rfl, N4q, e4⟩ := hQ4
  have N4 := Fr.app N3 N4q
  obtain ⟨_, _, ⟨T5, L5, k5, n5⟩, -, X5, ⟨Lc5, hQ5, l5, y5, z5⟩, st5⟩ := Jvm.LawKit.callS X4 hx (y := (⟨"com/example/prune/prune/mdp/ListsPlacePinLaw", "first", "(IIII)I"⟩ : MethodName)) hown (mvT hZ (hw _ (List.mem_of_getElem? (i := 42) rfl))) (mvT hZ (hw _ (List.mem_of_getElem? (i := 43) rfl))) (mvT hZ (hw _ (List.mem_of_getElem? (i := 37) rfl))) (mvT hZ (hw _ (List.mem_of_getElem? (i := 44) rfl))) (by decide) (backOf (W := 0) (rm8 l Z a0 hw [] (1 : Int32) p2 p3 p4 h0 n0 Z0) hZ (hw _ (List.mem_of_getElem? (i := 44) rfl)) (hw _ (List.mem_of_getElem? (i := 37) rfl)) (by decide) (by decide)) (g := (mkF m 50 #[.val (.int p1), .val (.int p2), .val (.int p3), .val (.int p4), .val (.int (own_first p1 p2 p3 p4)), .val (.int (own_cnt (0 : Int32) p2 p3 p4)), .unset, .unset] [(.int p4), (.int p3), (.int p2), (.int (1 : Int32))])) rfl (by rw [hml]; rfl) (argsL := [(.int (1 : Int32)), (.int p2), (.int p3), (.int p4)]) (rest := []) (lenOf pd_6_0 rfl) rfl (by show 2 * 0 + _ ≤ _; exact Nat.le_of_eq rfl) (hb hby d6_50) (fun _ _ => ⟨rfl, e4, (by decide : 0 + 0 ≤ _), (by decide : 0 + 0 ≤ _)⟩)
  dsimp only [Pt.U, Pt.locs, Pt.cells, Pt.slots] at X5 l5 y5 z5 st5 hQ5
  subst l5 y5 z5
  obtain ⟨rfl, N5q, e5⟩ := hQ5
  have N5 := Fr.app N4 N5q
  obtain ⟨_, _, ⟨T6, L6, k6, n6⟩, -, X6, ⟨Lc6, hQ6, l6, y6, z6⟩, st6⟩ := Jvm.LawKit.callS X5 hx (y := (⟨"com/example/prune/prune/mdp/ListsPlacePinLaw", "first", "(IIII)I"⟩ : MethodName)) hown (mvT hZ (hw _ (List.mem_of_getElem? (i := 42) rfl))) (mvT hZ (hw _ (List.mem_of_getElem? (i := 43) rfl))) (mvT hZ (hw _ (List.mem_of_getElem? (i := 37) rfl))) (mvT hZ (hw _ (List.mem_of_getElem? (i := 44) rfl))) (by decide) (backOf (W := 0) (rm8 l Z a0 hw [] (2 : Int32) p2 p3 p4 h0 n0 Z0) hZ (hw _ (List.mem_of_getElem? (i := 44) rfl)) (hw _ (List.mem_of_getElem? (i := 37) rfl)) (by decide) (by decide)) (g := (mkF m 75 #[.val (.int p1), .val (.int p2), .val (.int p3), .val (.int p4), .val (.int (own_first p1 p2 p3 p4)), .val (.int (own_cnt (0 : Int32) p2 p3 p4)), .val (.int (0 : Int32)), .unset] [(.int p4), (.int p3), (.int p2), (.int (2 : Int32))])) rfl (by rw [hml]; rfl) (argsL := [(.int (2 : Int32)), (.int p2), (.int p3), (.int p4)]) (rest := []) (lenOf pd_6_0 rfl) rfl (by show 2 * 0 + _ ≤ _; exact Nat.le_of_eq rfl) (hb hby d6_75) (fun _ _ => ⟨rfl, e5, (by decide : 0 + 0 ≤ _), (by decide : 0 + 0 ≤ _)⟩)
  dsimp only [Pt.U, Pt.locs, Pt.cells, Pt.slots] at X6 l6 y6 z6 st6 hQ6
  subst l6 y6 z6
  obtain ⟨rfl, N6q, e6⟩ := hQ6
  have N6 := Fr.app N5 N6q
  obtain ⟨fs, hr, hrun, hended, hW, hsame⟩ := X6.leave (v := some (.int (((own_cnt (0 : Int32) p2 p3 p4) + (0 : Int32)) + (0 : Int32)))) (fun h => by rw [Bd.returns] at h; cases h)
  refine ⟨_, _, pre0 _ ?_, hrun, hended, _, _, rfl, ?_, ⟨_, rfl⟩, hW, hsame.mono (by decide) (by decide)⟩
  · show Steps p.tables e below (s₁.setTop (mkF m 0 #[.val (.int p1), .val (.int p2), .val (.int p3), .val (.int p4), .unset, .unset, .unset, .unset] [])) _
    refine XS.iloadN X0.here hx rfl (hb hby d6_0) rfl ?_
    show Steps p.tables e below (s₁.setTop (mkF m 1 #[.val (.int p1), .val (.int p2), .val (.int p3), .val (.int p4), .unset, .unset, .unset, .unset] [(.int p1)])) _
    refine XS.iloadN X0.here hx rfl (hb hby d6_1) rfl ?_
    show Steps p.tables e below (s₁.setTop (mkF m 2 #[.val (.int p1), .val (.int p2), .val (.int p3), .val (.int p4), .unset, .unset, .unset, .unset] [(.int p2), (.int p1)])) _
    refine XS.iloadN X0.here hx rfl (hb hby d6_2) rfl ?_
    show Steps p.tables e below (s₁.setTop (mkF m 3 #[.val (.int p1), .val (.int p2), .val (.int p3), .val (.int p4), .unset, .unset, .unset, .unset] [(.int p3), (.int p2), (.int p1)])) _
    refine XS.iloadN X0.here hx rfl (hb hby d6_3) rfl ?_
    show Steps p.tables e below (s₁.setTop (mkF m 4 #[.val (.int p1), .val (.int p2), .val (.int p3), .val (.int p4), .unset, .unset, .unset, .unset] [(.int p4), (.int p3), (.int p2), (.int p1)])) _
    refine st1 _ ?_
    show Steps p.tables e below (T1.setTop (mkF m 7 #[.val (.int p1), .val (.int p2), .val (.int p3), .val (.int p4), .unset, .unset, .unset, .unset] [(.int (own_cnt p1 p2 p3 p4))])) _
    refine XS.ifYes X1.here hx rfl (pc0 := 7) (pc' := 12) rfl (hb hby d6_7) rfl ((if0 _ _).trans (feq q0).2) (by decide) (by decide) ?_
    show Steps p.tables e below (T1.setTop (mkF m 12 #[.val (.int p1), .val (.int p2), .val (.int p3), .val (.int p4), .unset, .unset, .unset, .unset] [])) _
    refine XS.iloadN X1.here hx rfl (hb hby d6_12) rfl ?_
    show Steps p.tables e below (T1.setTop (mkF m 13 #[.val (.int p1), .val (.int p2), .val (.int p3), .val (.int p4), .unset, .unset, .unset, .unset] [(.int p1)])) _
    refine XS.iloadN X1.here hx rfl (hb hby d6_13) rfl ?_
    show Steps p.tables e below (T1.setTop (mkF m 14 #[.val (.int p1), .val (.int p2), .val (.int p3), .val (.int p4), .unset, .unset, .unset, .unset] [(.int p2), (.int p1)])) _
    refine XS.iloadN X1.here hx rfl (hb hby d6_14) rfl ?_
    show Steps p.tables e below (T1.setTop (mkF m 15 #[.val (.int p1), .val (.int p2), .val (.int p3), .val (.int p4), .unset, .unset, .unset, .unset] [(.int p3), (.int p2), (.int p1)])) _
    refine XS.iloadN X1.here hx rfl (hb hby d6_15) rfl ?_
    show Steps p.tables e below (T1.setTop (mkF m 16 #[.val (.int p1), .val (.int p2), .val (.int p3), .val (.int p4), .unset, .unset, .unset, .unset] [(.int p4), (.int p3), (.int p2), (.int p1)])) _
    refine st2 _ ?_
    show Steps p.tables e below (T2.setTop (mkF m 19 #[.val (.int p1), .val (.int p2), .val (.int p3), .val (.int p4), .unset, .unset, .unset, .unset] [(.int (own_first p1 p2 p3 p4))])) _
    refine XS.istore X2.here hx rfl (hb hby d6_19) rfl (l' := #[.val (.int p1), .val (.int p2), .val (.int p3), .val (.int p4), .val (.int (own_first p1 p2 p3 p4)), .unset, .unset, .unset]) rfl ?_
    show Steps p.tables e below (T2.setTop (mkF m 21 #[.val (.int p1), .val (.int p2), .val (.int p3), .val (.int p4), .val (.int (own_first p1 p2 p3 p4)), .unset, .unset, .unset] [])) _
    refine XS.iconst X2.here hx rfl (hb hby d6_21) ?_
    show Steps p.tables e below (T2.setTop (mkF m 22 #[.val (.int p1), .val (.int p2), .val (.int p3), .val (.int p4), .val (.int (own_first p1 p2 p3 p4)), .unset, .unset, .unset] [(.int (0 : Int32))])) _
    refine XS.iloadN X2.here hx rfl (hb hby d6_22) rfl ?_
    show Steps p.tables e below (T2.setTop (mkF m 23 #[.val (.int p1), .val (.int p2), .val (.int p3), .val (.int p4), .val (.int (own_first p1 p2 p3 p4)), .unset, .unset, .unset] [(.int p2), (.int (0 : Int32))])) _
    refine XS.iloadN X2.here hx rfl (hb hby d6_23) rfl ?_
    show Steps p.tables e below (T2.setTop (mkF m 24 #[.val (.int p1), .val (.int p2), .val (.int p3), .val (.int p4), .val (.int (own_first p1 p2 p3 p4)), .unset, .unset, .unset] [(.int p3), (.int p2), (.int (0 : Int32))])) _
    refine XS.iloadN X2.here hx rfl (hb hby d6_24) rfl ?_
    show Steps p.tables e below (T2.setTop (mkF m 25 #[.val (.int p1), .val (.int p2), .val (.int p3), .val (.int p4), .val (.int (own_first p1 p2 p3 p4)), .unset, .unset, .unset] [(.int p4), (.int p3), (.int p2), (.int (0 : Int32))])) _
    refine st3 _ ?_
    show Steps p.tables e below (T3.setTop (mkF m 28 #[.val (.int p1), .val (.int p2), .val (.int p3), .val (.int p4), .val (.int (own_first p1 p2 p3 p4)), .unset, .unset, .unset] [(.int (own_first (0 : Int32) p2 p3 p4))])) _
    refine XS.iload X3.here hx rfl (hb hby d6_28) rfl ?_
    show Steps p.tables e below (T3.setTop (mkF m 30 #[.val (.int p1), .val (.int p2), .val (.int p3), .val (.int p4), .val (.int (own_first p1 p2 p3 p4)), .unset, .unset, .unset] [(.int (own_first p1 p2 p3 p4)), (.int (own_first (0 : Int32) p2 p3 p4))])) _
    refine XS.icmpNo X3.here hx rfl (hb hby d6_30) rfl (tlt q1).2.1 ?_
    show Steps p.tables e below (T3.setTop (mkF m 33 #[.val (.int p1), .val (.int p2), .val (.int p3), .val (.int p4), .val (.int (own_first p1 p2 p3 p4)), .unset, .unset, .unset] [])) _
    refine XS.iconst X3.here hx rfl (hb hby d6_33) ?_
    show Steps p.tables e below (T3.setTop (mkF m 34 #[.val (.int p1), .val (.int p2), .val (.int p3), .val (.int p4), .val (.int (own_first p1 p2 p3 p4)), .unset, .unset, .unset] [(.int (0 : Int32))])) _
    refine XS.iloadN X3.here hx rfl (hb hby d6_34) rfl ?_
    show Steps p.tables e below (T3.setTop (mkF m 35 #[.val (.int p1), .val (.int p2), .val (.int p3), .val (.int p4), .val (.int (own_first p1 p2 p3 p4)), .unset, .unset, .unset] [(.int p2), (.int (0 : Int32))])) _
    refine XS.iloadN X3.here hx rfl (hb hby d6_35) rfl ?_
    show Steps p.tables e below (T3.setTop (mkF m 36 #[.val (.int p1), .val (.int p2), .val (.int p3), .val (.int p4), .val (.int (own_first p1 p2 p3 p4)), .unset, .unset, .unset] [(.int p3), (.int p2), (.int (0 : Int32))])) _
    refine XS.iloadN X3.here hx rfl (hb hby d6_36) rfl ?_
    show Steps p.tables e below (T3.setTop (mkF m 37 #[.val (.int p1), .val (.int p2), .val (.int p3), .val (.int p4), .val (.int (own_first p1 p2 p3 p4)), .unset, .unset, .unset] [(.int p4), (.int p3), (.int p2), (.int (0 : Int32))])) _
    refine st4 _ ?_
    show Steps p.tables e below (T4.setTop (mkF m 40 #[.val (.int p1), .val (.int p2), .val (.int p3), .val (.int p4), .val (.int (own_first p1 p2 p3 p4)), .unset, .unset, .unset] [(.int (own_cnt (0 : Int32) p2 p3 p4))])) _
    refine XS.goto X4.here hx rfl (pc0 := 40) (pc' := 44) rfl (hb hby d6_40) (by decide) (by decide) ?_
    show Steps p.tables e below (T4.setTop (mkF m 44 #[.val (.int p1), .val (.int p2), .val (.int p3), .val (.int p4), .val (.int (own_first p1 p2 p3 p4)), .unset, .unset, .unset] [(.int (own_cnt (0 : Int32) p2 p3 p4))])) _
    refine XS.istore X4.here hx rfl (hb hby d6_44) rfl (l' := #[.val (.int p1), .val (.int p2), .val (.int p3), .val (.int p4), .val (.int (own_first p1 p2 p3 p4)), .val (.int (own_cnt (0 : Int32) p2 p3 p4)), .unset, .unset]) rfl ?_
    show Steps p.tables e below (T4.setTop (mkF m 46 #[.val (.int p1), .val (.int p2), .val (.int p3), .val (.int p4), .val (.int (own_first p1 p2 p3 p4)), .val (.int (own_cnt (0 : Int32) p2 p3 p4)), .unset, .unset] [])) _
    refine XS.iconst X4.here hx rfl (hb hby d6_46) ?_
    show Steps p.tables e below (T4.setTop (mkF m 47 #[.val (.int p1), .val (.int p2), .val (.int p3), .val (.int p4), .val (.int (own_first p1 p2 p3 p4)), .val (.int (own_cnt (0 : Int32) p2 p3 p4)), .unset, .unset] [(.int (1 : Int32))])) _
    refine XS.iloadN X4.here hx rfl (hb hby d6_47) rfl ?_
    show Steps p.tables e below (T4.setTop (mkF m 48 #[.val (.int p1), .val (.int p2), .val (.int p3), .val (.int p4), .val (.int (own_first p1 p2 p3 p4)), .val (.int (own_cnt (0 : Int32) p2 p3 p4)), .unset, .unset] [(.int p2), (.int (1 : Int32))])) _
    refine XS.iloadN X4.here hx rfl (hb hby d6_48) rfl ?_
    show Steps p.tables e below (T4.setTop (mkF m 49 #[.val (.int p1), .val (.int p2), .val (.int p3), .val (.int p4), .val (.int (own_first p1 p2 p3 p4)), .val (.int (own_cnt (0 : Int32) p2 p3 p4)), .unset, .unset] [(.int p3), (.int p2), (.int (1 : Int32))])) _
    refine XS.iloadN X4.here hx rfl (hb hby d6_49) rfl ?_
    show Steps p.tables e below (T4.setTop (mkF m 50 #[.val (.int p1), .val (.int p2), .val (.int p3), .val (.int p4), .val (.int (own_first p1 p2 p3 p4)), .val (.int (own_cnt (0 : Int32) p2 p3 p4)), .unset, .unset] [(.int p4), (.int p3), (.int p2), (.int (1 : Int32))])) _
    refine st5 _ ?_
    show Steps p.tables e below (T5.setTop (mkF m 53 #[.val (.int p1), .val (.int p2), .val (.int p3), .val (.int p4), .val (.int (own_first p1 p2 p3 p4)), .val (.int (own_cnt (0 : Int32) p2 p3 p4)), .unset, .unset] [(.int (own_first (1 : Int32) p2 p3 p4))])) _
    refine XS.iload X5.here hx rfl (hb hby d6_53) rfl ?_
    show Steps p.tables e below (T5.setTop (mkF m 55 #[.val (.int p1), .val (.int p2), .val (.int p3), .val (.int p4), .val (.int (own_first p1 p2 p3 p4)), .val (.int (own_cnt (0 : Int32) p2 p3 p4)), .unset, .unset] [(.int (own_first p1 p2 p3 p4)), (.int (own_first (1 : Int32) p2 p3 p4))])) _
    refine XS.icmpYes X5.here hx rfl (pc0 := 55) (pc' := 68) rfl (hb hby d6_55) rfl (flt q2).2.1 (by decide) (by decide) ?_
    show Steps p.tables e below (T5.setTop (mkF m 68 #[.val (.int p1), .val (.int p2), .val (.int p3), .val (.int p4), .val (.int (own_first p1 p2 p3 p4)), .val (.int (own_cnt (0 : Int32) p2 p3 p4)), .unset, .unset] [])) _
    refine XS.iconst X5.here hx rfl (hb hby d6_68) ?_
    show Steps p.tables e below (T5.setTop (mkF m 69 #[.val (.int p1), .val (.int p2), .val (.int p3), .val (.int p4), .val (.int (own_first p1 p2 p3 p4)), .val (.int (own_cnt (0 : Int32) p2 p3 p4)), .unset, .unset] [(.int (0 : Int32))])) _
    refine XS.istore X5.here hx rfl (hb hby d6_69) rfl (l' := #[.val (.int p1), .val (.int p2), .val (.int p3), .val (.int p4), .val (.int (own_first p1 p2 p3 p4)), .val (.int (own_cnt (0 : Int32) p2 p3 p4)), .val (.int (0 : Int32)), .unset]) rfl ?_
    show Steps p.tables e below (T5.setTop (mkF m 71 #[.val (.int p1), .val (.int p2), .val (.int p3), .val (.int p4), .val (.int (own_first p1 p2 p3 p4)), .val (.int (own_cnt (0 : Int32) p2 p3 p4)), .val (.int (0 : Int32)), .unset] [])) _
    refine XS.iconst X5.here hx rfl (hb hby d6_71) ?_
    show Steps p.tables e below (T5.setTop (mkF m 72 #[.val (.int p1), .val (.int p2), .val (.int p3), .val (.int p4), .val (.int (own_first p1 p2 p3 p4)), .val (.int (own_cnt (0 : Int32) p2 p3 p4)), .val (.int (0 : Int32)), .unset] [(.int (2 : Int32))])) _
    refine XS.iloadN X5.here hx rfl (hb hby d6_72) rfl ?_
    show Steps p.tables e below (T5.setTop (mkF m 73 #[.val (.int p1), .val (.int p2), .val (.int p3), .val (.int p4), .val (.int (own_first p1 p2 p3 p4)), .val (.int (own_cnt (0 : Int32) p2 p3 p4)), .val (.int (0 : Int32)), .unset] [(.int p2), (.int (2 : Int32))])) _
    refine XS.iloadN X5.here hx rfl (hb hby d6_73) rfl ?_
    show Steps p.tables e below (T5.setTop (mkF m 74 #[.val (.int p1), .val (.int p2), .val (.int p3), .val (.int p4), .val (.int (own_first p1 p2 p3 p4)), .val (.int (own_cnt (0 : Int32) p2 p3 p4)), .val (.int (0 : Int32)), .unset] [(.int p3), (.int p2), (.int (2 : Int32))])) _
    refine XS.iloadN X5.here hx rfl (hb hby d6_74) rfl ?_
    show Steps p.tables e below (T5.setTop (mkF m 75 #[.val (.int p1), .val (.int p2), .val (.int p3), .val (.int p4), .val (.int (own_first p1 p2 p3 p4)), .val (.int (own_cnt (0 : Int32) p2 p3 p4)), .val (.int (0 : Int32)), .unset] [(.int p4), (.int p3), (.int p2), (.int (2 : Int32))])) _
    refine st6 _ ?_
    show Steps p.tables e below (T6.setTop (mkF m 78 #[.val (.int p1), .val (.int p2), .val (.int p3), .val (.int p4), .val (.int (own_first p1 p2 p3 p4)), .val (.int (own_cnt (0 : Int32) p2 p3 p4)), .val (.int (0 : Int32)), .unset] [(.int (own_first (2 : Int32) p2 p3 p4))])) _
    refine XS.iload X6.here hx rfl (hb hby d6_78) rfl ?_
    show Steps p.tables e below (T6.setTop (mkF m 80 #[.val (.int p1), .val (.int p2), .val (.int p3), .val (.int p4), .val (.int (own_first p1 p2 p3 p4)), .val (.int (own_cnt (0 : Int32) p2 p3 p4)), .val (.int (0 : Int32)), .unset] [(.int (own_first p1 p2 p3 p4)), (.int (own_first (2 : Int32) p2 p3 p4))])) _
    refine XS.icmpYes X6.here hx rfl (pc0 := 80) (pc' := 93) rfl (hb hby d6_80) rfl (flt q3).2.1 (by decide) (by decide) ?_
    show Steps p.tables e below (T6.setTop (mkF m 93 #[.val (.int p1), .val (.int p2), .val (.int p3), .val (.int p4), .val (.int (own_first p1 p2 p3 p4)), .val (.int (own_cnt (0 : Int32) p2 p3 p4)), .val (.int (0 : Int32)), .unset] [])) _
    refine XS.iconst X6.here hx rfl (hb hby d6_93) ?_
    show Steps p.tables e below (T6.setTop (mkF m 94 #[.val (.int p1), .val (.int p2), .val (.int p3), .val (.int p4), .val (.int (own_first p1 p2 p3 p4)), .val (.int (own_cnt (0 : Int32) p2 p3 p4)), .val (.int (0 : Int32)), .unset] [(.int (0 : Int32))])) _
    refine XS.istore X6.here hx rfl (hb hby d6_94) rfl (l' := #[.val (.int p1), .val (.int p2), .val (.int p3), .val (.int p4), .val (.int (own_first p1 p2 p3 p4)), .val (.int (own_cnt (0 : Int32) p2 p3 p4)), .val (.int (0 : Int32)), .val (.int (0 : Int32))]) rfl ?_
    show Steps p.tables e below (T6.setTop (mkF m 96 #[.val (.int p1), .val (.int p2), .val (.int p3), .val (.int p4), .val (.int (own_first p1 p2 p3 p4)), .val (.int (own_cnt (0 : Int32) p2 p3 p4)), .val (.int (0 : Int32)), .val (.int (0 : Int32))] [])) _
    refine XS.iload X6.here hx rfl (hb hby d6_96) rfl ?_
    show Steps p.tables e below (T6.setTop (mkF m 98 #[.val (.int p1), .val (.int p2), .val (.int p3), .val (.int p4), .val (.int (own_first p1 p2 p3 p4)), .val (.int (own_cnt (0 : Int32) p2 p3 p4)), .val (.int (0 : Int32)), .val (.int (0 : Int32))] [(.int (own_cnt (0 : Int32) p2 p3 p4))])) _
    refine XS.iload X6.here hx rfl (hb hby d6_98) rfl ?_
    show Steps p.tables e below (T6.setTop (mkF m 100 #[.val (.int p1), .val (.int p2), .val (.int p3), .val (.int p4), .val (.int (own_first p1 p2 p3 p4)), .val (.int (own_cnt (0 : Int32) p2 p3 p4)), .val (.int (0 : Int32)), .val (.int (0 : Int32))] [(.int (0 : Int32)), (.int (own_cnt (0 : Int32) p2 p3 p4))])) _
    refine XS.iadd X6.here hx rfl (hb hby d6_100) rfl ?_
    show Steps p.tables e below (T6.setTop (mkF m 101 #[.val (.int p1), .val (.int p2), .val (.int p3), .val (.int p4), .val (.int (own_first p1 p2 p3 p4)), .val (.int (own_cnt (0 : Int32) p2 p3 p4)), .val (.int (0 : Int32)), .val (.int (0 : Int32))] [(.int ((own_cnt (0 : Int32) p2 p3 p4) + (0 : Int32)))])) _
    refine XS.iload X6.here hx rfl (hb hby d6_101) rfl ?_
    show Steps p.tables e below (T6.setTop (mkF m 103 #[.val (.int p1), .val (.int p2), .val (.int p3), .val (.int p4), .val (.int (own_first p1 p2 p3 p4)), .val (.int (own_cnt (0 : Int32) p2 p3 p4)), .val (.int (0 : Int32)), .val (.int (0 : Int32))] [(.int (0 : Int32)), (.int ((own_cnt (0 : Int32) p2 p3 p4) + (0 : Int32)))])) _
    refine XS.iadd X6.here hx rfl (hb hby d6_103) rfl ?_
    show Steps p.tables e below (T6.setTop (mkF m 104 #[.val (.int p1), .val (.int p2), .val (.int p3), .val (.int p4), .val (.int (own_first p1 p2 p3 p4)), .val (.int (own_cnt (0 : Int32) p2 p3 p4)), .val (.int (0 : Int32)), .val (.int (0 : Int32))] [(.int (((own_cnt (0 : Int32) p2 p3 p4) + (0 : Int32)) + (0 : Int32)))])) _
    exact retI X6 hx Bd.returns (hb hby d6_104) hr
  · show Q6 Z p1 p2 p3 p4 h0 n0 _ T6.heap _
    rw [e6]
    have hm : own_ref p1 p2 p3 p4 = (((own_cnt (0 : Int32) p2 p3 p4) + (0 : Int32)) + (0 : Int32)) := by unfold own_ref; rw [if_neg q0, if_pos q1, if_neg q2, if_neg q3]
    exact ⟨by rw [hm], N6, rfl⟩
set_option maxRecDepth 65536 in
set_option maxHeartbeats 40000000 in
theorem rm6_101 (l : Launch) (Z : State) (a0 : Array Value) (hw : ∀ d ∈ tables_1, d.before a0 Z = true) (ws : List Jvm.Cond) (p1 : Int32) (p2 : Int32) (p3 : Int32) (p4 : Int32) (h0 : Heap) (n0 : Nat) (Z0 : n0 ≤ h0.size) (q0 : ¬ (own_cnt p1 p2 p3 p4 = (0 : Int32))) (q1 : own_first (0 : Int32) p2 p3 p4 < own_first p1 p2 p3 p4) (q2 : ¬ (own_first (1 : Int32) p2 p3 p4 < own_first p1 p2 p3 p4)) (q3 : own_first (2 : Int32) p2 p3 p4 < own_first p1 p2 p3 p4) :
    MetFree l (⟨"com/example/prune/prune/mdp/ListsPlacePinLaw", "refStart", "(IIII)I"⟩ : MethodName) (head1 (Jvm.Cond.code (⟨"com/example/prune/prune/mdp/ListsPlacePinLaw", "refStart", "(IIII)I"⟩ : MethodName) method_4_code 8 (some .int) :: ws) ({ frames := 1, cells := 0, slots := 0, locals := 15 } : Room)) (fun a U => a = #[(.int p1), (.int p2), (.int p3), (.int p4)] ∧ Z.Warmed39 U.vm ∧ U.heap = h0) (fun _ _ _ _ _ => True) (fun _ U o U' => ∃ v L, o = .returned v ∧ Q6 Z p1 p2 p3 p4 h0 n0 v U'.heap L ∧ FrameEnd U o U' L ({ frames := 1, cells := 0, slots := 0, locals := 15 } : Room).cells ({ frames := 1, cells := 0, slots := 0, locals := 15 } : Room).slots) := by
  refine MetFree.of_bodySF (plainFor_of_name pn_6) hisR ?_
  intro p e s m args below meth c s₁ Bd hml0 hP hK
  obtain ⟨rfl, hZ, hh⟩ := hP
  have hx := Bd.exec
  have hby := Bd.bytes
  have hml : c.maxLocals = 8 := hml0
  have hown : s.vm.findClass "com/example/prune/prune/mdp/ListsPlacePinLaw" = some m.cls := findClass_of_methodNamed Bd.named
  have hnm := (name_of_methodNamed Bd.named Bd.method).1
  have X0 : Stand p l e ({ frames := 1, cells := 0, slots := 0, locals := 15 } : Room) s m #[(.int p1), (.int p2), (.int p3), (.int p4)] below meth c s₁ [] 0 0 := Stand.of_body Bd
  have e0 : s₁.heap = h0 := by rw [← hh, Bd.state]; rfl
  have N0 := Fr.nil n0
  have pre0 : ∀ t, Steps p.tables e below (s₁.setTop (mkF m 0 #[.val (.int p1), .val (.int p2), .val (.int p3), .val (.int p4), .unset, .unset, .unset, .unset] [])) t → Steps p.tables e below (s₁.setTop (entryFrame m #[(.int p1), (.int p2), (.int p3), (.int p4)] 8)) t := fun t k => castTop (ef_6 m p1 p2 p3 p4) k
  obtain ⟨_, _, ⟨T1, L1, k1, n1⟩, -, X1, ⟨Lc1, hQ1, l1, y1, z1⟩, st1⟩ := Jvm.LawKit.callS X0 hx (y := (⟨"com/example/prune/prune/mdp/ListsPlacePinLaw", "cnt", "(IIII)I"⟩ : MethodName)) hown (mvT hZ (hw _ (List.mem_of_getElem? (i := 39) rfl))) (mvT hZ (hw _ (List.mem_of_getElem? (i := 40) rfl))) (mvT hZ (hw _ (List.mem_of_getElem? (i := 37) rfl))) (mvT hZ (hw _ (List.mem_of_getElem? (i := 41) rfl))) (by decide) (backOf (W := 0) (rm7 l Z a0 hw [] p1 p2 p3 p4 h0 n0 Z0) hZ (hw _ (List.mem_of_getElem? (i := 41) rfl)) (hw _ (List.mem_of_getElem? (i := 37) rfl)) (by decide) (by decide)) (g := (mkF m 4 #[.val (.int p1), .val (.int p2), .val (.int p3), .val (.int p4), .unset, .unset, .unset, .unset] [(.int p4), (.int p3), (.int p2), (.int p1)])) rfl (by rw [hml]; rfl) (argsL := [(.int p1), (.int p2), (.int p3), (.int p4)]) (rest := []) (lenOf pd_6_0 rfl) rfl (by show 2 * 0 + _ ≤ _; exact Nat.le_of_eq rfl) (hb hby d6_4) (fun _ _ => ⟨rfl, e0, (by decide : 0 + 0 ≤ _), (by decide : 0 + 0 ≤ _)⟩)
  dsimp only [Pt.U, Pt.locs, Pt.cells, Pt.slots] at X1 l1 y1 z1 st1 hQ1
  subst l1 y1 z1
  obtain ⟨rfl, N1q, e1⟩ := hQ1
  have N1 := Fr.app N0 N1q
  obtain ⟨_, _, ⟨T2, L2, k2, n2⟩, -, X2, ⟨Lc2, hQ2, l2, y2, z2⟩, st2⟩ := Jvm.LawKit.callS X1 hx (y := (⟨"com/example/prune/prune/mdp/ListsPlacePinLaw", "first", "(IIII)I"⟩ : MethodName)) hown (mvT hZ (hw _ (List.mem_of_getElem? (i := 42) rfl))) (mvT hZ (hw _ (List.mem_of_getElem? (i := 43) rfl))) (mvT hZ (hw _ (List.mem_of_getElem? (i := 37) rfl))) (mvT hZ (hw _ (List.mem_of_getElem? (i := 44) rfl))) (by decide) (backOf (W := 0) (rm8 l Z a0 hw [] p1 p2 p3 p4 h0 n0 Z0) hZ (hw _ (List.mem_of_getElem? (i := 44) rfl)) (hw _ (List.mem_of_getElem? (i := 37) rfl)) (by decide) (by decide)) (g := (mkF m 16 #[.val (.int p1), .val (.int p2), .val (.int p3), .val (.int p4), .unset, .unset, .unset, .unset] [(.int p4), (.int p3), (.int p2), (.int p1)])) rfl (by rw [hml]; rfl) (argsL := [(.int p1), (.int p2), (.int p3), (.int p4)]) (rest := []) (lenOf pd_6_0 rfl) rfl (by show 2 * 0 + _ ≤ _; exact Nat.le_of_eq rfl) (hb hby d6_16) (fun _ _ => ⟨rfl, e1, (by decide : 0 + 0 ≤ _), (by decide : 0 + 0 ≤ _)⟩)
  dsimp only [Pt.U, Pt.locs, Pt.cells, Pt.slots] at X2 l2 y2 z2 st2 hQ2
  subst l2 y2 z2
  obtain ⟨rfl, N2q, e2⟩ := hQ2
  have N2 := Fr.app N1 N2q
  obtain ⟨_, _, ⟨T3, L3, k3, n3⟩, -, X3, ⟨Lc3, hQ3, l3, y3, z3⟩, st3⟩ := Jvm.LawKit.callS X2 hx (y := (⟨"com/example/prune/prune/mdp/ListsPlacePinLaw", "first", "(IIII)I"⟩ : MethodName)) hown (mvT hZ (hw _ (List.mem_of_getElem? (i := 42) rfl))) (mvT hZ (hw _ (List.mem_of_getElem? (i := 43) rfl))) (mvT hZ (hw _ (List.mem_of_getElem? (i := 37) rfl))) (mvT hZ (hw _ (List.mem_of_getElem? (i := 44) rfl))) (by decide) (backOf (W := 0) (rm8 l Z a0 hw [] (0 : Int32) p2 p3 p4 h0 n0 Z0) hZ (hw _ (List.mem_of_getElem? (i := 44) rfl)) (hw _ (List.mem_of_getElem? (i := 37) rfl)) (by decide) (by decide)) (g := (mkF m 25 #[.val (.int p1), .val (.int p2), .val (.int p3), .val (.int p4), .val (.int (own_first p1 p2 p3 p4)), .unset, .unset, .unset] [(.int p4), (.int p3), (.int p2), (.int (0 : Int32))])) rfl (by rw [hml]; rfl) (argsL := [(.int (0 : Int32)), (.int p2), (.int p3), (.int p4)]) (rest := []) (lenOf pd_6_0 rfl) rfl (by show 2 * 0 + _ ≤ _; exact Nat.le_of_eq rfl) (hb hby d6_25) (fun _ _ => ⟨rfl, e2, (by decide : 0 + 0 ≤ _), (by decide : 0 + 0 ≤ _)⟩)
  dsimp only [Pt.U, Pt.locs, Pt.cells, Pt.slots] at X3 l3 y3 z3 st3 hQ3
  subst l3 y3 z3
  obtain ⟨rfl, N3q, e3⟩ := hQ3
  have N3 := Fr.app N2 N3q
  obtain ⟨_, _, ⟨T4, L4, k4, n4⟩, -, X4, ⟨Lc4, hQ4, l4, y4, z4⟩, st4⟩ := Jvm.LawKit.callS X3 hx (y := (⟨"com/example/prune/prune/mdp/ListsPlacePinLaw", "cnt", "(IIII)I"⟩ : MethodName)) hown (mvT hZ (hw _ (List.mem_of_getElem? (i := 39) rfl))) (mvT hZ (hw _ (List.mem_of_getElem? (i := 40) rfl))) (mvT hZ (hw _ (List.mem_of_getElem? (i := 37) rfl))) (mvT hZ (hw _ (List.mem_of_getElem? (i := 41) rfl))) (by decide) (backOf (W := 0) (rm7 l Z a0 hw [] (0 : Int32) p2 p3 p4 h0 n0 Z0) hZ (hw _ (List.mem_of_getElem? (i := 41) rfl)) (hw _ (List.mem_of_getElem? (i := 37) rfl)) (by decide) (by decide)) (g := (mkF m 37 #[.val (.int p1), .val (.int p2), .val (.int p3), .val (.int p4), .val (.int (own_first p1 p2 p3 p4)), .unset, .unset, .unset] [(.int p4), (.int p3), (.int p2), (.int (0 : Int32))])) rfl (by rw [hml]; rfl) (argsL := [(.int (0 : Int32)), (.int p2), (.int p3), (.int p4)]) (rest := []) (lenOf pd_6_0 rfl) rfl (by show 2 * 0 + _ ≤ _; exact Nat.le_of_eq rfl) (hb hby d6_37) (fun _ _ => ⟨rfl, e3, (by decide : 0 + 0 ≤ _), (by decide : 0 + 0 ≤ _)⟩)
  dsimp only [Pt.U, Pt.locs, Pt.cells, Pt.slots] at X4 l4 y4 z4 st4 hQ4
  subst l4 y4 z4
  obtain ⟨rfl, N4q, e4⟩ := hQ4
  have N4 := Fr.app N3 N4q
  obtain ⟨_, _, ⟨T5, L5, k5, n5⟩, -, X5, ⟨Lc5, hQ5, l5, y5, z5⟩, st5⟩ := Jvm.LawKit.callS X4 hx (y := (⟨"com/example/prune/prune/mdp/ListsPlacePinLaw", "first", "(IIII)I"⟩ : MethodName)) hown (mvT hZ (hw _ (List.mem_of_getElem? (i := 42) rfl))) (mvT hZ (hw _ (List.mem_of_getElem? (i := 43) rfl))) (mvT hZ (hw _ (List.mem_of_getElem? (i := 37) rfl))) (mvT hZ (hw _ (List.mem_of_getElem? (i := 44) rfl))) (by decide) (backOf (W := 0) (rm8 l Z a0 hw [] (1 : Int32) p2 p3 p4 h0 n0 Z0) hZ (hw _ (List.mem_of_getElem? (i := 44) rfl)) (hw _ (List.mem_of_getElem? (i := 37) rfl)) (by decide) (by decide)) (g := (mkF m 50 #[.val (.int p1), .val (.int p2), .val (.int p3), .val (.int p4), .val (.int (own_first p1 p2 p3 p4)), .val (.int (own_cnt (0 : Int32) p2 p3 p4)), .unset, .unset] [(.int p4), (.int p3), (.int p2), (.int (1 : Int32))])) rfl (by rw [hml]; rfl) (argsL := [(.int (1 : Int32)), (.int p2), (.int p3), (.int p4)]) (rest := []) (lenOf pd_6_0 rfl) rfl (by show 2 * 0 + _ ≤ _; exact Nat.le_of_eq rfl) (hb hby d6_50) (fun _ _ => ⟨rfl, e4, (by decide : 0 + 0 ≤ _), (by decide : 0 + 0 ≤ _)⟩)
  dsimp only [Pt.U, Pt.locs, Pt.cells, Pt.slots] at X5 l5 y5 z5 st5 hQ5
  subst l5 y5 z5
  obtain ⟨rfl, N5q, e5⟩ := hQ5
  have N5 := Fr.app N4 N5q
  obtain ⟨_, _, ⟨T6, L6, k6, n6⟩, -, X6, ⟨Lc6, hQ6, l6, y6, z6⟩, st6⟩ := Jvm.LawKit.callS X5 hx (y := (⟨"com/example/prune/prune/mdp/ListsPlacePinLaw", "first", "(IIII)I"⟩ : MethodName)) hown (mvT hZ (hw _ (List.mem_of_getElem? (i := 42) rfl))) (mvT hZ (hw _ (List.mem_of_getElem? (i := 43) rfl))) (mvT hZ (hw _ (List.mem_of_getElem? (i := 37) rfl))) (mvT hZ (hw _ (List.mem_of_getElem? (i := 44) rfl))) (by decide) (backOf (W := 0) (rm8 l Z a0 hw [] (2 : Int32) p2 p3 p4 h0 n0 Z0) hZ (hw _ (List.mem_of_getElem? (i := 44) rfl)) (hw _ (List.mem_of_getElem? (i := 37) rfl)) (by decide) (by decide)) (g := (mkF m 75 #[.val (.int p1), .val (.int p2), .val (.int p3), .val (.int p4), .val (.int (own_first p1 p2 p3 p4)), .val (.int (own_cnt (0 : Int32) p2 p3 p4)), .val (.int (0 : Int32)), .unset] [(.int p4), (.int p3), (.int p2), (.int (2 : Int32))])) rfl (by rw [hml]; rfl) (argsL := [(.int (2 : Int32)), (.int p2), (.int p3), (.int p4)]) (rest := []) (lenOf pd_6_0 rfl) rfl (by show 2 * 0 + _ ≤ _; exact Nat.le_of_eq rfl) (hb hby d6_75) (fun _ _ => ⟨rfl, e5, (by decide : 0 + 0 ≤ _), (by decide : 0 + 0 ≤ _)⟩)
  dsimp only [Pt.U, Pt.locs, Pt.cells, Pt.slots] at X6 l6 y6 z6 st6 hQ6
  subst l6 y6 z6
  obtain ⟨rfl, N6q, e6⟩ := hQ6
  have N6 := Fr.app N5 N6q
  obtain ⟨_, _, ⟨T7, L7, k7, n7⟩, -, X7, ⟨Lc7, hQ7, l7, y7, z7⟩, st7⟩ := Jvm.LawKit.callS X6 hx (y := (⟨"com/example/prune/prune/mdp/ListsPlacePinLaw", "cnt", "(IIII)I"⟩ : MethodName)) hown (mvT hZ (hw _ (List.mem_of_getElem? (i := 39) rfl))) (mvT hZ (hw _ (List.mem_of_getElem? (i := 40) rfl))) (mvT hZ (hw _ (List.mem_of_getElem? (i := 37) rfl))) (mvT hZ (hw _ (List.mem_of_getElem? (i := 41) rfl))) (by decide) (backOf (W := 0) (rm7 l Z a0 hw [] (2 : Int32) p2 p3 p4 h0 n0 Z0) hZ (hw _ (List.mem_of_getElem? (i := 41) rfl)) (hw _ (List.mem_of_getElem? (i := 37) rfl)) (by decide) (by decide)) (g := (mkF m 87 #[.val (.int p1), .val (.int p2), .val (.int p3), .val (.int p4), .val (.int (own_first p1 p2 p3 p4)), .val (.int (own_cnt (0 : Int32) p2 p3 p4)), .val (.int (0 : Int32)), .unset] [(.int p4), (.int p3), (.int p2), (.int (2 : Int32))])) rfl (by rw [hml]; rfl) (argsL := [(.int (2 : Int32)), (.int p2), (.int p3), (.int p4)]) (rest := []) (lenOf pd_6_0 rfl) rfl (by show 2 * 0 + _ ≤ _; exact Nat.le_of_eq rfl) (hb hby d6_87) (fun _ _ => ⟨rfl, e6, (by decide : 0 + 0 ≤ _), (by decide : 0 + 0 ≤ _)⟩)
  dsimp only [Pt.U, Pt.locs, Pt.cells, Pt.slots] at X7 l7 y7 z7 st7 hQ7
  subst l7 y7 z7
  obtain ⟨rfl, N7q, e7⟩ := hQ7
  have N7 := Fr.app N6 N7q
  obtain ⟨fs, hr, hrun, hended, hW, hsame⟩ := X7.leave (v := some (.int (((own_cnt (0 : Int32) p2 p3 p4) + (0 : Int32)) + (own_cnt (2 : Int32) p2 p3 p4)))) (fun h => by rw [Bd.returns] at h; cases h)
  refine ⟨_, _, pre0 _ ?_, hrun, hended, _, _, rfl, ?_, ⟨_, rfl⟩, hW, hsame.mono (by decide) (by decide)⟩
  · show Steps p.tables e below (s₁.setTop (mkF m 0 #[.val (.int p1), .val (.int p2), .val (.int p3), .val (.int p4), .unset, .unset, .unset, .unset] [])) _
    refine XS.iloadN X0.here hx rfl (hb hby d6_0) rfl ?_
    show Steps p.tables e below (s₁.setTop (mkF m 1 #[.val (.int p1), .val (.int p2), .val (.int p3), .val (.int p4), .unset, .unset, .unset, .unset] [(.int p1)])) _
    refine XS.iloadN X0.here hx rfl (hb hby d6_1) rfl ?_
    show Steps p.tables e below (s₁.setTop (mkF m 2 #[.val (.int p1), .val (.int p2), .val (.int p3), .val (.int p4), .unset, .unset, .unset, .unset] [(.int p2), (.int p1)])) _
    refine XS.iloadN X0.here hx rfl (hb hby d6_2) rfl ?_
    show Steps p.tables e below (s₁.setTop (mkF m 3 #[.val (.int p1), .val (.int p2), .val (.int p3), .val (.int p4), .unset, .unset, .unset, .unset] [(.int p3), (.int p2), (.int p1)])) _
    refine XS.iloadN X0.here hx rfl (hb hby d6_3) rfl ?_
    show Steps p.tables e below (s₁.setTop (mkF m 4 #[.val (.int p1), .val (.int p2), .val (.int p3), .val (.int p4), .unset, .unset, .unset, .unset] [(.int p4), (.int p3), (.int p2), (.int p1)])) _
    refine st1 _ ?_
    show Steps p.tables e below (T1.setTop (mkF m 7 #[.val (.int p1), .val (.int p2), .val (.int p3), .val (.int p4), .unset, .unset, .unset, .unset] [(.int (own_cnt p1 p2 p3 p4))])) _
    refine XS.ifYes X1.here hx rfl (pc0 := 7) (pc' := 12) rfl (hb hby d6_7) rfl ((if0 _ _).trans (feq q0).2) (by decide) (by decide) ?_
    show Steps p.tables e below (T1.setTop (mkF m 12 #[.val (.int p1), .val (.int p2), .val (.int p3), .val (.int p4), .unset, .unset, .unset, .unset] [])) _
    refine XS.iloadN X1.here hx rfl (hb hby d6_12) rfl ?_
    show Steps p.tables e below (T1.setTop (mkF m 13 #[.val (.int p1), .val (.int p2), .val (.int p3), .val (.int p4), .unset, .unset, .unset, .unset] [(.int p1)])) _
    refine XS.iloadN X1.here hx rfl (hb hby d6_13) rfl ?_
    show Steps p.tables e below (T1.setTop (mkF m 14 #[.val (.int p1), .val (.int p2), .val (.int p3), .val (.int p4), .unset, .unset, .unset, .unset] [(.int p2), (.int p1)])) _
    refine XS.iloadN X1.here hx rfl (hb hby d6_14) rfl ?_
    show Steps p.tables e below (T1.setTop (mkF m 15 #[.val (.int p1), .val (.int p2), .val (.int p3), .val (.int p4), .unset, .unset, .unset, .unset] [(.int p3), (.int p2), (.int p1)])) _
    refine XS.iloadN X1.here hx rfl (hb hby d6_15) rfl ?_
    show Steps p.tables e below (T1.setTop (mkF m 16 #[.val (.int p1), .val (.int p2), .val (.int p3), .val (.int p4), .unset, .unset, .unset, .unset] [(.int p4), (.int p3), (.int p2), (.int p1)])) _
    refine st2 _ ?_
    show Steps p.tables e below (T2.setTop (mkF m 19 #[.val (.int p1), .val (.int p2), .val (.int p3), .val (.int p4), .unset, .unset, .unset, .unset] [(.int (own_first p1 p2 p3 p4))])) _
    refine XS.istore X2.here hx rfl (hb hby d6_19) rfl (l' := #[.val (.int p1), .val (.int p2), .val (.int p3), .val (.int p4), .val (.int (own_first p1 p2 p3 p4)), .unset, .unset, .unset]) rfl ?_
    show Steps p.tables e below (T2.setTop (mkF m 21 #[.val (.int p1), .val (.int p2), .val (.int p3), .val (.int p4), .val (.int (own_first p1 p2 p3 p4)), .unset, .unset, .unset] [])) _
    refine XS.iconst X2.here hx rfl (hb hby d6_21) ?_
    show Steps p.tables e below (T2.setTop (mkF m 22 #[.val (.int p1), .val (.int p2), .val (.int p3), .val (.int p4), .val (.int (own_first p1 p2 p3 p4)), .unset, .unset, .unset] [(.int (0 : Int32))])) _
    refine XS.iloadN X2.here hx rfl (hb hby d6_22) rfl ?_
    show Steps p.tables e below (T2.setTop (mkF m 23 #[.val (.int p1), .val (.int p2), .val (.int p3), .val (.int p4), .val (.int (own_first p1 p2 p3 p4)), .unset, .unset, .unset] [(.int p2), (.int (0 : Int32))])) _
    refine XS.iloadN X2.here hx rfl (hb hby d6_23) rfl ?_
    show Steps p.tables e below (T2.setTop (mkF m 24 #[.val (.int p1), .val (.int p2), .val (.int p3), .val (.int p4), .val (.int (own_first p1 p2 p3 p4)), .unset, .unset, .unset] [(.int p3), (.int p2), (.int (0 : Int32))])) _
    refine XS.iloadN X2.here hx rfl (hb hby d6_24) rfl ?_
    show Steps p.tables e below (T2.setTop (mkF m 25 #[.val (.int p1), .val (.int p2), .val (.int p3), .val (.int p4), .val (.int (own_first p1 p2 p3 p4)), .unset, .unset, .unset] [(.int p4), (.int p3), (.int p2), (.int (0 : Int32))])) _
    refine st3 _ ?_
    show Steps p.tables e below (T3.setTop (mkF m 28 #[.val (.int p1), .val (.int p2), .val (.int p3), .val (.int p4), .val (.int (own_first p1 p2 p3 p4)), .unset, .unset, .unset] [(.int (own_first (0 : Int32) p2 p3 p4))])) _
    refine XS.iload X3.here hx rfl (hb hby d6_28) rfl ?_
    show Steps p.tables e below (T3.setTop (mkF m 30 #[.val (.int p1), .val (.int p2), .val (.int p3), .val (.int p4), .val (.int (own_first p1 p2 p3 p4)), .unset, .unset, .unset] [(.int (own_first p1 p2 p3 p4)), (.int (own_first (0 : Int32) p2 p3 p4))])) _
    refine XS.icmpNo X3.here hx rfl (hb hby d6_30) rfl (tlt q1).2.1 ?_
    show Steps p.tables e below (T3.setTop (mkF m 33 #[.val (.int p1), .val (.int p2), .val (.int p3), .val (.int p4), .val (.int (own_first p1 p2 p3 p4)), .unset, .unset, .unset] [])) _
    refine XS.iconst X3.here hx rfl (hb hby d6_33) ?_
    show Steps p.tables e below (T3.setTop (mkF m 34 #[.val (.int p1), .val (.int p2), .val (.int p3), .val (.int p4), .val (.int (own_first p1 p2 p3 p4)), .unset, .unset, .unset] [(.int (0 : Int32))])) _
    refine XS.iloadN X3.here hx rfl (hb hby d6_34) rfl ?_
    show Steps p.tables e below (T3.setTop (mkF m 35 #[.val (.int p1), .val (.int p2), .val (.int p3), .val (.int p4), .val (.int (own_first p1 p2 p3 p4)), .unset, .unset, .unset] [(.int p2), (.int (0 : Int32))])) _
    refine XS.iloadN X3.here hx rfl (hb hby d6_35) rfl ?_
    show Steps p.tables e below (T3.setTop (mkF m 36 #[.val (.int p1), .val (.int p2), .val (.int p3), .val (.int p4), .val (.int (own_first p1 p2 p3 p4)), .unset, .unset, .unset] [(.int p3), (.int p2), (.int (0 : Int32))])) _
    refine XS.iloadN X3.here hx rfl (hb hby d6_36) rfl ?_
    show Steps p.tables e below (T3.setTop (mkF m 37 #[.val (.int p1), .val (.int p2), .val (.int p3), .val (.int p4), .val (.int (own_first p1 p2 p3 p4)), .unset, .unset, .unset] [(.int p4), (.int p3), (.int p2), (.int (0 : Int32))])) _
    refine st4 _ ?_
    show Steps p.tables e below (T4.setTop (mkF m 40 #[.val (.int p1), .val (.int p2), .val (.int p3), .val (.int p4), .val (.int (own_first p1 p2 p3 p4)), .unset, .unset, .unset] [(.int (own_cnt (0 : Int32) p2 p3 p4))])) _
    refine XS.goto X4.here hx rfl (pc0 := 40) (pc' := 44) rfl (hb hby d6_40) (by decide) (by decide) ?_
    show Steps p.tables e below (T4.setTop (mkF m 44 #[.val (.int p1), .val (.int p2), .val (.int p3), .val (.int p4), .val (.int (own_first p1 p2 p3 p4)), .unset, .unset, .unset] [(.int (own_cnt (0 : Int32) p2 p3 p4))])) _
    refine XS.istore X4.here hx rfl (hb hby d6_44) rfl (l' := #[.val (.int p1), .val (.int p2), .val (.int p3), .val (.int p4), .val (.int (own_first p1 p2 p3 p4)), .val (.int (own_cnt (0 : Int32) p2 p3 p4)), .unset, .unset]) rfl ?_
    show Steps p.tables e below (T4.setTop (mkF m 46 #[.val (.int p1), .val (.int p2), .val (.int p3), .val (.int p4), .val (.int (own_first p1 p2 p3 p4)), .val (.int (own_cnt (0 : Int32) p2 p3 p4)), .unset, .unset] [])) _
    refine XS.iconst X4.here hx rfl (hb hby d6_46) ?_
    show Steps p.tables e below (T4.setTop (mkF m 47 #[.val (.int p1), .val (.int p2), .val (.int p3), .val (.int p4), .val (.int (own_first p1 p2 p3 p4)), .val (.int (own_cnt (0 : Int32) p2 p3 p4)), .unset, .unset] [(.int (1 : Int32))])) _
    refine XS.iloadN X4.here hx rfl (hb hby d6_47) rfl ?_
    show Steps p.tables e below (T4.setTop (mkF m 48 #[.val (.int p1), .val (.int p2), .val (.int p3), .val (.int p4), .val (.int (own_first p1 p2 p3 p4)), .val (.int (own_cnt (0 : Int32) p2 p3 p4)), .unset, .unset] [(.int p2), (.int (1 : Int32))])) _
    refine XS.iloadN X4.here hx rfl (hb hby d6_48) rfl ?_
    show Steps p.tables e below (T4.setTop (mkF m 49 #[.val (.int p1), .val (.int p2), .val (.int p3), .val (.int p4), .val (.int (own_first p1 p2 p3 p4)), .val (.int (own_cnt (0 : Int32) p2 p3 p4)), .unset, .unset] [(.int p3), (.int p2), (.int (1 : Int32))])) _
    refine XS.iloadN X4.here hx rfl (hb hby d6_49) rfl ?_
    show Steps p.tables e below (T4.setTop (mkF m 50 #[.val (.int p1), .val (.int p2), .val (.int p3), .val (.int p4), .val (.int (own_first p1 p2 p3 p4)), .val (.int (own_cnt (0 : Int32) p2 p3 p4)), .unset, .unset] [(.int p4), (.int p3), (.int p2), (.int (1 : Int32))])) _
    refine st5 _ ?_
    show Steps p.tables e below (T5.setTop (mkF m 53 #[.val (.int p1), .val (.int p2), .val (.int p3), .val (.int p4), .val (.int (own_first p1 p2 p3 p4)), .val (.int (own_cnt (0 : Int32) p2 p3 p4)), .unset, .unset] [(.int (own_first (1 : Int32) p2 p3 p4))])) _
    refine XS.iload X5.here hx rfl (hb hby d6_53) rfl ?_
    show Steps p.tables e below (T5.setTop (mkF m 55 #[.val (.int p1), .val (.int p2), .val (.int p3), .val (.int p4), .val (.int (own_first p1 p2 p3 p4)), .val (.int (own_cnt (0 : Int32) p2 p3 p4)), .unset, .unset] [(.int (own_first p1 p2 p3 p4)), (.int (own_first (1 : Int32) p2 p3 p4))])) _
    refine XS.icmpYes X5.here hx rfl (pc0 := 55) (pc' := 68) rfl (hb hby d6_55) rfl (flt q2).2.1 (by decide) (by decide) ?_
    show Steps p.tables e below (T5.setTop (mkF m 68 #[.val (.int p1), .val (.int p2), .val (.int p3), .val (.int p4), .val (.int (own_first p1 p2 p3 p4)), .val (.int (own_cnt (0 : Int32) p2 p3 p4)), .unset, .unset] [])) _
    refine XS.iconst X5.here hx rfl (hb hby d6_68) ?_
    show Steps p.tables e below (T5.setTop (mkF m 69 #[.val (.int p1), .val (.int p2), .val (.int p3), .val (.int p4), .val (.int (own_first p1 p2 p3 p4)), .val (.int (own_cnt (0 : Int32) p2 p3 p4)), .unset, .unset] [(.int (0 : Int32))])) _
    refine XS.istore X5.here hx rfl (hb hby d6_69) rfl (l' := #[.val (.int p1), .val (.int p2), .val (.int p3), .val (.int p4), .val (.int (own_first p1 p2 p3 p4)), .val (.int (own_cnt (0 : Int32) p2 p3 p4)), .val (.int (0 : Int32)), .unset]) rfl ?_
    show Steps p.tables e below (T5.setTop (mkF m 71 #[.val (.int p1), .val (.int p2), .val (.int p3), .val (.int p4), .val (.int (own_first p1 p2 p3 p4)), .val (.int (own_cnt (0 : Int32) p2 p3 p4)), .val (.int (0 : Int32)), .unset] [])) _
    refine XS.iconst X5.here hx rfl (hb hby d6_71) ?_
    show Steps p.tables e below (T5.setTop (mkF m 72 #[.val (.int p1), .val (.int p2), .val (.int p3), .val (.int p4), .val (.int (own_first p1 p2 p3 p4)), .val (.int (own_cnt (0 : Int32) p2 p3 p4)), .val (.int (0 : Int32)), .unset] [(.int (2 : Int32))])) _
    refine XS.iloadN X5.here hx rfl (hb hby d6_72) rfl ?_
    show Steps p.tables e below (T5.setTop (mkF m 73 #[.val (.int p1), .val (.int p2), .val (.int p3), .val (.int p4), .val (.int (own_first p1 p2 p3 p4)), .val (.int (own_cnt (0 : Int32) p2 p3 p4)), .val (.int (0 : Int32)), .unset] [(.int p2), (.int (2 : Int32))])) _
    refine XS.iloadN X5.here hx rfl (hb hby d6_73) rfl ?_
    show Steps p.tables e below (T5.setTop (mkF m 74 #[.val (.int p1), .val (.int p2), .val (.int p3), .val (.int p4), .val (.int (own_first p1 p2 p3 p4)), .val (.int (own_cnt (0 : Int32) p2 p3 p4)), .val (.int (0 : Int32)), .unset] [(.int p3), (.int p2), (.int (2 : Int32))])) _
    refine XS.iloadN X5.here hx rfl (hb hby d6_74) rfl ?_
    show Steps p.tables e below (T5.setTop (mkF m 75 #[.val (.int p1), .val (.int p2), .val (.int p3), .val (.int p4), .val (.int (own_first p1 p2 p3 p4)), .val (.int (own_cnt (0 : Int32) p2 p3 p4)), .val (.int (0 : Int32)), .unset] [(.int p4), (.int p3), (.int p2), (.int (2 : Int32))])) _
    refine st6 _ ?_
    show Steps p.tables e below (T6.setTop (mkF m 78 #[.val (.int p1), .val (.int p2), .val (.int p3), .val (.int p4), .val (.int (own_first p1 p2 p3 p4)), .val (.int (own_cnt (0 : Int32) p2 p3 p4)), .val (.int (0 : Int32)), .unset] [(.int (own_first (2 : Int32) p2 p3 p4))])) _
    refine XS.iload X6.here hx rfl (hb hby d6_78) rfl ?_
    show Steps p.tables e below (T6.setTop (mkF m 80 #[.val (.int p1), .val (.int p2), .val (.int p3), .val (.int p4), .val (.int (own_first p1 p2 p3 p4)), .val (.int (own_cnt (0 : Int32) p2 p3 p4)), .val (.int (0 : Int32)), .unset] [(.int (own_first p1 p2 p3 p4)), (.int (own_first (2 : Int32) p2 p3 p4))])) _
    refine XS.icmpNo X6.here hx rfl (hb hby d6_80) rfl (tlt q3).2.1 ?_
    show Steps p.tables e below (T6.setTop (mkF m 83 #[.val (.int p1), .val (.int p2), .val (.int p3), .val (.int p4), .val (.int (own_first p1 p2 p3 p4)), .val (.int (own_cnt (0 : Int32) p2 p3 p4)), .val (.int (0 : Int32)), .unset] [])) _
    refine XS.iconst X6.here hx rfl (hb hby d6_83) ?_
    show Steps p.tables e below (T6.setTop (mkF m 84 #[.val (.int p1), .val (.int p2), .val (.int p3), .val (.int p4), .val (.int (own_first p1 p2 p3 p4)), .val (.int (own_cnt (0 : Int32) p2 p3 p4)), .val (.int (0 : Int32)), .unset] [(.int (2 : Int32))])) _
    refine XS.iloadN X6.here hx rfl (hb hby d6_84) rfl ?_
    show Steps p.tables e below (T6.setTop (mkF m 85 #[.val (.int p1), .val (.int p2), .val (.int p3), .val (.int p4), .val (.int (own_first p1 p2 p3 p4)), .val (.int (own_cnt (0 : Int32) p2 p3 p4)), .val (.int (0 : Int32)), .unset] [(.int p2), (.int (2 : Int32))])) _
    refine XS.iloadN X6.here hx rfl (hb hby d6_85) rfl ?_
    show Steps p.tables e below (T6.setTop (mkF m 86 #[.val (.int p1), .val (.int p2), .val (.int p3), .val (.int p4), .val (.int (own_first p1 p2 p3 p4)), .val (.int (own_cnt (0 : Int32) p2 p3 p4)), .val (.int (0 : Int32)), .unset] [(.int p3), (.int p2), (.int (2 : Int32))])) _
    refine XS.iloadN X6.here hx rfl (hb hby d6_86) rfl ?_
    show Steps p.tables e below (T6.setTop (mkF m 87 #[.val (.int p1), .val (.int p2), .val (.int p3), .val (.int p4), .val (.int (own_first p1 p2 p3 p4)), .val (.int (own_cnt (0 : Int32) p2 p3 p4)), .val (.int (0 : Int32)), .unset] [(.int p4), (.int p3), (.int p2), (.int (2 : Int32))])) _
    refine st7 _ ?_
    show Steps p.tables e below (T7.setTop (mkF m 90 #[.val (.int p1), .val (.int p2), .val (.int p3), .val (.int p4), .val (.int (own_first p1 p2 p3 p4)), .val (.int (own_cnt (0 : Int32) p2 p3 p4)), .val (.int (0 : Int32)), .unset] [(.int (own_cnt (2 : Int32) p2 p3 p4))])) _
    refine XS.goto X7.here hx rfl (pc0 := 90) (pc' := 94) rfl (hb hby d6_90) (by decide) (by decide) ?_
    show Steps p.tables e below (T7.setTop (mkF m 94 #[.val (.int p1), .val (.int p2), .val (.int p3), .val (.int p4), .val (.int (own_first p1 p2 p3 p4)), .val (.int (own_cnt (0 : Int32) p2 p3 p4)), .val (.int (0 : Int32)), .unset] [(.int (own_cnt (2 : Int32) p2 p3 p4))])) _
    refine XS.istore X7.here hx rfl (hb hby d6_94) rfl (l' := #[.val (.int p1), .val (.int p2), .val (.int p3), .val (.int p4), .val (.int (own_first p1 p2 p3 p4)), .val (.int (own_cnt (0 : Int32) p2 p3 p4)), .val (.int (0 : Int32)), .val (.int (own_cnt (2 : Int32) p2 p3 p4))]) rfl ?_
    show Steps p.tables e below (T7.setTop (mkF m 96 #[.val (.int p1), .val (.int p2), .val (.int p3), .val (.int p4), .val (.int (own_first p1 p2 p3 p4)), .val (.int (own_cnt (0 : Int32) p2 p3 p4)), .val (.int (0 : Int32)), .val (.int (own_cnt (2 : Int32) p2 p3 p4))] [])) _
    refine XS.iload X7.here hx rfl (hb hby d6_96) rfl ?_
    show Steps p.tables e below (T7.setTop (mkF m 98 #[.val (.int p1), .val (.int p2), .val (.int p3), .val (.int p4), .val (.int (own_first p1 p2 p3 p4)), .val (.int (own_cnt (0 : Int32) p2 p3 p4)), .val (.int (0 : Int32)), .val (.int (own_cnt (2 : Int32) p2 p3 p4))] [(.int (own_cnt (0 : Int32) p2 p3 p4))])) _
    refine XS.iload X7.here hx rfl (hb hby d6_98) rfl ?_
    show Steps p.tables e below (T7.setTop (mkF m 100 #[.val (.int p1), .val (.int p2), .val (.int p3), .val (.int p4), .val (.int (own_first p1 p2 p3 p4)), .val (.int (own_cnt (0 : Int32) p2 p3 p4)), .val (.int (0 : Int32)), .val (.int (own_cnt (2 : Int32) p2 p3 p4))] [(.int (0 : Int32)), (.int (own_cnt (0 : Int32) p2 p3 p4))])) _
    refine XS.iadd X7.here hx rfl (hb hby d6_100) rfl ?_
    show Steps p.tables e below (T7.setTop (mkF m 101 #[.val (.int p1), .val (.int p2), .val (.int p3), .val (.int p4), .val (.int (own_first p1 p2 p3 p4)), .val (.int (own_cnt (0 : Int32) p2 p3 p4)), .val (.int (0 : Int32)), .val (.int (own_cnt (2 : Int32) p2 p3 p4))] [(.int ((own_cnt (0 : Int32) p2 p3 p4) + (0 : Int32)))])) _
    refine XS.iload X7.here hx rfl (hb hby d6_101) rfl ?_
    show Steps p.tables e below (T7.setTop (mkF m 103 #[.val (.int p1), .val (.int p2), .val (.int p3), .val (.int p4), .val (.int (own_first p1 p2 p3 p4)), .val (.int (own_cnt (0 : Int32) p2 p3 p4)), .val (.int (0 : Int32)), .val (.int (own_cnt (2 : Int32) p2 p3 p4))] [(.int (own_cnt (2 : Int32) p2 p3 p4)), (.int ((own_cnt (0 : Int32) p2 p3 p4) + (0 : Int32)))])) _
    refine XS.iadd X7.here hx rfl (hb hby d6_103) rfl ?_
    show Steps p.tables e below (T7.setTop (mkF m 104 #[.val (.int p1), .val (.int p2), .val (.int p3), .val (.int p4), .val (.int (own_first p1 p2 p3 p4)), .val (.int (own_cnt (0 : Int32) p2 p3 p4)), .val (.int (0 : Int32)), .val (.int (own_cnt (2 : Int32) p2 p3 p4))] [(.int (((own_cnt (0 : Int32) p2 p3 p4) + (0 : Int32)) + (own_cnt (2 : Int32) p2 p3 p4)))])) _
    exact retI X7 hx Bd.returns (hb hby d6_104) hr
  · show Q6 Z p1 p2 p3 p4 h0 n0 _ T7.heap _
    rw [e7]
    have hm : own_ref p1 p2 p3 p4 = (((own_cnt (0 : Int32) p2 p3 p4) + (0 : Int32)) + (own_cnt (2 : Int32) p2 p3 p4)) := by unfold own_ref; rw [if_neg q0, if_pos q1, if_neg q2, if_pos q3]
    exact ⟨by rw [hm], N7, rfl⟩
set_option maxRecDepth 65536 in
set_option maxHeartbeats 40000000 in
theorem rm6_110 (l : Launch) (Z : State) (a0 : Array Value) (hw : ∀ d ∈ tables_1, d.before a0 Z = true) (ws : List Jvm.Cond) (p1 : Int32) (p2 : Int32) (p3 : Int32) (p4 : Int32) (h0 : Heap) (n0 : Nat) (Z0 : n0 ≤ h0.size) (q0 : ¬ (own_cnt p1 p2 p3 p4 = (0 : Int32))) (q1 : own_first (0 : Int32) p2 p3 p4 < own_first p1 p2 p3 p4) (q2 : own_first (1 : Int32) p2 p3 p4 < own_first p1 p2 p3 p4) (q3 : ¬ (own_first (2 : Int32) p2 p3 p4 < own_first p1 p2 p3 p4)) :
    MetFree l (⟨"com/example/prune/prune/mdp/ListsPlacePinLaw", "refStart", "(IIII)I"⟩ : MethodName) (head1 (Jvm.Cond.code (⟨"com/example/prune/prune/mdp/ListsPlacePinLaw", "refStart", "(IIII)I"⟩ : MethodName) method_4_code 8 (some .int) :: ws) ({ frames := 1, cells := 0, slots := 0, locals := 15 } : Room)) (fun a U => a = #[(.int p1), (.int p2), (.int p3), (.int p4)] ∧ Z.Warmed39 U.vm ∧ U.heap = h0) (fun _ _ _ _ _ => True) (fun _ U o U' => ∃ v L, o = .returned v ∧ Q6 Z p1 p2 p3 p4 h0 n0 v U'.heap L ∧ FrameEnd U o U' L ({ frames := 1, cells := 0, slots := 0, locals := 15 } : Room).cells ({ frames := 1, cells := 0, slots := 0, locals := 15 } : Room).slots) := by
  refine MetFree.of_bodySF (plainFor_of_name pn_6) hisR ?_
  intro p e s m args below meth c s₁ Bd hml0 hP hK
  obtain ⟨rfl, hZ, hh⟩ := hP
  have hx := Bd.exec
  have hby := Bd.bytes
  have hml : c.maxLocals = 8 := hml0
  have hown : s.vm.findClass "com/example/prune/prune/mdp/ListsPlacePinLaw" = some m.cls := findClass_of_methodNamed Bd.named
  have hnm := (name_of_methodNamed Bd.named Bd.method).1
  have X0 : Stand p l e ({ frames := 1, cells := 0, slots := 0, locals := 15 } : Room) s m #[(.int p1), (.int p2), (.int p3), (.int p4)] below meth c s₁ [] 0 0 := Stand.of_body Bd
  have e0 : s₁.heap = h0 := by rw [← hh, Bd.state]; rfl
  have N0 := Fr.nil n0
  have pre0 : ∀ t, Steps p.tables e below (s₁.setTop (mkF m 0 #[.val (.int p1), .val (.int p2), .val (.int p3), .val (.int p4), .unset, .unset, .unset, .unset] [])) t → Steps p.tables e below (s₁.setTop (entryFrame m #[(.int p1), (.int p2), (.int p3), (.int p4)] 8)) t := fun t k => castTop (ef_6 m p1 p2 p3 p4) k
  obtain ⟨_, _, ⟨T1, L1, k1, n1⟩, -, X1, ⟨Lc1, hQ1, l1, y1, z1⟩, st1⟩ := Jvm.LawKit.callS X0 hx (y := (⟨"com/example/prune/prune/mdp/ListsPlacePinLaw", "cnt", "(IIII)I"⟩ : MethodName)) hown (mvT hZ (hw _ (List.mem_of_getElem? (i := 39) rfl))) (mvT hZ (hw _ (List.mem_of_getElem? (i := 40) rfl))) (mvT hZ (hw _ (List.mem_of_getElem? (i := 37) rfl))) (mvT hZ (hw _ (List.mem_of_getElem? (i := 41) rfl))) (by decide) (backOf (W := 0) (rm7 l Z a0 hw [] p1 p2 p3 p4 h0 n0 Z0) hZ (hw _ (List.mem_of_getElem? (i := 41) rfl)) (hw _ (List.mem_of_getElem? (i := 37) rfl)) (by decide) (by decide)) (g := (mkF m 4 #[.val (.int p1), .val (.int p2), .val (.int p3), .val (.int p4), .unset, .unset, .unset, .unset] [(.int p4), (.int p3), (.int p2), (.int p1)])) rfl (by rw [hml]; rfl) (argsL := [(.int p1), (.int p2), (.int p3), (.int p4)]) (rest := []) (lenOf pd_6_0 rfl) rfl (by show 2 * 0 + _ ≤ _; exact Nat.le_of_eq rfl) (hb hby d6_4) (fun _ _ => ⟨rfl, e0, (by decide : 0 + 0 ≤ _), (by decide : 0 + 0 ≤ _)⟩)
  dsimp only [Pt.U, Pt.locs, Pt.cells, Pt.slots] at X1 l1 y1 z1 st1 hQ1
  subst l1 y1 z1
  obtain ⟨rfl, N1q, e1⟩ := hQ1
  have N1 := Fr.app N0 N1q
  obtain ⟨_, _, ⟨T2, L2, k2, n2⟩, -, X2, ⟨Lc2, hQ2, l2, y2, z2⟩, st2⟩ := Jvm.LawKit.callS X1 hx (y := (⟨"com/example/prune/prune/mdp/ListsPlacePinLaw", "first", "(IIII)I"⟩ : MethodName)) hown (mvT hZ (hw _ (List.mem_of_getElem? (i := 42) rfl))) (mvT hZ (hw _ (List.mem_of_getElem? (i := 43) rfl))) (mvT hZ (hw _ (List.mem_of_getElem? (i := 37) rfl))) (mvT hZ (hw _ (List.mem_of_getElem? (i := 44) rfl))) (by decide) (backOf (W := 0) (rm8 l Z a0 hw [] p1 p2 p3 p4 h0 n0 Z0) hZ (hw _ (List.mem_of_getElem? (i := 44) rfl)) (hw _ (List.mem_of_getElem? (i := 37) rfl)) (by decide) (by decide)) (g := (mkF m 16 #[.val (.int p1), .val (.int p2), .val (.int p3), .val (.int p4), .unset, .unset, .unset, .unset] [(.int p4), (.int p3), (.int p2), (.int p1)])) rfl (by rw [hml]; rfl) (argsL := [(.int p1), (.int p2), (.int p3), (.int p4)]) (rest := []) (lenOf pd_6_0 rfl) rfl (by show 2 * 0 + _ ≤ _; exact Nat.le_of_eq rfl) (hb hby d6_16) (fun _ _ => ⟨rfl, e1, (by decide : 0 + 0 ≤ _), (by decide : 0 + 0 ≤ _)⟩)
  dsimp only [Pt.U, Pt.locs, Pt.cells, Pt.slots] at X2 l2 y2 z2 st2 hQ2
  subst l2 y2 z2
  obtain ⟨rfl, N2q, e2⟩ := hQ2
  have N2 := Fr.app N1 N2q
  obtain ⟨_, _, ⟨T3, L3, k3, n3⟩, -, X3, ⟨Lc3, hQ3, l3, y3, z3⟩, st3⟩ := Jvm.LawKit.callS X2 hx (y := (⟨"com/example/prune/prune/mdp/ListsPlacePinLaw", "first", "(IIII)I"⟩ : MethodName)) hown (mvT hZ (hw _ (List.mem_of_getElem? (i := 42) rfl))) (mvT hZ (hw _ (List.mem_of_getElem? (i := 43) rfl))) (mvT hZ (hw _ (List.mem_of_getElem? (i := 37) rfl))) (mvT hZ (hw _ (List.mem_of_getElem? (i := 44) rfl))) (by decide) (backOf (W := 0) (rm8 l Z a0 hw [] (0 : Int32) p2 p3 p4 h0 n0 Z0) hZ (hw _ (List.mem_of_getElem? (i := 44) rfl)) (hw _ (List.mem_of_getElem? (i := 37) rfl)) (by decide) (by decide)) (g := (mkF m 25 #[.val (.int p1), .val (.int p2), .val (.int p3), .val (.int p4), .val (.int (own_first p1 p2 p3 p4)), .unset, .unset, .unset] [(.int p4), (.int p3), (.int p2), (.int (0 : Int32))])) rfl (by rw [hml]; rfl) (argsL := [(.int (0 : Int32)), (.int p2), (.int p3), (.int p4)]) (rest := []) (lenOf pd_6_0 rfl) rfl (by show 2 * 0 + _ ≤ _; exact Nat.le_of_eq rfl) (hb hby d6_25) (fun _ _ => ⟨rfl, e2, (by decide : 0 + 0 ≤ _), (by decide : 0 + 0 ≤ _)⟩)
  dsimp only [Pt.U, Pt.locs, Pt.cells, Pt.slots] at X3 l3 y3 z3 st3 hQ3
  subst l3 y3 z3
  obtain ⟨rfl, N3q, e3⟩ := hQ3
  have N3 := Fr.app N2 N3q
  obtain ⟨_, _, ⟨T4, L4, k4, n4⟩, -, X4, ⟨Lc4, hQ4, l4, y4, z4⟩, st4⟩ := Jvm.LawKit.callS X3 hx (y := (⟨"com/example/prune/prune/mdp/ListsPlacePinLaw", "cnt", "(IIII)I"⟩ : MethodName)) hown (mvT hZ (hw _ (List.mem_of_getElem? (i := 39) rfl))) (mvT hZ (hw _ (List.mem_of_getElem? (i := 40) rfl))) (mvT hZ (hw _ (List.mem_of_getElem? (i := 37) rfl))) (mvT hZ (hw _ (List.mem_of_getElem? (i := 41) rfl))) (by decide) (backOf (W := 0) (rm7 l Z a0 hw [] (0 : Int32) p2 p3 p4 h0 n0 Z0) hZ (hw _ (List.mem_of_getElem? (i := 41) rfl)) (hw _ (List.mem_of_getElem? (i := 37) rfl)) (by decide) (by decide)) (g := (mkF m 37 #[.val (.int p1), .val (.int p2), .val (.int p3), .val (.int p4), .val (.int (own_first p1 p2 p3 p4)), .unset, .unset, .unset] [(.int p4), (.int p3), (.int p2), (.int (0 : Int32))])) rfl (by rw [hml]; rfl) (argsL := [(.int (0 : Int32)), (.int p2), (.int p3), (.int p4)]) (rest := []) (lenOf pd_6_0 rfl) rfl (by show 2 * 0 + _ ≤ _; exact Nat.le_of_eq rfl) (hb hby d6_37) (fun _ _ => ⟨rfl, e3, (by decide : 0 + 0 ≤ _), (by decide : 0 + 0 ≤ _)⟩)
  dsimp only [Pt.U, Pt.locs, Pt.cells, Pt.slots] at X4 l4 y4 z4 st4 hQ4
  subst l4 y4 z4
  obtain ⟨rfl, N4q, e4⟩ := hQ4
  have N4 := Fr.app N3 N4q
  obtain ⟨_, _, ⟨T5, L5, k5, n5⟩, -, X5, ⟨Lc5, hQ5, l5, y5, z5⟩, st5⟩ := Jvm.LawKit.callS X4 hx (y := (⟨"com/example/prune/prune/mdp/ListsPlacePinLaw", "first", "(IIII)I"⟩ : MethodName)) hown (mvT hZ (hw _ (List.mem_of_getElem? (i := 42) rfl))) (mvT hZ (hw _ (List.mem_of_getElem? (i := 43) rfl))) (mvT hZ (hw _ (List.mem_of_getElem? (i := 37) rfl))) (mvT hZ (hw _ (List.mem_of_getElem? (i := 44) rfl))) (by decide) (backOf (W := 0) (rm8 l Z a0 hw [] (1 : Int32) p2 p3 p4 h0 n0 Z0) hZ (hw _ (List.mem_of_getElem? (i := 44) rfl)) (hw _ (List.mem_of_getElem? (i := 37) rfl)) (by decide) (by decide)) (g := (mkF m 50 #[.val (.int p1), .val (.int p2), .val (.int p3), .val (.int p4), .val (.int (own_first p1 p2 p3 p4)), .val (.int (own_cnt (0 : Int32) p2 p3 p4)), .unset, .unset] [(.int p4), (.int p3), (.int p2), (.int (1 : Int32))])) rfl (by rw [hml]; rfl) (argsL := [(.int (1 : Int32)), (.int p2), (.int p3), (.int p4)]) (rest := []) (lenOf pd_6_0 rfl) rfl (by show 2 * 0 + _ ≤ _; exact Nat.le_of_eq rfl) (hb hby d6_50) (fun _ _ => ⟨rfl, e4, (by decide : 0 + 0 ≤ _), (by decide : 0 + 0 ≤ _)⟩)
  dsimp only [Pt.U, Pt.locs, Pt.cells, Pt.slots] at X5 l5 y5 z5 st5 hQ5
  subst l5 y5 z5
  obtain ⟨rfl, N5q, e5⟩ := hQ5
  have N5 := Fr.app N4 N5q
  obtain ⟨_, _, ⟨T6, L6, k6, n6⟩, -, X6, ⟨Lc6, hQ6, l6, y6, z6⟩, st6⟩ := Jvm.LawKit.callS X5 hx (y := (⟨"com/example/prune/prune/mdp/ListsPlacePinLaw", "cnt", "(IIII)I"⟩ : MethodName)) hown (mvT hZ (hw _ (List.mem_of_getElem? (i := 39) rfl))) (mvT hZ (hw _ (List.mem_of_getElem? (i := 40) rfl))) (mvT hZ (hw _ (List.mem_of_getElem? (i := 37) rfl))) (mvT hZ (hw _ (List.mem_of_getElem? (i := 41) rfl))) (by decide) (backOf (W := 0) (rm7 l Z a0 hw [] (1 : Int32) p2 p3 p4 h0 n0 Z0) hZ (hw _ (List.mem_of_getElem? (i := 41) rfl)) (hw _ (List.mem_of_getElem? (i := 37) rfl)) (by decide) (by decide)) (g := (mkF m 62 #[.val (.int p1), .val (.int p2), .val (.int p3), .val (.int p4), .val (.int (own_first p1 p2 p3 p4)), .val (.int (own_cnt (0 : Int32) p2 p3 p4)), .unset, .unset] [(.int p4), (.int p3), (.int p2), (.int (1 : Int32))])) rfl (by rw [hml]; rfl) (argsL := [(.int (1 : Int32)), (.int p2), (.int p3), (.int p4)]) (rest := []) (lenOf pd_6_0 rfl) rfl (by show 2 * 0 + _ ≤ _; exact Nat.le_of_eq rfl) (hb hby d6_62) (fun _ _ => ⟨rfl, e5, (by decide : 0 + 0 ≤ _), (by decide : 0 + 0 ≤ _)⟩)
  dsimp only [Pt.U, Pt.locs, Pt.cells, Pt.slots] at X6 l6 y6 z6 st6 hQ6
  subst l6 y6 z6
  obtain ⟨rfl, N6q, e6⟩ := hQ6
  have N6 := Fr.app N5 N6q
  obtain ⟨_, _, ⟨T7, L7, k7, n7⟩, -, X7, ⟨Lc7, hQ7, l7, y7, z7⟩, st7⟩ := Jvm.LawKit.callS X6 hx (y := (⟨"com/example/prune/prune/mdp/ListsPlacePinLaw", "first", "(IIII)I"⟩ : MethodName)) hown (mvT hZ (hw _ (List.mem_of_getElem? (i := 42) rfl))) (mvT hZ (hw _ (List.mem_of_getElem? (i := 43) rfl))) (mvT hZ (hw _ (List.mem_of_getElem? (i := 37) rfl))) (mvT hZ (hw _ (List.mem_of_getElem? (i := 44) rfl))) (by decide) (backOf (W := 0) (rm8 l Z a0 hw [] (2 : Int32) p2 p3 p4 h0 n0 Z0) hZ (hw _ (List.mem_of_getElem? (i := 44) rfl)) (hw _ (List.mem_of_getElem? (i := 37) rfl)) (by decide) (by decide)) (g := (mkF m 75 #[.val (.int p1), .val (.int p2), .val (.int p3), .val (.int p4), .val (.int (own_first p1 p2 p3 p4)), .val (.int (own_cnt (0 : Int32) p2 p3 p4)), .val (.int (own_cnt (1 : Int32) p2 p3 p4)), .unset] [(.int p4), (.int p3), (.int p2), (.int (2 : Int32))])) rfl (by rw [hml]; rfl) (argsL := [(.int (2 : Int32)), (.int p2), (.int p3), (.int p4)]) (rest := []) (lenOf pd_6_0 rfl) rfl (by show 2 * 0 + _ ≤ _; exact Nat.le_of_eq rfl) (hb hby d6_75) (fun _ _ => ⟨rfl, e6, (by decide : 0 + 0 ≤ _), (by decide : 0 + 0 ≤ _)⟩)
  dsimp only [Pt.U, Pt.locs, Pt.cells, Pt.slots] at X7 l7 y7 z7 st7 hQ7
  subst l7 y7 z7
  obtain ⟨rfl, N7q, e7⟩ := hQ7
  have N7 := Fr.app N6 N7q
  obtain ⟨fs, hr, hrun, hended, hW, hsame⟩ := X7.leave (v := some (.int (((own_cnt (0 : Int32) p2 p3 p4) + (own_cnt (1 : Int32) p2 p3 p4)) + (0 : Int32)))) (fun h => by rw [Bd.returns] at h; cases h)
  refine ⟨_, _, pre0 _ ?_, hrun, hended, _, _, rfl, ?_, ⟨_, rfl⟩, hW, hsame.mono (by decide) (by decide)⟩
  · show Steps p.tables e below (s₁.setTop (mkF m 0 #[.val (.int p1), .val (.int p2), .val (.int p3), .val (.int p4), .unset, .unset, .unset, .unset] [])) _
    refine XS.iloadN X0.here hx rfl (hb hby d6_0) rfl ?_
    show Steps p.tables e below (s₁.setTop (mkF m 1 #[.val (.int p1), .val (.int p2), .val (.int p3), .val (.int p4), .unset, .unset, .unset, .unset] [(.int p1)])) _
    refine XS.iloadN X0.here hx rfl (hb hby d6_1) rfl ?_
    show Steps p.tables e below (s₁.setTop (mkF m 2 #[.val (.int p1), .val (.int p2), .val (.int p3), .val (.int p4), .unset, .unset, .unset, .unset] [(.int p2), (.int p1)])) _
    refine XS.iloadN X0.here hx rfl (hb hby d6_2) rfl ?_
    show Steps p.tables e below (s₁.setTop (mkF m 3 #[.val (.int p1), .val (.int p2), .val (.int p3), .val (.int p4), .unset, .unset, .unset, .unset] [(.int p3), (.int p2), (.int p1)])) _
    refine XS.iloadN X0.here hx rfl (hb hby d6_3) rfl ?_
    show Steps p.tables e below (s₁.setTop (mkF m 4 #[.val (.int p1), .val (.int p2), .val (.int p3), .val (.int p4), .unset, .unset, .unset, .unset] [(.int p4), (.int p3), (.int p2), (.int p1)])) _
    refine st1 _ ?_
    show Steps p.tables e below (T1.setTop (mkF m 7 #[.val (.int p1), .val (.int p2), .val (.int p3), .val (.int p4), .unset, .unset, .unset, .unset] [(.int (own_cnt p1 p2 p3 p4))])) _
    refine XS.ifYes X1.here hx rfl (pc0 := 7) (pc' := 12) rfl (hb hby d6_7) rfl ((if0 _ _).trans (feq q0).2) (by decide) (by decide) ?_
    show Steps p.tables e below (T1.setTop (mkF m 12 #[.val (.int p1), .val (.int p2), .val (.int p3), .val (.int p4), .unset, .unset, .unset, .unset] [])) _
    refine XS.iloadN X1.here hx rfl (hb hby d6_12) rfl ?_
    show Steps p.tables e below (T1.setTop (mkF m 13 #[.val (.int p1), .val (.int p2), .val (.int p3), .val (.int p4), .unset, .unset, .unset, .unset] [(.int p1)])) _
    refine XS.iloadN X1.here hx rfl (hb hby d6_13) rfl ?_
    show Steps p.tables e below (T1.setTop (mkF m 14 #[.val (.int p1), .val (.int p2), .val (.int p3), .val (.int p4), .unset, .unset, .unset, .unset] [(.int p2), (.int p1)])) _
    refine XS.iloadN X1.here hx rfl (hb hby d6_14) rfl ?_
    show Steps p.tables e below (T1.setTop (mkF m 15 #[.val (.int p1), .val (.int p2), .val (.int p3), .val (.int p4), .unset, .unset, .unset, .unset] [(.int p3), (.int p2), (.int p1)])) _
    refine XS.iloadN X1.here hx rfl (hb hby d6_15) rfl ?_
    show Steps p.tables e below (T1.setTop (mkF m 16 #[.val (.int p1), .val (.int p2), .val (.int p3), .val (.int p4), .unset, .unset, .unset, .unset] [(.int p4), (.int p3), (.int p2), (.int p1)])) _
    refine st2 _ ?_
    show Steps p.tables e below (T2.setTop (mkF m 19 #[.val (.int p1), .val (.int p2), .val (.int p3), .val (.int p4), .unset, .unset, .unset, .unset] [(.int (own_first p1 p2 p3 p4))])) _
    refine XS.istore X2.here hx rfl (hb hby d6_19) rfl (l' := #[.val (.int p1), .val (.int p2), .val (.int p3), .val (.int p4), .val (.int (own_first p1 p2 p3 p4)), .unset, .unset, .unset]) rfl ?_
    show Steps p.tables e below (T2.setTop (mkF m 21 #[.val (.int p1), .val (.int p2), .val (.int p3), .val (.int p4), .val (.int (own_first p1 p2 p3 p4)), .unset, .unset, .unset] [])) _
    refine XS.iconst X2.here hx rfl (hb hby d6_21) ?_
    show Steps p.tables e below (T2.setTop (mkF m 22 #[.val (.int p1), .val (.int p2), .val (.int p3), .val (.int p4), .val (.int (own_first p1 p2 p3 p4)), .unset, .unset, .unset] [(.int (0 : Int32))])) _
    refine XS.iloadN X2.here hx rfl (hb hby d6_22) rfl ?_
    show Steps p.tables e below (T2.setTop (mkF m 23 #[.val (.int p1), .val (.int p2), .val (.int p3), .val (.int p4), .val (.int (own_first p1 p2 p3 p4)), .unset, .unset, .unset] [(.int p2), (.int (0 : Int32))])) _
    refine XS.iloadN X2.here hx rfl (hb hby d6_23) rfl ?_
    show Steps p.tables e below (T2.setTop (mkF m 24 #[.val (.int p1), .val (.int p2), .val (.int p3), .val (.int p4), .val (.int (own_first p1 p2 p3 p4)), .unset, .unset, .unset] [(.int p3), (.int p2), (.int (0 : Int32))])) _
    refine XS.iloadN X2.here hx rfl (hb hby d6_24) rfl ?_
    show Steps p.tables e below (T2.setTop (mkF m 25 #[.val (.int p1), .val (.int p2), .val (.int p3), .val (.int p4), .val (.int (own_first p1 p2 p3 p4)), .unset, .unset, .unset] [(.int p4), (.int p3), (.int p2), (.int (0 : Int32))])) _
    refine st3 _ ?_
    show Steps p.tables e below (T3.setTop (mkF m 28 #[.val (.int p1), .val (.int p2), .val (.int p3), .val (.int p4), .val (.int (own_first p1 p2 p3 p4)), .unset, .unset, .unset] [(.int (own_first (0 : Int32) p2 p3 p4))])) _
    refine XS.iload X3.here hx rfl (hb hby d6_28) rfl ?_
    show Steps p.tables e below (T3.setTop (mkF m 30 #[.val (.int p1), .val (.int p2), .val (.int p3), .val (.int p4), .val (.int (own_first p1 p2 p3 p4)), .unset, .unset, .unset] [(.int (own_first p1 p2 p3 p4)), (.int (own_first (0 : Int32) p2 p3 p4))])) _
    refine XS.icmpNo X3.here hx rfl (hb hby d6_30) rfl (tlt q1).2.1 ?_
    show Steps p.tables e below (T3.setTop (mkF m 33 #[.val (.int p1), .val (.int p2), .val (.int p3), .val (.int p4), .val (.int (own_first p1 p2 p3 p4)), .unset, .unset, .unset] [])) _
    refine XS.iconst X3.here hx rfl (hb hby d6_33) ?_
    show Steps p.tables e below (T3.setTop (mkF m 34 #[.val (.int p1), .val (.int p2), .val (.int p3), .val (.int p4), .val (.int (own_first p1 p2 p3 p4)), .unset, .unset, .unset] [(.int (0 : Int32))])) _
    refine XS.iloadN X3.here hx rfl (hb hby d6_34) rfl ?_
    show Steps p.tables e below (T3.setTop (mkF m 35 #[.val (.int p1), .val (.int p2), .val (.int p3), .val (.int p4), .val (.int (own_first p1 p2 p3 p4)), .unset, .unset, .unset] [(.int p2), (.int (0 : Int32))])) _
    refine XS.iloadN X3.here hx rfl (hb hby d6_35) rfl ?_
    show Steps p.tables e below (T3.setTop (mkF m 36 #[.val (.int p1), .val (.int p2), .val (.int p3), .val (.int p4), .val (.int (own_first p1 p2 p3 p4)), .unset, .unset, .unset] [(.int p3), (.int p2), (.int (0 : Int32))])) _
    refine XS.iloadN X3.here hx rfl (hb hby d6_36) rfl ?_
    show Steps p.tables e below (T3.setTop (mkF m 37 #[.val (.int p1), .val (.int p2), .val (.int p3), .val (.int p4), .val (.int (own_first p1 p2 p3 p4)), .unset, .unset, .unset] [(.int p4), (.int p3), (.int p2), (.int (0 : Int32))])) _
    refine st4 _ ?_
    show Steps p.tables e below (T4.setTop (mkF m 40 #[.val (.int p1), .val (.int p2), .val (.int p3), .val (.int p4), .val (.int (own_first p1 p2 p3 p4)), .unset, .unset, .unset] [(.int (own_cnt (0 : Int32) p2 p3 p4))])) _
    refine XS.goto X4.here hx rfl (pc0 := 40) (pc' := 44) rfl (hb hby d6_40) (by decide) (by decide) ?_
    show Steps p.tables e below (T4.setTop (mkF m 44 #[.val (.int p1), .val (.int p2), .val (.int p3), .val (.int p4), .val (.int (own_first p1 p2 p3 p4)), .unset, .unset, .unset] [(.int (own_cnt (0 : Int32) p2 p3 p4))])) _
    refine XS.istore X4.here hx rfl (hb hby d6_44) rfl (l' := #[.val (.int p1), .val (.int p2), .val (.int p3), .val (.int p4), .val (.int (own_first p1 p2 p3 p4)), .val (.int (own_cnt (0 : Int32) p2 p3 p4)), .unset, .unset]) rfl ?_
    show Steps p.tables e below (T4.setTop (mkF m 46 #[.val (.int p1), .val (.int p2), .val (.int p3), .val (.int p4), .val (.int (own_first p1 p2 p3 p4)), .val (.int (own_cnt (0 : Int32) p2 p3 p4)), .unset, .unset] [])) _
    refine XS.iconst X4.here hx rfl (hb hby d6_46) ?_
    show Steps p.tables e below (T4.setTop (mkF m 47 #[.val (.int p1), .val (.int p2), .val (.int p3), .val (.int p4), .val (.int (own_first p1 p2 p3 p4)), .val (.int (own_cnt (0 : Int32) p2 p3 p4)), .unset, .unset] [(.int (1 : Int32))])) _
    refine XS.iloadN X4.here hx rfl (hb hby d6_47) rfl ?_
    show Steps p.tables e below (T4.setTop (mkF m 48 #[.val (.int p1), .val (.int p2), .val (.int p3), .val (.int p4), .val (.int (own_first p1 p2 p3 p4)), .val (.int (own_cnt (0 : Int32) p2 p3 p4)), .unset, .unset] [(.int p2), (.int (1 : Int32))])) _
    refine XS.iloadN X4.here hx rfl (hb hby d6_48) rfl ?_
    show Steps p.tables e below (T4.setTop (mkF m 49 #[.val (.int p1), .val (.int p2), .val (.int p3), .val (.int p4), .val (.int (own_first p1 p2 p3 p4)), .val (.int (own_cnt (0 : Int32) p2 p3 p4)), .unset, .unset] [(.int p3), (.int p2), (.int (1 : Int32))])) _
    refine XS.iloadN X4.here hx rfl (hb hby d6_49) rfl ?_
    show Steps p.tables e below (T4.setTop (mkF m 50 #[.val (.int p1), .val (.int p2), .val (.int p3), .val (.int p4), .val (.int (own_first p1 p2 p3 p4)), .val (.int (own_cnt (0 : Int32) p2 p3 p4)), .unset, .unset] [(.int p4), (.int p3), (.int p2), (.int (1 : Int32))])) _
    refine st5 _ ?_
    show Steps p.tables e below (T5.setTop (mkF m 53 #[.val (.int p1), .val (.int p2), .val (.int p3), .val (.int p4), .val (.int (own_first p1 p2 p3 p4)), .val (.int (own_cnt (0 : Int32) p2 p3 p4)), .unset, .unset] [(.int (own_first (1 : Int32) p2 p3 p4))])) _
    refine XS.iload X5.here hx rfl (hb hby d6_53) rfl ?_
    show Steps p.tables e below (T5.setTop (mkF m 55 #[.val (.int p1), .val (.int p2), .val (.int p3), .val (.int p4), .val (.int (own_first p1 p2 p3 p4)), .val (.int (own_cnt (0 : Int32) p2 p3 p4)), .unset, .unset] [(.int (own_first p1 p2 p3 p4)), (.int (own_first (1 : Int32) p2 p3 p4))])) _
    refine XS.icmpNo X5.here hx rfl (hb hby d6_55) rfl (tlt q2).2.1 ?_
    show Steps p.tables e below (T5.setTop (mkF m 58 #[.val (.int p1), .val (.int p2), .val (.int p3), .val (.int p4), .val (.int (own_first p1 p2 p3 p4)), .val (.int (own_cnt (0 : Int32) p2 p3 p4)), .unset, .unset] [])) _
    refine XS.iconst X5.here hx rfl (hb hby d6_58) ?_
    show Steps p.tables e below (T5.setTop (mkF m 59 #[.val (.int p1), .val (.int p2), .val (.int p3), .val (.int p4), .val (.int (own_first p1 p2 p3 p4)), .val (.int (own_cnt (0 : Int32) p2 p3 p4)), .unset, .unset] [(.int (1 : Int32))])) _
    refine XS.iloadN X5.here hx rfl (hb hby d6_59) rfl ?_
    show Steps p.tables e below (T5.setTop (mkF m 60 #[.val (.int p1), .val (.int p2), .val (.int p3), .val (.int p4), .val (.int (own_first p1 p2 p3 p4)), .val (.int (own_cnt (0 : Int32) p2 p3 p4)), .unset, .unset] [(.int p2), (.int (1 : Int32))])) _
    refine XS.iloadN X5.here hx rfl (hb hby d6_60) rfl ?_
    show Steps p.tables e below (T5.setTop (mkF m 61 #[.val (.int p1), .val (.int p2), .val (.int p3), .val (.int p4), .val (.int (own_first p1 p2 p3 p4)), .val (.int (own_cnt (0 : Int32) p2 p3 p4)), .unset, .unset] [(.int p3), (.int p2), (.int (1 : Int32))])) _
    refine XS.iloadN X5.here hx rfl (hb hby d6_61) rfl ?_
    show Steps p.tables e below (T5.setTop (mkF m 62 #[.val (.int p1), .val (.int p2), .val (.int p3), .val (.int p4), .val (.int (own_first p1 p2 p3 p4)), .val (.int (own_cnt (0 : Int32) p2 p3 p4)), .unset, .unset] [(.int p4), (.int p3), (.int p2), (.int (1 : Int32))])) _
    refine st6 _ ?_
    show Steps p.tables e below (T6.setTop (mkF m 65 #[.val (.int p1), .val (.int p2), .val (.int p3), .val (.int p4), .val (.int (own_first p1 p2 p3 p4)), .val (.int (own_cnt (0 : Int32) p2 p3 p4)), .unset, .unset] [(.int (own_cnt (1 : Int32) p2 p3 p4))])) _
    refine XS.goto X6.here hx rfl (pc0 := 65) (pc' := 69) rfl (hb hby d6_65) (by decide) (by decide) ?_
    show Steps p.tables e below (T6.setTop (mkF m 69 #[.val (.int p1), .val (.int p2), .val (.int p3), .val (.int p4), .val (.int (own_first p1 p2 p3 p4)), .val (.int (own_cnt (0 : Int32) p2 p3 p4)), .unset, .unset] [(.int (own_cnt (1 : Int32) p2 p3 p4))])) _
    refine XS.istore X6.here hx rfl (hb hby d6_69) rfl (l' := #[.val (.int p1), .val (.int p2), .val (.int p3), .val (.int p4), .val (.int (own_first p1 p2 p3 p4)), .val (.int (own_cnt (0 : Int32) p2 p3 p4)), .val (.int (own_cnt (1 : Int32) p2 p3 p4)), .unset]) rfl ?_
    show Steps p.tables e below (T6.setTop (mkF m 71 #[.val (.int p1), .val (.int p2), .val (.int p3), .val (.int p4), .val (.int (own_first p1 p2 p3 p4)), .val (.int (own_cnt (0 : Int32) p2 p3 p4)), .val (.int (own_cnt (1 : Int32) p2 p3 p4)), .unset] [])) _
    refine XS.iconst X6.here hx rfl (hb hby d6_71) ?_
    show Steps p.tables e below (T6.setTop (mkF m 72 #[.val (.int p1), .val (.int p2), .val (.int p3), .val (.int p4), .val (.int (own_first p1 p2 p3 p4)), .val (.int (own_cnt (0 : Int32) p2 p3 p4)), .val (.int (own_cnt (1 : Int32) p2 p3 p4)), .unset] [(.int (2 : Int32))])) _
    refine XS.iloadN X6.here hx rfl (hb hby d6_72) rfl ?_
    show Steps p.tables e below (T6.setTop (mkF m 73 #[.val (.int p1), .val (.int p2), .val (.int p3), .val (.int p4), .val (.int (own_first p1 p2 p3 p4)), .val (.int (own_cnt (0 : Int32) p2 p3 p4)), .val (.int (own_cnt (1 : Int32) p2 p3 p4)), .unset] [(.int p2), (.int (2 : Int32))])) _
    refine XS.iloadN X6.here hx rfl (hb hby d6_73) rfl ?_
    show Steps p.tables e below (T6.setTop (mkF m 74 #[.val (.int p1), .val (.int p2), .val (.int p3), .val (.int p4), .val (.int (own_first p1 p2 p3 p4)), .val (.int (own_cnt (0 : Int32) p2 p3 p4)), .val (.int (own_cnt (1 : Int32) p2 p3 p4)), .unset] [(.int p3), (.int p2), (.int (2 : Int32))])) _
    refine XS.iloadN X6.here hx rfl (hb hby d6_74) rfl ?_
    show Steps p.tables e below (T6.setTop (mkF m 75 #[.val (.int p1), .val (.int p2), .val (.int p3), .val (.int p4), .val (.int (own_first p1 p2 p3 p4)), .val (.int (own_cnt (0 : Int32) p2 p3 p4)), .val (.int (own_cnt (1 : Int32) p2 p3 p4)), .unset] [(.int p4), (.int p3), (.int p2), (.int (2 : Int32))])) _
    refine st7 _ ?_
    show Steps p.tables e below (T7.setTop (mkF m 78 #[.val (.int p1), .val (.int p2), .val (.int p3), .val (.int p4), .val (.int (own_first p1 p2 p3 p4)), .val (.int (own_cnt (0 : Int32) p2 p3 p4)), .val (.int (own_cnt (1 : Int32) p2 p3 p4)), .unset] [(.int (own_first (2 : Int32) p2 p3 p4))])) _
    refine XS.iload X7.here hx rfl (hb hby d6_78) rfl ?_
    show Steps p.tables e below (T7.setTop (mkF m 80 #[.val (.int p1), .val (.int p2), .val (.int p3), .val (.int p4), .val (.int (own_first p1 p2 p3 p4)), .val (.int (own_cnt (0 : Int32) p2 p3 p4)), .val (.int (own_cnt (1 : Int32) p2 p3 p4)), .unset] [(.int (own_first p1 p2 p3 p4)), (.int (own_first (2 : Int32) p2 p3 p4))])) _
    refine XS.icmpYes X7.here hx rfl (pc0 := 80) (pc' := 93) rfl (hb hby d6_80) rfl (flt q3).2.1 (by decide) (by decide) ?_
    show Steps p.tables e below (T7.setTop (mkF m 93 #[.val (.int p1), .val (.int p2), .val (.int p3), .val (.int p4), .val (.int (own_first p1 p2 p3 p4)), .val (.int (own_cnt (0 : Int32) p2 p3 p4)), .val (.int (own_cnt (1 : Int32) p2 p3 p4)), .unset] [])) _
    refine XS.iconst X7.here hx rfl (hb hby d6_93) ?_
    show Steps p.tables e below (T7.setTop (mkF m 94 #[.val (.int p1), .val (.int p2), .val (.int p3), .val (.int p4), .val (.int (own_first p1 p2 p3 p4)), .val (.int (own_cnt (0 : Int32) p2 p3 p4)), .val (.int (own_cnt (1 : Int32) p2 p3 p4)), .unset] [(.int (0 : Int32))])) _
    refine XS.istore X7.here hx rfl (hb hby d6_94) rfl (l' := #[.val (.int p1), .val (.int p2), .val (.int p3), .val (.int p4), .val (.int (own_first p1 p2 p3 p4)), .val (.int (own_cnt (0 : Int32) p2 p3 p4)), .val (.int (own_cnt (1 : Int32) p2 p3 p4)), .val (.int (0 : Int32))]) rfl ?_
    show Steps p.tables e below (T7.setTop (mkF m 96 #[.val (.int p1), .val (.int p2), .val (.int p3), .val (.int p4), .val (.int (own_first p1 p2 p3 p4)), .val (.int (own_cnt (0 : Int32) p2 p3 p4)), .val (.int (own_cnt (1 : Int32) p2 p3 p4)), .val (.int (0 : Int32))] [])) _
    refine XS.iload X7.here hx rfl (hb hby d6_96) rfl ?_
    show Steps p.tables e below (T7.setTop (mkF m 98 #[.val (.int p1), .val (.int p2), .val (.int p3), .val (.int p4), .val (.int (own_first p1 p2 p3 p4)), .val (.int (own_cnt (0 : Int32) p2 p3 p4)), .val (.int (own_cnt (1 : Int32) p2 p3 p4)), .val (.int (0 : Int32))] [(.int (own_cnt (0 : Int32) p2 p3 p4))])) _
    refine XS.iload X7.here hx rfl (hb hby d6_98) rfl ?_
    show Steps p.tables e below (T7.setTop (mkF m 100 #[.val (.int p1), .val (.int p2), .val (.int p3), .val (.int p4), .val (.int (own_first p1 p2 p3 p4)), .val (.int (own_cnt (0 : Int32) p2 p3 p4)), .val (.int (own_cnt (1 : Int32) p2 p3 p4)), .val (.int (0 : Int32))] [(.int (own_cnt (1 : Int32) p2 p3 p4)), (.int (own_cnt (0 : Int32) p2 p3 p4))])) _
    refine XS.iadd X7.here hx rfl (hb hby d6_100) rfl ?_
    show Steps p.tables e below (T7.setTop (mkF m 101 #[.val (.int p1), .val (.int p2), .val (.int p3), .val (.int p4), .val (.int (own_first p1 p2 p3 p4)), .val (.int (own_cnt (0 : Int32) p2 p3 p4)), .val (.int (own_cnt (1 : Int32) p2 p3 p4)), .val (.int (0 : Int32))] [(.int ((own_cnt (0 : Int32) p2 p3 p4) + (own_cnt (1 : Int32) p2 p3 p4)))])) _
    refine XS.iload X7.here hx rfl (hb hby d6_101) rfl ?_
    show Steps p.tables e below (T7.setTop (mkF m 103 #[.val (.int p1), .val (.int p2), .val (.int p3), .val (.int p4), .val (.int (own_first p1 p2 p3 p4)), .val (.int (own_cnt (0 : Int32) p2 p3 p4)), .val (.int (own_cnt (1 : Int32) p2 p3 p4)), .val (.int (0 : Int32))] [(.int (0 : Int32)), (.int ((own_cnt (0 : Int32) p2 p3 p4) + (own_cnt (1 : Int32) p2 p3 p4)))])) _
    refine XS.iadd X7.here hx rfl (hb hby d6_103) rfl ?_
    show Steps p.tables e below (T7.setTop (mkF m 104 #[.val (.int p1), .val (.int p2), .val (.int p3), .val (.int p4), .val (.int (own_first p1 p2 p3 p4)), .val (.int (own_cnt (0 : Int32) p2 p3 p4)), .val (.int (own_cnt (1 : Int32) p2 p3 p4)), .val (.int (0 : Int32))] [(.int (((own_cnt (0 : Int32) p2 p3 p4) + (own_cnt (1 : Int32) p2 p3 p4)) + (0 : Int32)))])) _
    exact retI X7 hx Bd.returns (hb hby d6_104) hr
  · show Q6 Z p1 p2 p3 p4 h0 n0 _ T7.heap _
    rw [e7]
    have hm : own_ref p1 p2 p3 p4 = (((own_cnt (0 : Int32) p2 p3 p4) + (own_cnt (1 : Int32) p2 p3 p4)) + (0 : Int32)) := by unfold own_ref; rw [if_neg q0, if_pos q1, if_pos q2, if_neg q3]
    exact ⟨by rw [hm], N7, rfl⟩
set_option maxRecDepth 65536 in
set_option maxHeartbeats 40000000 in
theorem rm6_111 (l : Launch) (Z : State) (a0 : Array Value) (hw : ∀ d ∈ tables_1, d.before a0 Z = true) (ws : List Jvm.Cond) (p1 : Int32) (p2 : Int32) (p3 : Int32) (p4 : Int32) (h0 : Heap) (n0 : Nat) (Z0 : n0 ≤ h0.size) (q0 : ¬ (own_cnt p1 p2 p3 p4 = (0 : Int32))) (q1 : own_first (0 : Int32) p2 p3 p4 < own_first p1 p2 p3 p4) (q2 : own_first (1 : Int32) p2 p3 p4 < own_first p1 p2 p3 p4) (q3 : own_first (2 : Int32) p2 p3 p4 < own_first p1 p2 p3 p4) :
    MetFree l (⟨"com/example/prune/prune/mdp/ListsPlacePinLaw", "refStart", "(IIII)I"⟩ : MethodName) (head1 (Jvm.Cond.code (⟨"com/example/prune/prune/mdp/ListsPlacePinLaw", "refStart", "(IIII)I"⟩ : MethodName) method_4_code 8 (some .int) :: ws) ({ frames := 1, cells := 0, slots := 0, locals := 15 } : Room)) (fun a U => a = #[(.int p1), (.int p2), (.int p3), (.int p4)] ∧ Z.Warmed39 U.vm ∧ U.heap = h0) (fun _ _ _ _ _ => True) (fun _ U o U' => ∃ v L, o = .returned v ∧ Q6 Z p1 p2 p3 p4 h0 n0 v U'.heap L ∧ FrameEnd U o U' L ({ frames := 1, cells := 0, slots := 0, locals := 15 } : Room).cells ({ frames := 1, cells := 0, slots := 0, locals := 15 } : Room).slots) := by
  refine MetFree.of_bodySF (plainFor_of_name pn_6) hisR ?_
  intro p e s m args below meth c s₁ Bd hml0 hP hK
  obtain ⟨rfl, hZ, hh⟩ := hP
  have hx := Bd.exec
  have hby := Bd.bytes
  have hml : c.maxLocals = 8 := hml0
  have hown : s.vm.findClass "com/example/prune/prune/mdp/ListsPlacePinLaw" = some m.cls := findClass_of_methodNamed Bd.named
  have hnm := (name_of_methodNamed Bd.named Bd.method).1
  have X0 : Stand p l e ({ frames := 1, cells := 0, slots := 0, locals := 15 } : Room) s m #[(.int p1), (.int p2), (.int p3), (.int p4)] below meth c s₁ [] 0 0 := Stand.of_body Bd
  have e0 : s₁.heap = h0 := by rw [← hh, Bd.state]; rfl
  have N0 := Fr.nil n0
  have pre0 : ∀ t, Steps p.tables e below (s₁.setTop (mkF m 0 #[.val (.int p1), .val (.int p2), .val (.int p3), .val (.int p4), .unset, .unset, .unset, .unset] [])) t → Steps p.tables e below (s₁.setTop (entryFrame m #[(.int p1), (.int p2), (.int p3), (.int p4)] 8)) t := fun t k => castTop (ef_6 m p1 p2 p3 p4) k
  obtain ⟨_, _, ⟨T1, L1, k1, n1⟩, -, X1, ⟨Lc1, hQ1, l1, y1, z1⟩, st1⟩ := Jvm.LawKit.callS X0 hx (y := (⟨"com/example/prune/prune/mdp/ListsPlacePinLaw", "cnt", "(IIII)I"⟩ : MethodName)) hown (mvT hZ (hw _ (List.mem_of_getElem? (i := 39) rfl))) (mvT hZ (hw _ (List.mem_of_getElem? (i := 40) rfl))) (mvT hZ (hw _ (List.mem_of_getElem? (i := 37) rfl))) (mvT hZ (hw _ (List.mem_of_getElem? (i := 41) rfl))) (by decide) (backOf (W := 0) (rm7 l Z a0 hw [] p1 p2 p3 p4 h0 n0 Z0) hZ (hw _ (List.mem_of_getElem? (i := 41) rfl)) (hw _ (List.mem_of_getElem? (i := 37) rfl)) (by decide) (by decide)) (g := (mkF m 4 #[.val (.int p1), .val (.int p2), .val (.int p3), .val (.int p4), .unset, .unset, .unset, .unset] [(.int p4), (.int p3), (.int p2), (.int p1)])) rfl (by rw [hml]; rfl) (argsL := [(.int p1), (.int p2), (.int p3), (.int p4)]) (rest := []) (lenOf pd_6_0 rfl) rfl (by show 2 * 0 + _ ≤ _; exact Nat.le_of_eq rfl) (hb hby d6_4) (fun _ _ => ⟨rfl, e0, (by decide : 0 + 0 ≤ _), (by decide : 0 + 0 ≤ _)⟩)
  dsimp only [Pt.U, Pt.locs, Pt.cells, Pt.slots] at X1 l1 y1 z1 st1 hQ1
  subst l1 y1 z1
  obtain ⟨rfl, N1q, e1⟩ := hQ1
  have N1 := Fr.app N0 N1q
  obtain ⟨_, _, ⟨T2, L2, k2, n2⟩, -, X2, ⟨Lc2, hQ2, l2, y2, z2⟩, st2⟩ := Jvm.LawKit.callS X1 hx (y := (⟨"com/example/prune/prune/mdp/ListsPlacePinLaw", "first", "(IIII)I"⟩ : MethodName)) hown (mvT hZ (hw _ (List.mem_of_getElem? (i := 42) rfl))) (mvT hZ (hw _ (List.mem_of_getElem? (i := 43) rfl))) (mvT hZ (hw _ (List.mem_of_getElem? (i := 37) rfl))) (mvT hZ (hw _ (List.mem_of_getElem? (i := 44) rfl))) (by decide) (backOf (W := 0) (rm8 l Z a0 hw [] p1 p2 p3 p4 h0 n0 Z0) hZ (hw _ (List.mem_of_getElem? (i := 44) rfl)) (hw _ (List.mem_of_getElem? (i := 37) rfl)) (by decide) (by decide)) (g := (mkF m 16 #[.val (.int p1), .val (.int p2), .val (.int p3), .val (.int p4), .unset, .unset, .unset, .unset] [(.int p4), (.int p3), (.int p2), (.int p1)])) rfl (by rw [hml]; rfl) (argsL := [(.int p1), (.int p2), (.int p3), (.int p4)]) (rest := []) (lenOf pd_6_0 rfl) rfl (by show 2 * 0 + _ ≤ _; exact Nat.le_of_eq rfl) (hb hby d6_16) (fun _ _ => ⟨rfl, e1, (by decide : 0 + 0 ≤ _), (by decide : 0 + 0 ≤ _)⟩)
  dsimp only [Pt.U, Pt.locs, Pt.cells, Pt.slots] at X2 l2 y2 z2 st2 hQ2
  subst l2 y2 z2
  obtain ⟨rfl, N2q, e2⟩ := hQ2
  have N2 := Fr.app N1 N2q
  obtain ⟨_, _, ⟨T3, L3, k3, n3⟩, -, X3, ⟨Lc3, hQ3, l3, y3, z3⟩, st3⟩ := Jvm.LawKit.callS X2 hx (y := (⟨"com/example/prune/prune/mdp/ListsPlacePinLaw", "first", "(IIII)I"⟩ : MethodName)) hown (mvT hZ (hw _ (List.mem_of_getElem? (i := 42) rfl))) (mvT hZ (hw _ (List.mem_of_getElem? (i := 43) rfl))) (mvT hZ (hw _ (List.mem_of_getElem? (i := 37) rfl))) (mvT hZ (hw _ (List.mem_of_getElem? (i := 44) rfl))) (by decide) (backOf (W := 0) (rm8 l Z a0 hw [] (0 : Int32) p2 p3 p4 h0 n0 Z0) hZ (hw _ (List.mem_of_getElem? (i := 44) rfl)) (hw _ (List.mem_of_getElem? (i := 37) rfl)) (by decide) (by decide)) (g := (mkF m 25 #[.val (.int p1), .val (.int p2), .val (.int p3), .val (.int p4), .val (.int (own_first p1 p2 p3 p4)), .unset, .unset, .unset] [(.int p4), (.int p3), (.int p2), (.int (0 : Int32))])) rfl (by rw [hml]; rfl) (argsL := [(.int (0 : Int32)), (.int p2), (.int p3), (.int p4)]) (rest := []) (lenOf pd_6_0 rfl) rfl (by show 2 * 0 + _ ≤ _; exact Nat.le_of_eq rfl) (hb hby d6_25) (fun _ _ => ⟨rfl, e2, (by decide : 0 + 0 ≤ _), (by decide : 0 + 0 ≤ _)⟩)
  dsimp only [Pt.U, Pt.locs, Pt.cells, Pt.slots] at X3 l3 y3 z3 st3 hQ3
  subst l3 y3 z3
  obtain ⟨rfl, N3q, e3⟩ := hQ3
  have N3 := Fr.app N2 N3q
  obtain ⟨_, _, ⟨T4, L4, k4, n4⟩, -, X4, ⟨Lc4, hQ4, l4, y4, z4⟩, st4⟩ := Jvm.LawKit.callS X3 hx (y := (⟨"com/example/prune/prune/mdp/ListsPlacePinLaw", "cnt", "(IIII)I"⟩ : MethodName)) hown (mvT hZ (hw _ (List.mem_of_getElem? (i := 39) rfl))) (mvT hZ (hw _ (List.mem_of_getElem? (i := 40) rfl))) (mvT hZ (hw _ (List.mem_of_getElem? (i := 37) rfl))) (mvT hZ (hw _ (List.mem_of_getElem? (i := 41) rfl))) (by decide) (backOf (W := 0) (rm7 l Z a0 hw [] (0 : Int32) p2 p3 p4 h0 n0 Z0) hZ (hw _ (List.mem_of_getElem? (i := 41) rfl)) (hw _ (List.mem_of_getElem? (i := 37) rfl)) (by decide) (by decide)) (g := (mkF m 37 #[.val (.int p1), .val (.int p2), .val (.int p3), .val (.int p4), .val (.int (own_first p1 p2 p3 p4)), .unset, .unset, .unset] [(.int p4), (.int p3), (.int p2), (.int (0 : Int32))])) rfl (by rw [hml]; rfl) (argsL := [(.int (0 : Int32)), (.int p2), (.int p3), (.int p4)]) (rest := []) (lenOf pd_6_0 rfl) rfl (by show 2 * 0 + _ ≤ _; exact Nat.le_of_eq rfl) (hb hby d6_37) (fun _ _ => ⟨rfl, e3, (by decide : 0 + 0 ≤ _), (by decide : 0 + 0 ≤ _)⟩)
  dsimp only [Pt.U, Pt.locs, Pt.cells, Pt.slots] at X4 l4 y4 z4 st4 hQ4
  subst l4 y4 z4
  obtain ⟨rfl, N4q, e4⟩ := hQ4
  have N4 := Fr.app N3 N4q
  obtain ⟨_, _, ⟨T5, L5, k5, n5⟩, -, X5, ⟨Lc5, hQ5, l5, y5, z5⟩, st5⟩ := Jvm.LawKit.callS X4 hx (y := (⟨"com/example/prune/prune/mdp/ListsPlacePinLaw", "first", "(IIII)I"⟩ : MethodName)) hown (mvT hZ (hw _ (List.mem_of_getElem? (i := 42) rfl))) (mvT hZ (hw _ (List.mem_of_getElem? (i := 43) rfl))) (mvT hZ (hw _ (List.mem_of_getElem? (i := 37) rfl))) (mvT hZ (hw _ (List.mem_of_getElem? (i := 44) rfl))) (by decide) (backOf (W := 0) (rm8 l Z a0 hw [] (1 : Int32) p2 p3 p4 h0 n0 Z0) hZ (hw _ (List.mem_of_getElem? (i := 44) rfl)) (hw _ (List.mem_of_getElem? (i := 37) rfl)) (by decide) (by decide)) (g := (mkF m 50 #[.val (.int p1), .val (.int p2), .val (.int p3), .val (.int p4), .val (.int (own_first p1 p2 p3 p4)), .val (.int (own_cnt (0 : Int32) p2 p3 p4)), .unset, .unset] [(.int p4), (.int p3), (.int p2), (.int (1 : Int32))])) rfl (by rw [hml]; rfl) (argsL := [(.int (1 : Int32)), (.int p2), (.int p3), (.int p4)]) (rest := []) (lenOf pd_6_0 rfl) rfl (by show 2 * 0 + _ ≤ _; exact Nat.le_of_eq rfl) (hb hby d6_50) (fun _ _ => ⟨rfl, e4, (by decide : 0 + 0 ≤ _), (by decide : 0 + 0 ≤ _)⟩)
  dsimp only [Pt.U, Pt.locs, Pt.cells, Pt.slots] at X5 l5 y5 z5 st5 hQ5
  subst l5 y5 z5
  obtain ⟨rfl, N5q, e5⟩ := hQ5
  have N5 := Fr.app N4 N5q
  obtain ⟨_, _, ⟨T6, L6, k6, n6⟩, -, X6, ⟨Lc6, hQ6, l6, y6, z6⟩, st6⟩ := Jvm.LawKit.callS X5 hx (y := (⟨"com/example/prune/prune/mdp/ListsPlacePinLaw", "cnt", "(IIII)I"⟩ : MethodName)) hown (mvT hZ (hw _ (List.mem_of_getElem? (i := 39) rfl))) (mvT hZ (hw _ (List.mem_of_getElem? (i := 40) rfl))) (mvT hZ (hw _ (List.mem_of_getElem? (i := 37) rfl))) (mvT hZ (hw _ (List.mem_of_getElem? (i := 41) rfl))) (by decide) (backOf (W := 0) (rm7 l Z a0 hw [] (1 : Int32) p2 p3 p4 h0 n0 Z0) hZ (hw _ (List.mem_of_getElem? (i := 41) rfl)) (hw _ (List.mem_of_getElem? (i := 37) rfl)) (by decide) (by decide)) (g := (mkF m 62 #[.val (.int p1), .val (.int p2), .val (.int p3), .val (.int p4), .val (.int (own_first p1 p2 p3 p4)), .val (.int (own_cnt (0 : Int32) p2 p3 p4)), .unset, .unset] [(.int p4), (.int p3), (.int p2), (.int (1 : Int32))])) rfl (by rw [hml]; rfl) (argsL := [(.int (1 : Int32)), (.int p2), (.int p3), (.int p4)]) (rest := []) (lenOf pd_6_0 rfl) rfl (by show 2 * 0 + _ ≤ _; exact Nat.le_of_eq rfl) (hb hby d6_62) (fun _ _ => ⟨rfl, e5, (by decide : 0 + 0 ≤ _), (by decide : 0 + 0 ≤ _)⟩)
  dsimp only [Pt.U, Pt.locs, Pt.cells, Pt.slots] at X6 l6 y6 z6 st6 hQ6
  subst l6 y6 z6
  obtain ⟨rfl, N6q, e6⟩ := hQ6
  have N6 := Fr.app N5 N6q
  obtain ⟨_, _, ⟨T7, L7, k7, n7⟩, -, X7, ⟨Lc7, hQ7, l7, y7, z7⟩, st7⟩ := Jvm.LawKit.callS X6 hx (y := (⟨"com/example/prune/prune/mdp/ListsPlacePinLaw", "first", "(IIII)I"⟩ : MethodName)) hown (mvT hZ (hw _ (List.mem_of_getElem? (i := 42) rfl))) (mvT hZ (hw _ (List.mem_of_getElem? (i := 43) rfl))) (mvT hZ (hw _ (List.mem_of_getElem? (i := 37) rfl))) (mvT hZ (hw _ (List.mem_of_getElem? (i := 44) rfl))) (by decide) (backOf (W := 0) (rm8 l Z a0 hw [] (2 : Int32) p2 p3 p4 h0 n0 Z0) hZ (hw _ (List.mem_of_getElem? (i := 44) rfl)) (hw _ (List.mem_of_getElem? (i := 37) rfl)) (by decide) (by decide)) (g := (mkF m 75 #[.val (.int p1), .val (.int p2), .val (.int p3), .val (.int p4), .val (.int (own_first p1 p2 p3 p4)), .val (.int (own_cnt (0 : Int32) p2 p3 p4)), .val (.int (own_cnt (1 : Int32) p2 p3 p4)), .unset] [(.int p4), (.int p3), (.int p2), (.int (2 : Int32))])) rfl (by rw [hml]; rfl) (argsL := [(.int (2 : Int32)), (.int p2), (.int p3), (.int p4)]) (rest := []) (lenOf pd_6_0 rfl) rfl (by show 2 * 0 + _ ≤ _; exact Nat.le_of_eq rfl) (hb hby d6_75) (fun _ _ => ⟨rfl, e6, (by decide : 0 + 0 ≤ _), (by decide : 0 + 0 ≤ _)⟩)
  dsimp only [Pt.U, Pt.locs, Pt.cells, Pt.slots] at X7 l7 y7 z7 st7 hQ7
  subst l7 y7 z7
  obtain ⟨rfl, N7q, e7⟩ := hQ7
  have N7 := Fr.app N6 N7q
  obtain ⟨_, _, ⟨T8, L8, k8, n8⟩, -, X8, ⟨Lc8, hQ8, l8, y8, z8⟩, st8⟩ := Jvm.LawKit.callS X7 hx (y := (⟨"com/example/prune/prune/mdp/ListsPlacePinLaw", "cnt", "(IIII)I"⟩ : MethodName)) hown (mvT hZ (hw _ (List.mem_of_getElem? (i := 39) rfl))) (mvT hZ (hw _ (List.mem_of_getElem? (i := 40) rfl))) (mvT hZ (hw _ (List.mem_of_getElem? (i := 37) rfl))) (mvT hZ (hw _ (List.mem_of_getElem? (i := 41) rfl))) (by decide) (backOf (W := 0) (rm7 l Z a0 hw [] (2 : Int32) p2 p3 p4 h0 n0 Z0) hZ (hw _ (List.mem_of_getElem? (i := 41) rfl)) (hw _ (List.mem_of_getElem? (i := 37) rfl)) (by decide) (by decide)) (g := (mkF m 87 #[.val (.int p1), .val (.int p2), .val (.int p3), .val (.int p4), .val (.int (own_first p1 p2 p3 p4)), .val (.int (own_cnt (0 : Int32) p2 p3 p4)), .val (.int (own_cnt (1 : Int32) p2 p3 p4)), .unset] [(.int p4), (.int p3), (.int p2), (.int (2 : Int32))])) rfl (by rw [hml]; rfl) (argsL := [(.int (2 : Int32)), (.int p2), (.int p3), (.int p4)]) (rest := []) (lenOf pd_6_0 rfl) rfl (by show 2 * 0 + _ ≤ _; exact Nat.le_of_eq rfl) (hb hby d6_87) (fun _ _ => ⟨rfl, e7, (by decide : 0 + 0 ≤ _), (by decide : 0 + 0 ≤ _)⟩)
  dsimp only [Pt.U, Pt.locs, Pt.cells, Pt.slots] at X8 l8 y8 z8 st8 hQ8
  subst l8 y8 z8
  obtain ⟨rfl, N8q, e8⟩ := hQ8
  have N8 := Fr.app N7 N8q
  obtain ⟨fs, hr, hrun, hended, hW, hsame⟩ := X8.leave (v := some (.int (((own_cnt (0 : Int32) p2 p3 p4) + (own_cnt (1 : Int32) p2 p3 p4)) + (own_cnt (2 : Int32) p2 p3 p4)))) (fun h => by rw [Bd.returns] at h; cases h)
  refine ⟨_, _, pre0 _ ?_, hrun, hended, _, _, rfl, ?_, ⟨_, rfl⟩, hW, hsame.mono (by decide) (by decide)⟩
  · show Steps p.tables e below (s₁.setTop (mkF m 0 #[.val (.int p1), .val (.int p2), .val (.int p3), .val (.int p4), .unset, .unset, .unset, .unset] [])) _
    refine XS.iloadN X0.here hx rfl (hb hby d6_0) rfl ?_
    show Steps p.tables e below (s₁.setTop (mkF m 1 #[.val (.int p1), .val (.int p2), .val (.int p3), .val (.int p4), .unset, .unset, .unset, .unset] [(.int p1)])) _
    refine XS.iloadN X0.here hx rfl (hb hby d6_1) rfl ?_
    show Steps p.tables e below (s₁.setTop (mkF m 2 #[.val (.int p1), .val (.int p2), .val (.int p3), .val (.int p4), .unset, .unset, .unset, .unset] [(.int p2), (.int p1)])) _
    refine XS.iloadN X0.here hx rfl (hb hby d6_2) rfl ?_
    show Steps p.tables e below (s₁.setTop (mkF m 3 #[.val (.int p1), .val (.int p2), .val (.int p3), .val (.int p4), .unset, .unset, .unset, .unset] [(.int p3), (.int p2), (.int p1)])) _
    refine XS.iloadN X0.here hx rfl (hb hby d6_3) rfl ?_
    show Steps p.tables e below (s₁.setTop (mkF m 4 #[.val (.int p1), .val (.int p2), .val (.int p3), .val (.int p4), .unset, .unset, .unset, .unset] [(.int p4), (.int p3), (.int p2), (.int p1)])) _
    refine st1 _ ?_
    show Steps p.tables e below (T1.setTop (mkF m 7 #[.val (.int p1), .val (.int p2), .val (.int p3), .val (.int p4), .unset, .unset, .unset, .unset] [(.int (own_cnt p1 p2 p3 p4))])) _
    refine XS.ifYes X1.here hx rfl (pc0 := 7) (pc' := 12) rfl (hb hby d6_7) rfl ((if0 _ _).trans (feq q0).2) (by decide) (by decide) ?_
    show Steps p.tables e below (T1.setTop (mkF m 12 #[.val (.int p1), .val (.int p2), .val (.int p3), .val (.int p4), .unset, .unset, .unset, .unset] [])) _
    refine XS.iloadN X1.here hx rfl (hb hby d6_12) rfl ?_
    show Steps p.tables e below (T1.setTop (mkF m 13 #[.val (.int p1), .val (.int p2), .val (.int p3), .val (.int p4), .unset, .unset, .unset, .unset] [(.int p1)])) _
    refine XS.iloadN X1.here hx rfl (hb hby d6_13) rfl ?_
    show Steps p.tables e below (T1.setTop (mkF m 14 #[.val (.int p1), .val (.int p2), .val (.int p3), .val (.int p4), .unset, .unset, .unset, .unset] [(.int p2), (.int p1)])) _
    refine XS.iloadN X1.here hx rfl (hb hby d6_14) rfl ?_
    show Steps p.tables e below (T1.setTop (mkF m 15 #[.val (.int p1), .val (.int p2), .val (.int p3), .val (.int p4), .unset, .unset, .unset, .unset] [(.int p3), (.int p2), (.int p1)])) _
    refine XS.iloadN X1.here hx rfl (hb hby d6_15) rfl ?_
    show Steps p.tables e below (T1.setTop (mkF m 16 #[.val (.int p1), .val (.int p2), .val (.int p3), .val (.int p4), .unset, .unset, .unset, .unset] [(.int p4), (.int p3), (.int p2), (.int p1)])) _
    refine st2 _ ?_
    show Steps p.tables e below (T2.setTop (mkF m 19 #[.val (.int p1), .val (.int p2), .val (.int p3), .val (.int p4), .unset, .unset, .unset, .unset] [(.int (own_first p1 p2 p3 p4))])) _
    refine XS.istore X2.here hx rfl (hb hby d6_19) rfl (l' := #[.val (.int p1), .val (.int p2), .val (.int p3), .val (.int p4), .val (.int (own_first p1 p2 p3 p4)), .unset, .unset, .unset]) rfl ?_
    show Steps p.tables e below (T2.setTop (mkF m 21 #[.val (.int p1), .val (.int p2), .val (.int p3), .val (.int p4), .val (.int (own_first p1 p2 p3 p4)), .unset, .unset, .unset] [])) _
    refine XS.iconst X2.here hx rfl (hb hby d6_21) ?_
    show Steps p.tables e below (T2.setTop (mkF m 22 #[.val (.int p1), .val (.int p2), .val (.int p3), .val (.int p4), .val (.int (own_first p1 p2 p3 p4)), .unset, .unset, .unset] [(.int (0 : Int32))])) _
    refine XS.iloadN X2.here hx rfl (hb hby d6_22) rfl ?_
    show Steps p.tables e below (T2.setTop (mkF m 23 #[.val (.int p1), .val (.int p2), .val (.int p3), .val (.int p4), .val (.int (own_first p1 p2 p3 p4)), .unset, .unset, .unset] [(.int p2), (.int (0 : Int32))])) _
    refine XS.iloadN X2.here hx rfl (hb hby d6_23) rfl ?_
    show Steps p.tables e below (T2.setTop (mkF m 24 #[.val (.int p1), .val (.int p2), .val (.int p3), .val (.int p4), .val (.int (own_first p1 p2 p3 p4)), .unset, .unset, .unset] [(.int p3), (.int p2), (.int (0 : Int32))])) _
    refine XS.iloadN X2.here hx rfl (hb hby d6_24) rfl ?_
    show Steps p.tables e below (T2.setTop (mkF m 25 #[.val (.int p1), .val (.int p2), .val (.int p3), .val (.int p4), .val (.int (own_first p1 p2 p3 p4)), .unset, .unset, .unset] [(.int p4), (.int p3), (.int p2), (.int (0 : Int32))])) _
    refine st3 _ ?_
    show Steps p.tables e below (T3.setTop (mkF m 28 #[.val (.int p1), .val (.int p2), .val (.int p3), .val (.int p4), .val (.int (own_first p1 p2 p3 p4)), .unset, .unset, .unset] [(.int (own_first (0 : Int32) p2 p3 p4))])) _
    refine XS.iload X3.here hx rfl (hb hby d6_28) rfl ?_
    show Steps p.tables e below (T3.setTop (mkF m 30 #[.val (.int p1), .val (.int p2), .val (.int p3), .val (.int p4), .val (.int (own_first p1 p2 p3 p4)), .unset, .unset, .unset] [(.int (own_first p1 p2 p3 p4)), (.int (own_first (0 : Int32) p2 p3 p4))])) _
    refine XS.icmpNo X3.here hx rfl (hb hby d6_30) rfl (tlt q1).2.1 ?_
    show Steps p.tables e below (T3.setTop (mkF m 33 #[.val (.int p1), .val (.int p2), .val (.int p3), .val (.int p4), .val (.int (own_first p1 p2 p3 p4)), .unset, .unset, .unset] [])) _
    refine XS.iconst X3.here hx rfl (hb hby d6_33) ?_
    show Steps p.tables e below (T3.setTop (mkF m 34 #[.val (.int p1), .val (.int p2), .val (.int p3), .val (.int p4), .val (.int (own_first p1 p2 p3 p4)), .unset, .unset, .unset] [(.int (0 : Int32))])) _
    refine XS.iloadN X3.here hx rfl (hb hby d6_34) rfl ?_
    show Steps p.tables e below (T3.setTop (mkF m 35 #[.val (.int p1), .val (.int p2), .val (.int p3), .val (.int p4), .val (.int (own_first p1 p2 p3 p4)), .unset, .unset, .unset] [(.int p2), (.int (0 : Int32))])) _
    refine XS.iloadN X3.here hx rfl (hb hby d6_35) rfl ?_
    show Steps p.tables e below (T3.setTop (mkF m 36 #[.val (.int p1), .val (.int p2), .val (.int p3), .val (.int p4), .val (.int (own_first p1 p2 p3 p4)), .unset, .unset, .unset] [(.int p3), (.int p2), (.int (0 : Int32))])) _
    refine XS.iloadN X3.here hx rfl (hb hby d6_36) rfl ?_
    show Steps p.tables e below (T3.setTop (mkF m 37 #[.val (.int p1), .val (.int p2), .val (.int p3), .val (.int p4), .val (.int (own_first p1 p2 p3 p4)), .unset, .unset, .unset] [(.int p4), (.int p3), (.int p2), (.int (0 : Int32))])) _
    refine st4 _ ?_
    show Steps p.tables e below (T4.setTop (mkF m 40 #[.val (.int p1), .val (.int p2), .val (.int p3), .val (.int p4), .val (.int (own_first p1 p2 p3 p4)), .unset, .unset, .unset] [(.int (own_cnt (0 : Int32) p2 p3 p4))])) _
    refine XS.goto X4.here hx rfl (pc0 := 40) (pc' := 44) rfl (hb hby d6_40) (by decide) (by decide) ?_
    show Steps p.tables e below (T4.setTop (mkF m 44 #[.val (.int p1), .val (.int p2), .val (.int p3), .val (.int p4), .val (.int (own_first p1 p2 p3 p4)), .unset, .unset, .unset] [(.int (own_cnt (0 : Int32) p2 p3 p4))])) _
    refine XS.istore X4.here hx rfl (hb hby d6_44) rfl (l' := #[.val (.int p1), .val (.int p2), .val (.int p3), .val (.int p4), .val (.int (own_first p1 p2 p3 p4)), .val (.int (own_cnt (0 : Int32) p2 p3 p4)), .unset, .unset]) rfl ?_
    show Steps p.tables e below (T4.setTop (mkF m 46 #[.val (.int p1), .val (.int p2), .val (.int p3), .val (.int p4), .val (.int (own_first p1 p2 p3 p4)), .val (.int (own_cnt (0 : Int32) p2 p3 p4)), .unset, .unset] [])) _
    refine XS.iconst X4.here hx rfl (hb hby d6_46) ?_
    show Steps p.tables e below (T4.setTop (mkF m 47 #[.val (.int p1), .val (.int p2), .val (.int p3), .val (.int p4), .val (.int (own_first p1 p2 p3 p4)), .val (.int (own_cnt (0 : Int32) p2 p3 p4)), .unset, .unset] [(.int (1 : Int32))])) _
    refine XS.iloadN X4.here hx rfl (hb hby d6_47) rfl ?_
    show Steps p.tables e below (T4.setTop (mkF m 48 #[.val (.int p1), .val (.int p2), .val (.int p3), .val (.int p4), .val (.int (own_first p1 p2 p3 p4)), .val (.int (own_cnt (0 : Int32) p2 p3 p4)), .unset, .unset] [(.int p2), (.int (1 : Int32))])) _
    refine XS.iloadN X4.here hx rfl (hb hby d6_48) rfl ?_
    show Steps p.tables e below (T4.setTop (mkF m 49 #[.val (.int p1), .val (.int p2), .val (.int p3), .val (.int p4), .val (.int (own_first p1 p2 p3 p4)), .val (.int (own_cnt (0 : Int32) p2 p3 p4)), .unset, .unset] [(.int p3), (.int p2), (.int (1 : Int32))])) _
    refine XS.iloadN X4.here hx rfl (hb hby d6_49) rfl ?_
    show Steps p.tables e below (T4.setTop (mkF m 50 #[.val (.int p1), .val (.int p2), .val (.int p3), .val (.int p4), .val (.int (own_first p1 p2 p3 p4)), .val (.int (own_cnt (0 : Int32) p2 p3 p4)), .unset, .unset] [(.int p4), (.int p3), (.int p2), (.int (1 : Int32))])) _
    refine st5 _ ?_
    show Steps p.tables e below (T5.setTop (mkF m 53 #[.val (.int p1), .val (.int p2), .val (.int p3), .val (.int p4), .val (.int (own_first p1 p2 p3 p4)), .val (.int (own_cnt (0 : Int32) p2 p3 p4)), .unset, .unset] [(.int (own_first (1 : Int32) p2 p3 p4))])) _
    refine XS.iload X5.here hx rfl (hb hby d6_53) rfl ?_
    show Steps p.tables e below (T5.setTop (mkF m 55 #[.val (.int p1), .val (.int p2), .val (.int p3), .val (.int p4), .val (.int (own_first p1 p2 p3 p4)), .val (.int (own_cnt (0 : Int32) p2 p3 p4)), .unset, .unset] [(.int (own_first p1 p2 p3 p4)), (.int (own_first (1 : Int32) p2 p3 p4))])) _
    refine XS.icmpNo X5.here hx rfl (hb hby d6_55) rfl (tlt q2).2.1 ?_
    show Steps p.tables e below (T5.setTop (mkF m 58 #[.val (.int p1), .val (.int p2), .val (.int p3), .val (.int p4), .val (.int (own_first p1 p2 p3 p4)), .val (.int (own_cnt (0 : Int32) p2 p3 p4)), .unset, .unset] [])) _
    refine XS.iconst X5.here hx rfl (hb hby d6_58) ?_
    show Steps p.tables e below (T5.setTop (mkF m 59 #[.val (.int p1), .val (.int p2), .val (.int p3), .val (.int p4), .val (.int (own_first p1 p2 p3 p4)), .val (.int (own_cnt (0 : Int32) p2 p3 p4)), .unset, .unset] [(.int (1 : Int32))])) _
    refine XS.iloadN X5.here hx rfl (hb hby d6_59) rfl ?_
    show Steps p.tables e below (T5.setTop (mkF m 60 #[.val (.int p1), .val (.int p2), .val (.int p3), .val (.int p4), .val (.int (own_first p1 p2 p3 p4)), .val (.int (own_cnt (0 : Int32) p2 p3 p4)), .unset, .unset] [(.int p2), (.int (1 : Int32))])) _
    refine XS.iloadN X5.here hx rfl (hb hby d6_60) rfl ?_
    show Steps p.tables e below (T5.setTop (mkF m 61 #[.val (.int p1), .val (.int p2), .val (.int p3), .val (.int p4), .val (.int (own_first p1 p2 p3 p4)), .val (.int (own_cnt (0 : Int32) p2 p3 p4)), .unset, .unset] [(.int p3), (.int p2), (.int (1 : Int32))])) _
    refine XS.iloadN X5.here hx rfl (hb hby d6_61) rfl ?_
    show Steps p.tables e below (T5.setTop (mkF m 62 #[.val (.int p1), .val (.int p2), .val (.int p3), .val (.int p4), .val (.int (own_first p1 p2 p3 p4)), .val (.int (own_cnt (0 : Int32) p2 p3 p4)), .unset, .unset] [(.int p4), (.int p3), (.int p2), (.int (1 : Int32))])) _
    refine st6 _ ?_
    show Steps p.tables e below (T6.setTop (mkF m 65 #[.val (.int p1), .val (.int p2), .val (.int p3), .val (.int p4), .val (.int (own_first p1 p2 p3 p4)), .val (.int (own_cnt (0 : Int32) p2 p3 p4)), .unset, .unset] [(.int (own_cnt (1 : Int32) p2 p3 p4))])) _
    refine XS.goto X6.here hx rfl (pc0 := 65) (pc' := 69) rfl (hb hby d6_65) (by decide) (by decide) ?_
    show Steps p.tables e below (T6.setTop (mkF m 69 #[.val (.int p1), .val (.int p2), .val (.int p3), .val (.int p4), .val (.int (own_first p1 p2 p3 p4)), .val (.int (own_cnt (0 : Int32) p2 p3 p4)), .unset, .unset] [(.int (own_cnt (1 : Int32) p2 p3 p4))])) _
    refine XS.istore X6.here hx rfl (hb hby d6_69) rfl (l' := #[.val (.int p1), .val (.int p2), .val (.int p3), .val (.int p4), .val (.int (own_first p1 p2 p3 p4)), .val (.int (own_cnt (0 : Int32) p2 p3 p4)), .val (.int (own_cnt (1 : Int32) p2 p3 p4)), .unset]) rfl ?_
    show Steps p.tables e below (T6.setTop (mkF m 71 #[.val (.int p1), .val (.int p2), .val (.int p3), .val (.int p4), .val (.int (own_first p1 p2 p3 p4)), .val (.int (own_cnt (0 : Int32) p2 p3 p4)), .val (.int (own_cnt (1 : Int32) p2 p3 p4)), .unset] [])) _
    refine XS.iconst X6.here hx rfl (hb hby d6_71) ?_
    show Steps p.tables e below (T6.setTop (mkF m 72 #[.val (.int p1), .val (.int p2), .val (.int p3), .val (.int p4), .val (.int (own_first p1 p2 p3 p4)), .val (.int (own_cnt (0 : Int32) p2 p3 p4)), .val (.int (own_cnt (1 : Int32) p2 p3 p4)), .unset] [(.int (2 : Int32))])) _
    refine XS.iloadN X6.here hx rfl (hb hby d6_72) rfl ?_
    show Steps p.tables e below (T6.setTop (mkF m 73 #[.val (.int p1), .val (.int p2), .val (.int p3), .val (.int p4), .val (.int (own_first p1 p2 p3 p4)), .val (.int (own_cnt (0 : Int32) p2 p3 p4)), .val (.int (own_cnt (1 : Int32) p2 p3 p4)), .unset] [(.int p2), (.int (2 : Int32))])) _
    refine XS.iloadN X6.here hx rfl (hb hby d6_73) rfl ?_
    show Steps p.tables e below (T6.setTop (mkF m 74 #[.val (.int p1), .val (.int p2), .val (.int p3), .val (.int p4), .val (.int (own_first p1 p2 p3 p4)), .val (.int (own_cnt (0 : Int32) p2 p3 p4)), .val (.int (own_cnt (1 : Int32) p2 p3 p4)), .unset] [(.int p3), (.int p2), (.int (2 : Int32))])) _
    refine XS.iloadN X6.here hx rfl (hb hby d6_74) rfl ?_
    show Steps p.tables e below (T6.setTop (mkF m 75 #[.val (.int p1), .val (.int p2), .val (.int p3), .val (.int p4), .val (.int (own_first p1 p2 p3 p4)), .val (.int (own_cnt (0 : Int32) p2 p3 p4)), .val (.int (own_cnt (1 : Int32) p2 p3 p4)), .unset] [(.int p4), (.int p3), (.int p2), (.int (2 : Int32))])) _
    refine st7 _ ?_
    show Steps p.tables e below (T7.setTop (mkF m 78 #[.val (.int p1), .val (.int p2), .val (.int p3), .val (.int p4), .val (.int (own_first p1 p2 p3 p4)), .val (.int (own_cnt (0 : Int32) p2 p3 p4)), .val (.int (own_cnt (1 : Int32) p2 p3 p4)), .unset] [(.int (own_first (2 : Int32) p2 p3 p4))])) _
    refine XS.iload X7.here hx rfl (hb hby d6_78) rfl ?_
    show Steps p.tables e below (T7.setTop (mkF m 80 #[.val (.int p1), .val (.int p2), .val (.int p3), .val (.int p4), .val (.int (own_first p1 p2 p3 p4)), .val (.int (own_cnt (0 : Int32) p2 p3 p4)), .val (.int (own_cnt (1 : Int32) p2 p3 p4)), .unset] [(.int (own_first p1 p2 p3 p4)), (.int (own_first (2 : Int32) p2 p3 p4))])) _
    refine XS.icmpNo X7.here hx rfl (hb hby d6_80) rfl (tlt q3).2.1 ?_
    show Steps p.tables e below (T7.setTop (mkF m 83 #[.val (.int p1), .val (.int p2), .val (.int p3), .val (.int p4), .val (.int (own_first p1 p2 p3 p4)), .val (.int (own_cnt (0 : Int32) p2 p3 p4)), .val (.int (own_cnt (1 : Int32) p2 p3 p4)), .unset] [])) _
    refine XS.iconst X7.here hx rfl (hb hby d6_83) ?_
    show Steps p.tables e below (T7.setTop (mkF m 84 #[.val (.int p1), .val (.int p2), .val (.int p3), .val (.int p4), .val (.int (own_first p1 p2 p3 p4)), .val (.int (own_cnt (0 : Int32) p2 p3 p4)), .val (.int (own_cnt (1 : Int32) p2 p3 p4)), .unset] [(.int (2 : Int32))])) _
    refine XS.iloadN X7.here hx rfl (hb hby d6_84) rfl ?_
    show Steps p.tables e below (T7.setTop (mkF m 85 #[.val (.int p1), .val (.int p2), .val (.int p3), .val (.int p4), .val (.int (own_first p1 p2 p3 p4)), .val (.int (own_cnt (0 : Int32) p2 p3 p4)), .val (.int (own_cnt (1 : Int32) p2 p3 p4)), .unset] [(.int p2), (.int (2 : Int32))])) _
    refine XS.iloadN X7.here hx rfl (hb hby d6_85) rfl ?_
    show Steps p.tables e below (T7.setTop (mkF m 86 #[.val (.int p1), .val (.int p2), .val (.int p3), .val (.int p4), .val (.int (own_first p1 p2 p3 p4)), .val (.int (own_cnt (0 : Int32) p2 p3 p4)), .val (.int (own_cnt (1 : Int32) p2 p3 p4)), .unset] [(.int p3), (.int p2), (.int (2 : Int32))])) _
    refine XS.iloadN X7.here hx rfl (hb hby d6_86) rfl ?_
    show Steps p.tables e below (T7.setTop (mkF m 87 #[.val (.int p1), .val (.int p2), .val (.int p3), .val (.int p4), .val (.int (own_first p1 p2 p3 p4)), .val (.int (own_cnt (0 : Int32) p2 p3 p4)), .val (.int (own_cnt (1 : Int32) p2 p3 p4)), .unset] [(.int p4), (.int p3), (.int p2), (.int (2 : Int32))])) _
    refine st8 _ ?_
    show Steps p.tables e below (T8.setTop (mkF m 90 #[.val (.int p1), .val (.int p2), .val (.int p3), .val (.int p4), .val (.int (own_first p1 p2 p3 p4)), .val (.int (own_cnt (0 : Int32) p2 p3 p4)), .val (.int (own_cnt (1 : Int32) p2 p3 p4)), .unset] [(.int (own_cnt (2 : Int32) p2 p3 p4))])) _
    refine XS.goto X8.here hx rfl (pc0 := 90) (pc' := 94) rfl (hb hby d6_90) (by decide) (by decide) ?_
    show Steps p.tables e below (T8.setTop (mkF m 94 #[.val (.int p1), .val (.int p2), .val (.int p3), .val (.int p4), .val (.int (own_first p1 p2 p3 p4)), .val (.int (own_cnt (0 : Int32) p2 p3 p4)), .val (.int (own_cnt (1 : Int32) p2 p3 p4)), .unset] [(.int (own_cnt (2 : Int32) p2 p3 p4))])) _
    refine XS.istore X8.here hx rfl (hb hby d6_94) rfl (l' := #[.val (.int p1), .val (.int p2), .val (.int p3), .val (.int p4), .val (.int (own_first p1 p2 p3 p4)), .val (.int (own_cnt (0 : Int32) p2 p3 p4)), .val (.int (own_cnt (1 : Int32) p2 p3 p4)), .val (.int (own_cnt (2 : Int32) p2 p3 p4))]) rfl ?_
    show Steps p.tables e below (T8.setTop (mkF m 96 #[.val (.int p1), .val (.int p2), .val (.int p3), .val (.int p4), .val (.int (own_first p1 p2 p3 p4)), .val (.int (own_cnt (0 : Int32) p2 p3 p4)), .val (.int (own_cnt (1 : Int32) p2 p3 p4)), .val (.int (own_cnt (2 : Int32) p2 p3 p4))] [])) _
    refine XS.iload X8.here hx rfl (hb hby d6_96) rfl ?_
    show Steps p.tables e below (T8.setTop (mkF m 98 #[.val (.int p1), .val (.int p2), .val (.int p3), .val (.int p4), .val (.int (own_first p1 p2 p3 p4)), .val (.int (own_cnt (0 : Int32) p2 p3 p4)), .val (.int (own_cnt (1 : Int32) p2 p3 p4)), .val (.int (own_cnt (2 : Int32) p2 p3 p4))] [(.int (own_cnt (0 : Int32) p2 p3 p4))])) _
    refine XS.iload X8.here hx rfl (hb hby d6_98) rfl ?_
    show Steps p.tables e below (T8.setTop (mkF m 100 #[.val (.int p1), .val (.int p2), .val (.int p3), .val (.int p4), .val (.int (own_first p1 p2 p3 p4)), .val (.int (own_cnt (0 : Int32) p2 p3 p4)), .val (.int (own_cnt (1 : Int32) p2 p3 p4)), .val (.int (own_cnt (2 : Int32) p2 p3 p4))] [(.int (own_cnt (1 : Int32) p2 p3 p4)), (.int (own_cnt (0 : Int32) p2 p3 p4))])) _
    refine XS.iadd X8.here hx rfl (hb hby d6_100) rfl ?_
    show Steps p.tables e below (T8.setTop (mkF m 101 #[.val (.int p1), .val (.int p2), .val (.int p3), .val (.int p4), .val (.int (own_first p1 p2 p3 p4)), .val (.int (own_cnt (0 : Int32) p2 p3 p4)), .val (.int (own_cnt (1 : Int32) p2 p3 p4)), .val (.int (own_cnt (2 : Int32) p2 p3 p4))] [(.int ((own_cnt (0 : Int32) p2 p3 p4) + (own_cnt (1 : Int32) p2 p3 p4)))])) _
    refine XS.iload X8.here hx rfl (hb hby d6_101) rfl ?_
    show Steps p.tables e below (T8.setTop (mkF m 103 #[.val (.int p1), .val (.int p2), .val (.int p3), .val (.int p4), .val (.int (own_first p1 p2 p3 p4)), .val (.int (own_cnt (0 : Int32) p2 p3 p4)), .val (.int (own_cnt (1 : Int32) p2 p3 p4)), .val (.int (own_cnt (2 : Int32) p2 p3 p4))] [(.int (own_cnt (2 : Int32) p2 p3 p4)), (.int ((own_cnt (0 : Int32) p2 p3 p4) + (own_cnt (1 : Int32) p2 p3 p4)))])) _
    refine XS.iadd X8.here hx rfl (hb hby d6_103) rfl ?_
    show Steps p.tables e below (T8.setTop (mkF m 104 #[.val (.int p1), .val (.int p2), .val (.int p3), .val (.int p4), .val (.int (own_first p1 p2 p3 p4)), .val (.int (own_cnt (0 : Int32) p2 p3 p4)), .val (.int (own_cnt (1 : Int32) p2 p3 p4)), .val (.int (own_cnt (2 : Int32) p2 p3 p4))] [(.int (((own_cnt (0 : Int32) p2 p3 p4) + (own_cnt (1 : Int32) p2 p3 p4)) + (own_cnt (2 : Int32) p2 p3 p4)))])) _
    exact retI X8 hx Bd.returns (hb hby d6_104) hr
  · show Q6 Z p1 p2 p3 p4 h0 n0 _ T8.heap _
    rw [e8]
    have hm : own_ref p1 p2 p3 p4 = (((own_cnt (0 : Int32) p2 p3 p4) + (own_cnt (1 : Int32) p2 p3 p4)) + (own_cnt (2 : Int32) p2 p3 p4)) := by unfold own_ref; rw [if_neg q0, if_pos q1, if_pos q2, if_pos q3]
    exact ⟨by rw [hm], N8, rfl⟩
set_option maxRecDepth 65536 in
set_option maxHeartbeats 40000000 in
theorem rm6 (l : Launch) (Z : State) (a0 : Array Value) (hw : ∀ d ∈ tables_1, d.before a0 Z = true) (ws : List Jvm.Cond) (p1 : Int32) (p2 : Int32) (p3 : Int32) (p4 : Int32) (h0 : Heap) (n0 : Nat) (Z0 : n0 ≤ h0.size)  :
    MetFree l (⟨"com/example/prune/prune/mdp/ListsPlacePinLaw", "refStart", "(IIII)I"⟩ : MethodName) (head1 (Jvm.Cond.code (⟨"com/example/prune/prune/mdp/ListsPlacePinLaw", "refStart", "(IIII)I"⟩ : MethodName) method_4_code 8 (some .int) :: ws) ({ frames := 1, cells := 0, slots := 0, locals := 15 } : Room)) (fun a U => a = #[(.int p1), (.int p2), (.int p3), (.int p4)] ∧ Z.Warmed39 U.vm ∧ U.heap = h0) (fun _ _ _ _ _ => True) (fun _ U o U' => ∃ v L, o = .returned v ∧ Q6 Z p1 p2 p3 p4 h0 n0 v U'.heap L ∧ FrameEnd U o U' L ({ frames := 1, cells := 0, slots := 0, locals := 15 } : Room).cells ({ frames := 1, cells := 0, slots := 0, locals := 15 } : Room).slots) := by
  by_cases q0 : own_cnt p1 p2 p3 p4 = (0 : Int32)
  · exact rm6_z l Z a0 hw ws p1 p2 p3 p4 h0 n0 Z0 q0
  · by_cases q1 : own_first (0 : Int32) p2 p3 p4 < own_first p1 p2 p3 p4
    · by_cases q2 : own_first (1 : Int32) p2 p3 p4 < own_first p1 p2 p3 p4
      · by_cases q3 : own_first (2 : Int32) p2 p3 p4 < own_first p1 p2 p3 p4
        · exact rm6_111 l Z a0 hw ws p1 p2 p3 p4 h0 n0 Z0 q0 q1 q2 q3
        · exact rm6_110 l Z a0 hw ws p1 p2 p3 p4 h0 n0 Z0 q0 q1 q2 q3
      · by_cases q3 : own_first (2 : Int32) p2 p3 p4 < own_first p1 p2 p3 p4
        · exact rm6_101 l Z a0 hw ws p1 p2 p3 p4 h0 n0 Z0 q0 q1 q2 q3
        · exact rm6_100 l Z a0 hw ws p1 p2 p3 p4 h0 n0 Z0 q0 q1 q2 q3
    · by_cases q2 : own_first (1 : Int32) p2 p3 p4 < own_first p1 p2 p3 p4
      · by_cases q3 : own_first (2 : Int32) p2 p3 p4 < own_first p1 p2 p3 p4
        · exact rm6_011 l Z a0 hw ws p1 p2 p3 p4 h0 n0 Z0 q0 q1 q2 q3
        · exact rm6_010 l Z a0 hw ws p1 p2 p3 p4 h0 n0 Z0 q0 q1 q2 q3
      · by_cases q3 : own_first (2 : Int32) p2 p3 p4 < own_first p1 p2 p3 p4
        · exact rm6_001 l Z a0 hw ws p1 p2 p3 p4 h0 n0 Z0 q0 q1 q2 q3
        · exact rm6_000 l Z a0 hw ws p1 p2 p3 p4 h0 n0 Z0 q0 q1 q2 q3
theorem d4_0 : decode prog_50_method_4_code 0 = .ok (.iconst 0, 1) := by decide +kernel
theorem d4_1 : decode prog_50_method_4_code 1 = .ok (.istore_n 1, 1) := by decide +kernel
theorem d4_2 : decode prog_50_method_4_code 2 = .ok (.iconst 0, 1) := by decide +kernel
theorem d4_3 : decode prog_50_method_4_code 3 = .ok (.istore_n 2, 1) := by decide +kernel
theorem d4_4 : decode prog_50_method_4_code 4 = .ok (.iload_n 2, 1) := by decide +kernel
theorem d4_5 : decode prog_50_method_4_code 5 = .ok (.aload_n 0, 1) := by decide +kernel
theorem d4_6 : decode prog_50_method_4_code 6 = .ok (.getfield 22, 3) := by decide +kernel
theorem d4_9 : decode prog_50_method_4_code 9 = .ok (.if_icmp .ge 44, 3) := by decide +kernel
theorem d4_12 : decode prog_50_method_4_code 12 = .ok (.aload_n 0, 1) := by decide +kernel
theorem d4_13 : decode prog_50_method_4_code 13 = .ok (.getfield 19, 3) := by decide +kernel
theorem d4_16 : decode prog_50_method_4_code 16 = .ok (.iload_n 2, 1) := by decide +kernel
theorem d4_17 : decode prog_50_method_4_code 17 = .ok (.iaload, 1) := by decide +kernel
theorem d4_18 : decode prog_50_method_4_code 18 = .ok (.istore_n 3, 1) := by decide +kernel
theorem d4_19 : decode prog_50_method_4_code 19 = .ok (.aload_n 0, 1) := by decide +kernel
theorem d4_20 : decode prog_50_method_4_code 20 = .ok (.getfield 13, 3) := by decide +kernel
theorem d4_23 : decode prog_50_method_4_code 23 = .ok (.iload_n 3, 1) := by decide +kernel
theorem d4_24 : decode prog_50_method_4_code 24 = .ok (.iload_n 1, 1) := by decide +kernel
theorem d4_25 : decode prog_50_method_4_code 25 = .ok (.iastore, 1) := by decide +kernel
theorem d4_26 : decode prog_50_method_4_code 26 = .ok (.iload_n 1, 1) := by decide +kernel
theorem d4_27 : decode prog_50_method_4_code 27 = .ok (.aload_n 0, 1) := by decide +kernel
theorem d4_28 : decode prog_50_method_4_code 28 = .ok (.getfield 16, 3) := by decide +kernel
theorem d4_31 : decode prog_50_method_4_code 31 = .ok (.iload_n 3, 1) := by decide +kernel
theorem d4_32 : decode prog_50_method_4_code 32 = .ok (.iaload, 1) := by decide +kernel
theorem d4_33 : decode prog_50_method_4_code 33 = .ok (.iadd, 1) := by decide +kernel
theorem d4_34 : decode prog_50_method_4_code 34 = .ok (.istore_n 1, 1) := by decide +kernel
theorem d4_35 : decode prog_50_method_4_code 35 = .ok (.aload_n 0, 1) := by decide +kernel
theorem d4_36 : decode prog_50_method_4_code 36 = .ok (.getfield 16, 3) := by decide +kernel
theorem d4_39 : decode prog_50_method_4_code 39 = .ok (.iload_n 3, 1) := by decide +kernel
theorem d4_40 : decode prog_50_method_4_code 40 = .ok (.aload_n 0, 1) := by decide +kernel
theorem d4_41 : decode prog_50_method_4_code 41 = .ok (.getfield 13, 3) := by decide +kernel
theorem d4_44 : decode prog_50_method_4_code 44 = .ok (.iload_n 3, 1) := by decide +kernel
theorem d4_45 : decode prog_50_method_4_code 45 = .ok (.iaload, 1) := by decide +kernel
theorem d4_46 : decode prog_50_method_4_code 46 = .ok (.iastore, 1) := by decide +kernel
theorem d4_47 : decode prog_50_method_4_code 47 = .ok (.iinc 2 1, 3) := by decide +kernel
theorem d4_50 : decode prog_50_method_4_code 50 = .ok (.goto (-46), 3) := by decide +kernel
theorem d4_53 : decode prog_50_method_4_code 53 = .ok (.aload_n 0, 1) := by decide +kernel
theorem d4_54 : decode prog_50_method_4_code 54 = .ok (.aload_n 0, 1) := by decide +kernel
theorem d4_55 : decode prog_50_method_4_code 55 = .ok (.getfield 7, 3) := by decide +kernel
theorem d4_58 : decode prog_50_method_4_code 58 = .ok (.arraylength, 1) := by decide +kernel
theorem d4_59 : decode prog_50_method_4_code 59 = .ok (.iload_n 1, 1) := by decide +kernel
theorem d4_60 : decode prog_50_method_4_code 60 = .ok (.if_icmp .ge 9, 3) := by decide +kernel
theorem d4_63 : decode prog_50_method_4_code 63 = .ok (.iload_n 1, 1) := by decide +kernel
theorem d4_64 : decode prog_50_method_4_code 64 = .ok (.newarray .int, 2) := by decide +kernel
theorem d4_66 : decode prog_50_method_4_code 66 = .ok (.goto 7, 3) := by decide +kernel
theorem d4_69 : decode prog_50_method_4_code 69 = .ok (.aload_n 0, 1) := by decide +kernel
theorem d4_70 : decode prog_50_method_4_code 70 = .ok (.getfield 7, 3) := by decide +kernel
theorem d4_73 : decode prog_50_method_4_code 73 = .ok (.putfield 7, 3) := by decide +kernel
theorem d4_76 : decode prog_50_method_4_code 76 = .ok (.return_, 1) := by decide +kernel
theorem pn_4 : plainName "com/example/prune/prune/mdp/Lists" = true := by first | (simp [plainName, overriddenIn]; done) | decide +kernel
theorem ef_4 (m : MethodId) (x0 : Addr) : entryFrame m #[(.ref x0)] 4 = mkF m 0 #[.val (.ref x0), .unset, .unset, .unset] [] := by first | (simp [entryFrame, mkF, argsToLocals, Value.category]; done) | rfl
set_option maxRecDepth 65536 in
set_option maxHeartbeats 40000000 in
theorem ptn {p : Program} {l : Launch} {e : Env} {R : Room} {s : State} {m : MethodId} {args : Array Value} {below : List Frame} {meth : Method} {c : Code} {T0 : State} {locs : List Loc} {cells slots : Nat} {Z : State} {a0 : Array Value} {h0 : Heap} (a1 : Addr) (tot : Int32) (i : Int32) (s3 : Slot) (key : Int32) (ni : Nat) (st : List Int32) (en : List Int32) (co : List Int32) (ky : Int32) (n0 : Nat) (X0 : Stand p l e R s m args below meth c T0 locs cells slots) (hx : p.tables.exec = Jvm.exec) (hZ : Z.Warmed39 s.vm) (hw : ∀ d ∈ tables_1, d.before a0 Z = true) (hby : c.code = prog_50_method_4_code) (hml : c.maxLocals = 4) (hown : s.vm.findClass "com/example/prune/prune/mdp/Lists" = some m.cls) (e0 : T0.heap = h0) (N0 : Fr n0 locs) (Z0 : n0 ≤ h0.size) (HS : own_S Z h0 n0 a1 (ni, st, en, co, ky)) (hs3 : One s3) (hkey : key = co.getD (i).toNatClampNeg 0) (hlt : i < ky) (hi0 : ¬ i < 0) (hi1 : i.toNatClampNeg < co.length) (hk0 : ¬ key < 0) (hk1 : key.toNatClampNeg < st.length) (hk2 : key.toNatClampNeg < en.length) :
    ∃ (T' : State) (h' : Heap) (locs' : List Loc), Stand p l e R s m args below meth c T' locs' cells slots ∧ T'.heap = h' ∧ Fr n0 locs' ∧ n0 ≤ h'.size ∧ own_S Z h' n0 a1 (ni, (own_pt st en key tot).1, (own_pt st en key tot).2, co, ky) ∧
      ∀ t, Steps p.tables e below (T'.setTop (mkF m 4 #[.val (.ref a1), .val (.int (tot + (en.getD (key).toNatClampNeg 0))), .val (.int (i + (1 : Int32))), .val (.int key)] [])) t → Steps p.tables e below (T0.setTop (mkF m 4 #[.val (.ref a1), .val (.int tot), .val (.int i), s3] [])) t := by
  obtain ⟨bI, bS, bE, bC, its, Ex0, F0_items, F0_starts, F0_ends, F0_counted, F0_keys, VI0, hni, VS0, VE0, VC0, ⟨nIS, nIE, nIC, nSE, nSC, nEC⟩, ⟨aI, aS, aE, aC⟩, ⟨ga, gI, gS, gE, gC⟩⟩ := id HS
  have VV0_I : own_I Z h0 bI its := VI0
  have VV0_S : own_I Z h0 bS st := VS0
  have VV0_E : own_I Z h0 bE en := VE0
  have VV0_C : own_I Z h0 bC co := VC0
  have FF0_keys : Fld Z h0 a1 "com/example/prune/prune/mdp/Lists" "keys" "I" (.int ky) := F0_keys
  obtain ⟨T1, X1, e1, st1⟩ := getF X0 hx hZ hown (host := "") (Or.inl (hw _ (List.mem_of_getElem? (i := 23) rfl))) Via.refl e0 FF0_keys (g := (mkF m 6 #[.val (.ref a1), .val (.int tot), .val (.int i), s3] [(.ref a1), (.int i)])) rfl rfl (hb hby d4_6)
  obtain ⟨T2, X2, e2, st2⟩ := getF X1 hx hZ hown (host := "") (Or.inl (hw _ (List.mem_of_getElem? (i := 16) rfl))) Via.refl e1 F0_counted (g := (mkF m 13 #[.val (.ref a1), .val (.int tot), .val (.int i), s3] [(.ref a1)])) rfl rfl (hb hby d4_13)
  obtain ⟨hl3, k3, cl3, Ar3, qq3, S3, M3, H3, G3⟩ := id VV0_C
  obtain ⟨T4, X4, e4, st4⟩ := getF X2 hx hZ hown (host := "") (Or.inl (hw _ (List.mem_of_getElem? (i := 12) rfl))) Via.refl e2 F0_starts (g := (mkF m 20 #[.val (.ref a1), .val (.int tot), .val (.int i), .val (.int key)] [(.ref a1)])) rfl rfl (hb hby d4_20)
  obtain ⟨hl5, k5, cl5, Ar5, qq5, S5, M5, H5, G5⟩ := id VV0_S
  obtain ⟨T6, h6, X6, e6, W6, st6⟩ := stI X4 hx hZ e4 Ar5 (j := key) (own_hin S5 hl5 hk0 hk1) (g := (mkF m 25 #[.val (.ref a1), .val (.int tot), .val (.int i), .val (.int key)] [(.int tot), (.int key), (.ref bS)])) rfl rfl (hb hby d4_25)
  have F6_items : Fld Z h6 a1 "com/example/prune/prune/mdp/Lists" "items" "[I" (.ref bI) := (F0_items).other W6 (Or.inl aS)
  have F6_starts : Fld Z h6 a1 "com/example/prune/prune/mdp/Lists" "starts" "[I" (.ref bS) := (F0_starts).other W6 (Or.inl aS)
  have F6_ends : Fld Z h6 a1 "com/example/prune/prune/mdp/Lists" "ends" "[I" (.ref bE) := (F0_ends).other W6 (Or.inl aS)
  have F6_counted : Fld Z h6 a1 "com/example/prune/prune/mdp/Lists" "counted" "[I" (.ref bC) := (F0_counted).other W6 (Or.inl aS)
  have F6_keys : Fld Z h6 a1 "com/example/prune/prune/mdp/Lists" "keys" "I" (.int ky) := (FF0_keys).other W6 (Or.inl aS)
  have Ex6 : Exa Z h6 a1 "com/example/prune/prune/mdp/Lists" := (Ex0).wr W6
  have Zs6 : n0 ≤ h6.size := Nat.le_trans Z0 (Keep.of_wr W6).1
  have V6_I : own_I Z h6 bI its := own_I.other VV0_I W6 nIS
  have V6_S : own_I Z h6 bS (st.set (key).toNatClampNeg tot) := own_I.put VV0_S W6 hk1
  have V6_E : own_I Z h6 bE en := own_I.other VV0_E W6 (Ne.symm nSE)
  have V6_C : own_I Z h6 bC co := own_I.other VV0_C W6 (Ne.symm nSC)
  have N6 := Fr.snoc X6 N0 gS
  obtain ⟨T7, X7, e7, st7⟩ := getF X6 hx hZ hown (host := "") (Or.inl (hw _ (List.mem_of_getElem? (i := 14) rfl))) Via.refl e6 F6_ends (g := (mkF m 28 #[.val (.ref a1), .val (.int tot), .val (.int i), .val (.int key)] [(.ref a1), (.int tot)])) rfl rfl (hb hby d4_28)
  obtain ⟨hl8, k8, cl8, Ar8, qq8, S8, M8, H8, G8⟩ := id V6_E
  obtain ⟨T9, X9, e9, st9⟩ := getF X7 hx hZ hown (host := "") (Or.inl (hw _ (List.mem_of_getElem? (i := 14) rfl))) Via.refl e7 F6_ends (g := (mkF m 36 #[.val (.ref a1), .val (.int (tot + (en.getD (key).toNatClampNeg 0))), .val (.int i), .val (.int key)] [(.ref a1)])) rfl rfl (hb hby d4_36)
  obtain ⟨T10, X10, e10, st10⟩ := getF X9 hx hZ hown (host := "") (Or.inl (hw _ (List.mem_of_getElem? (i := 12) rfl))) Via.refl e9 F6_starts (g := (mkF m 41 #[.val (.ref a1), .val (.int (tot + (en.getD (key).toNatClampNeg 0))), .val (.int i), .val (.int key)] [(.ref a1), (.int key), (.ref bE)])) rfl rfl (hb hby d4_41)
  obtain ⟨hl11, k11, cl11, Ar11, qq11, S11, M11, H11, G11⟩ := id V6_S
  have hk3 : key.toNatClampNeg < (st.set (key).toNatClampNeg tot).length := by rw [List.length_set]; exact hk1
  obtain ⟨hl12, k12, cl12, Ar12, qq12, S12, M12, H12, G12⟩ := id V6_E
  obtain ⟨T13, h13, X13, e13, W13, st13⟩ := stI X10 hx hZ e10 Ar12 (j := key) (own_hin S12 hl12 hk0 hk2) (g := (mkF m 46 #[.val (.ref a1), .val (.int (tot + (en.getD (key).toNatClampNeg 0))), .val (.int i), .val (.int key)] [(.int ((st.set (key).toNatClampNeg tot).getD (key).toNatClampNeg 0)), (.int key), (.ref bE)])) rfl rfl (hb hby d4_46)
  have F13_items : Fld Z h13 a1 "com/example/prune/prune/mdp/Lists" "items" "[I" (.ref bI) := (F6_items).other W13 (Or.inl aE)
  have F13_starts : Fld Z h13 a1 "com/example/prune/prune/mdp/Lists" "starts" "[I" (.ref bS) := (F6_starts).other W13 (Or.inl aE)
  have F13_ends : Fld Z h13 a1 "com/example/prune/prune/mdp/Lists" "ends" "[I" (.ref bE) := (F6_ends).other W13 (Or.inl aE)
  have F13_counted : Fld Z h13 a1 "com/example/prune/prune/mdp/Lists" "counted" "[I" (.ref bC) := (F6_counted).other W13 (Or.inl aE)
  have F13_keys : Fld Z h13 a1 "com/example/prune/prune/mdp/Lists" "keys" "I" (.int ky) := (F6_keys).other W13 (Or.inl aE)
  have Ex13 : Exa Z h13 a1 "com/example/prune/prune/mdp/Lists" := (Ex6).wr W13
  have Zs13 : n0 ≤ h13.size := Nat.le_trans Zs6 (Keep.of_wr W13).1
  have V13_I : own_I Z h13 bI its := own_I.other V6_I W13 nIE
  have V13_S : own_I Z h13 bS (st.set (key).toNatClampNeg tot) := own_I.other V6_S W13 nSE
  have V13_E : own_I Z h13 bE (en.set (key).toNatClampNeg ((st.set (key).toNatClampNeg tot).getD (key).toNatClampNeg 0)) := own_I.put V6_E W13 hk2
  have V13_C : own_I Z h13 bC co := own_I.other V6_C W13 (Ne.symm nEC)
  have N13 := Fr.snoc X13 N6 gE
  refine ⟨T13, h13, _, X13, e13, N13, Zs13, ⟨bI, bS, bE, bC, its, Ex13, F13_items, F13_starts, F13_ends, F13_counted, F13_keys, V13_I, hni, V13_S, V13_E, V13_C, ⟨nIS, nIE, nIC, nSE, nSC, nEC⟩, ⟨aI, aS, aE, aC⟩, ⟨ga, gI, gS, gE, gC⟩⟩, fun t k => ?_⟩
  show Steps p.tables e below (T0.setTop (mkF m 4 #[.val (.ref a1), .val (.int tot), .val (.int i), s3] [])) _
  refine XS.iloadN X0.here hx rfl (hb hby d4_4) rfl ?_
  show Steps p.tables e below (T0.setTop (mkF m 5 #[.val (.ref a1), .val (.int tot), .val (.int i), s3] [(.int i)])) _
  refine XS.aloadN X0.here hx rfl (hb hby d4_5) rfl rfl ?_
  show Steps p.tables e below (T0.setTop (mkF m 6 #[.val (.ref a1), .val (.int tot), .val (.int i), s3] [(.ref a1), (.int i)])) _
  refine st1 _ ?_
  show Steps p.tables e below (T1.setTop (mkF m 9 #[.val (.ref a1), .val (.int tot), .val (.int i), s3] [(.int ky), (.int i)])) _
  refine XS.icmpNo X1.here hx rfl (hb hby d4_9) rfl (tlt hlt).2.1 ?_
  show Steps p.tables e below (T1.setTop (mkF m 12 #[.val (.ref a1), .val (.int tot), .val (.int i), s3] [])) _
  refine XS.aloadN X1.here hx rfl (hb hby d4_12) rfl rfl ?_
  show Steps p.tables e below (T1.setTop (mkF m 13 #[.val (.ref a1), .val (.int tot), .val (.int i), s3] [(.ref a1)])) _
  refine st2 _ ?_
  show Steps p.tables e below (T2.setTop (mkF m 16 #[.val (.ref a1), .val (.int tot), .val (.int i), s3] [(.ref bC)])) _
  refine XS.iloadN X2.here hx rfl (hb hby d4_16) rfl ?_
  show Steps p.tables e below (T2.setTop (mkF m 17 #[.val (.ref a1), .val (.int tot), .val (.int i), s3] [(.int i), (.ref bC)])) _
  refine X2.iaload hx (j := i) (v := (.int key)) (by first | exact Ar3.1 | (rw [e2]; exact Ar3.1)) (State.isArrayOf_alike hZ.alike Ar3.2.1) Ar3.2.2 (own_hin S3 hl3 hi0 hi1) (by rw [hkey]; exact (own_hat S3 H3 hl3 hi1)) (g := (mkF m 17 #[.val (.ref a1), .val (.int tot), .val (.int i), s3] [(.int i), (.ref bC)])) rfl rfl (hb hby d4_17) _ ?_
  show Steps p.tables e below (T2.setTop (mkF m 18 #[.val (.ref a1), .val (.int tot), .val (.int i), s3] [(.int key)])) _
  refine XS.istoreN X2.here hx rfl (hb hby d4_18) rfl (l' := #[.val (.ref a1), .val (.int tot), .val (.int i), .val (.int key)]) (own_os3 hs3) ?_
  show Steps p.tables e below (T2.setTop (mkF m 19 #[.val (.ref a1), .val (.int tot), .val (.int i), .val (.int key)] [])) _
  refine XS.aloadN X2.here hx rfl (hb hby d4_19) rfl rfl ?_
  show Steps p.tables e below (T2.setTop (mkF m 20 #[.val (.ref a1), .val (.int tot), .val (.int i), .val (.int key)] [(.ref a1)])) _
  refine st4 _ ?_
  show Steps p.tables e below (T4.setTop (mkF m 23 #[.val (.ref a1), .val (.int tot), .val (.int i), .val (.int key)] [(.ref bS)])) _
  refine XS.iloadN X4.here hx rfl (hb hby d4_23) rfl ?_
  show Steps p.tables e below (T4.setTop (mkF m 24 #[.val (.ref a1), .val (.int tot), .val (.int i), .val (.int key)] [(.int key), (.ref bS)])) _
  refine XS.iloadN X4.here hx rfl (hb hby d4_24) rfl ?_
  show Steps p.tables e below (T4.setTop (mkF m 25 #[.val (.ref a1), .val (.int tot), .val (.int i), .val (.int key)] [(.int tot), (.int key), (.ref bS)])) _
  refine st6 _ ?_
  show Steps p.tables e below (T6.setTop (mkF m 26 #[.val (.ref a1), .val (.int tot), .val (.int i), .val (.int key)] [])) _
  refine XS.iloadN X6.here hx rfl (hb hby d4_26) rfl ?_
  show Steps p.tables e below (T6.setTop (mkF m 27 #[.val (.ref a1), .val (.int tot), .val (.int i), .val (.int key)] [(.int tot)])) _
  refine XS.aloadN X6.here hx rfl (hb hby d4_27) rfl rfl ?_
  show Steps p.tables e below (T6.setTop (mkF m 28 #[.val (.ref a1), .val (.int tot), .val (.int i), .val (.int key)] [(.ref a1), (.int tot)])) _
  refine st7 _ ?_
  show Steps p.tables e below (T7.setTop (mkF m 31 #[.val (.ref a1), .val (.int tot), .val (.int i), .val (.int key)] [(.ref bE), (.int tot)])) _
  refine XS.iloadN X7.here hx rfl (hb hby d4_31) rfl ?_
  show Steps p.tables e below (T7.setTop (mkF m 32 #[.val (.ref a1), .val (.int tot), .val (.int i), .val (.int key)] [(.int key), (.ref bE), (.int tot)])) _
  refine X7.iaload hx (j := key) (v := (.int (en.getD (key).toNatClampNeg 0))) (by first | exact Ar8.1 | (rw [e7]; exact Ar8.1)) (State.isArrayOf_alike hZ.alike Ar8.2.1) Ar8.2.2 (own_hin S8 hl8 hk0 hk2) (own_hat S8 H8 hl8 hk2) (g := (mkF m 32 #[.val (.ref a1), .val (.int tot), .val (.int i), .val (.int key)] [(.int key), (.ref bE), (.int tot)])) rfl rfl (hb hby d4_32) _ ?_
  show Steps p.tables e below (T7.setTop (mkF m 33 #[.val (.ref a1), .val (.int tot), .val (.int i), .val (.int key)] [(.int (en.getD (key).toNatClampNeg 0)), (.int tot)])) _
  refine XS.iadd X7.here hx rfl (hb hby d4_33) rfl ?_
  show Steps p.tables e below (T7.setTop (mkF m 34 #[.val (.ref a1), .val (.int tot), .val (.int i), .val (.int key)] [(.int (tot + (en.getD (key).toNatClampNeg 0)))])) _
  refine XS.istoreN X7.here hx rfl (hb hby d4_34) rfl (l' := #[.val (.ref a1), .val (.int (tot + (en.getD (key).toNatClampNeg 0))), .val (.int i), .val (.int key)]) rfl ?_
  show Steps p.tables e below (T7.setTop (mkF m 35 #[.val (.ref a1), .val (.int (tot + (en.getD (key).toNatClampNeg 0))), .val (.int i), .val (.int key)] [])) _
  refine XS.aloadN X7.here hx rfl (hb hby d4_35) rfl rfl ?_
  show Steps p.tables e below (T7.setTop (mkF m 36 #[.val (.ref a1), .val (.int (tot + (en.getD (key).toNatClampNeg 0))), .val (.int i), .val (.int key)] [(.ref a1)])) _
  refine st9 _ ?_
  show Steps p.tables e below (T9.setTop (mkF m 39 #[.val (.ref a1), .val (.int (tot + (en.getD (key).toNatClampNeg 0))), .val (.int i), .val (.int key)] [(.ref bE)])) _
  refine XS.iloadN X9.here hx rfl (hb hby d4_39) rfl ?_
  show Steps p.tables e below (T9.setTop (mkF m 40 #[.val (.ref a1), .val (.int (tot + (en.getD (key).toNatClampNeg 0))), .val (.int i), .val (.int key)] [(.int key), (.ref bE)])) _
  refine XS.aloadN X9.here hx rfl (hb hby d4_40) rfl rfl ?_
  show Steps p.tables e below (T9.setTop (mkF m 41 #[.val (.ref a1), .val (.int (tot + (en.getD (key).toNatClampNeg 0))), .val (.int i), .val (.int key)] [(.ref a1), (.int key), (.ref bE)])) _
  refine st10 _ ?_
  show Steps p.tables e below (T10.setTop (mkF m 44 #[.val (.ref a1), .val (.int (tot + (en.getD (key).toNatClampNeg 0))), .val (.int i), .val (.int key)] [(.ref bS), (.int key), (.ref bE)])) _
  refine XS.iloadN X10.here hx rfl (hb hby d4_44) rfl ?_
  show Steps p.tables e below (T10.setTop (mkF m 45 #[.val (.ref a1), .val (.int (tot + (en.getD (key).toNatClampNeg 0))), .val (.int i), .val (.int key)] [(.int key), (.ref bS), (.int key), (.ref bE)])) _
  refine X10.iaload hx (j := key) (v := (.int ((st.set (key).toNatClampNeg tot).getD (key).toNatClampNeg 0))) (by first | exact Ar11.1 | (rw [e10]; exact Ar11.1)) (State.isArrayOf_alike hZ.alike Ar11.2.1) Ar11.2.2 (own_hin S11 hl11 hk0 hk3) (own_hat S11 H11 hl11 hk3) (g := (mkF m 45 #[.val (.ref a1), .val (.int (tot + (en.getD (key).toNatClampNeg 0))), .val (.int i), .val (.int key)] [(.int key), (.ref bS), (.int key), (.ref bE)])) rfl rfl (hb hby d4_45) _ ?_
  show Steps p.tables e below (T10.setTop (mkF m 46 #[.val (.ref a1), .val (.int (tot + (en.getD (key).toNatClampNeg 0))), .val (.int i), .val (.int key)] [(.int ((st.set (key).toNatClampNeg tot).getD (key).toNatClampNeg 0)), (.int key), (.ref bE)])) _
  refine st13 _ ?_
  show Steps p.tables e below (T13.setTop (mkF m 47 #[.val (.ref a1), .val (.int (tot + (en.getD (key).toNatClampNeg 0))), .val (.int i), .val (.int key)] [])) _
  refine XS.iinc X13.here hx rfl (hb hby d4_47) rfl (l' := #[.val (.ref a1), .val (.int (tot + (en.getD (key).toNatClampNeg 0))), .val (.int (i + (1 : Int32))), .val (.int key)]) rfl ?_
  show Steps p.tables e below (T13.setTop (mkF m 50 #[.val (.ref a1), .val (.int (tot + (en.getD (key).toNatClampNeg 0))), .val (.int (i + (1 : Int32))), .val (.int key)] [])) _
  refine XS.goto X13.here hx rfl (pc0 := 50) (pc' := 4) rfl (hb hby d4_50) (by decide) (by decide) ?_
  exact k
set_option maxRecDepth 65536 in
set_option maxHeartbeats 40000000 in
theorem plv {p : Program} {l : Launch} {e : Env} {R : Room} {s : State} {m : MethodId} {args : Array Value} {below : List Frame} {meth : Method} {c : Code} {T0 : State} {locs : List Loc} {cells slots : Nat} {Z : State} {a0 : Array Value} {h0 : Heap} (a1 : Addr) (tot : Int32) (i : Int32) (s3 : Slot) (ni : Nat) (st : List Int32) (en : List Int32) (co : List Int32) (ky : Int32) (n0 : Nat) (X0 : Stand p l e R s m args below meth c T0 locs cells slots) (hx : p.tables.exec = Jvm.exec) (hZ : Z.Warmed39 s.vm) (hw : ∀ d ∈ tables_1, d.before a0 Z = true) (hby : c.code = prog_50_method_4_code) (hml : c.maxLocals = 4) (hown : s.vm.findClass "com/example/prune/prune/mdp/Lists" = some m.cls) (e0 : T0.heap = h0) (N0 : Fr n0 locs) (Z0 : n0 ≤ h0.size) (HS : own_S Z h0 n0 a1 (ni, st, en, co, ky)) (hge : ¬ (i < ky)) :
    ∃ (T' : State) (h' : Heap) (locs' : List Loc), Stand p l e R s m args below meth c T' locs' cells slots ∧ T'.heap = h' ∧ Fr n0 locs' ∧ n0 ≤ h'.size ∧ own_S Z h' n0 a1 (ni, st, en, co, ky) ∧
      ∀ t, Steps p.tables e below (T'.setTop (mkF m 53 #[.val (.ref a1), .val (.int tot), .val (.int i), s3] [])) t → Steps p.tables e below (T0.setTop (mkF m 4 #[.val (.ref a1), .val (.int tot), .val (.int i), s3] [])) t := by
  obtain ⟨bI, bS, bE, bC, its, Ex0, F0_items, F0_starts, F0_ends, F0_counted, F0_keys, VI0, hni, VS0, VE0, VC0, ⟨nIS, nIE, nIC, nSE, nSC, nEC⟩, ⟨aI, aS, aE, aC⟩, ⟨ga, gI, gS, gE, gC⟩⟩ := id HS
  have VV0_I : own_I Z h0 bI its := VI0
  have VV0_S : own_I Z h0 bS st := VS0
  have VV0_E : own_I Z h0 bE en := VE0
  have VV0_C : own_I Z h0 bC co := VC0
  have FF0_keys : Fld Z h0 a1 "com/example/prune/prune/mdp/Lists" "keys" "I" (.int ky) := F0_keys
  obtain ⟨T1, X1, e1, st1⟩ := getF X0 hx hZ hown (host := "") (Or.inl (hw _ (List.mem_of_getElem? (i := 23) rfl))) Via.refl e0 FF0_keys (g := (mkF m 6 #[.val (.ref a1), .val (.int tot), .val (.int i), s3] [(.ref a1), (.int i)])) rfl rfl (hb hby d4_6)
  refine ⟨T1, h0, _, X1, e1, N0, Z0, HS, fun t k => ?_⟩
  show Steps p.tables e below (T0.setTop (mkF m 4 #[.val (.ref a1), .val (.int tot), .val (.int i), s3] [])) _
  refine XS.iloadN X0.here hx rfl (hb hby d4_4) rfl ?_
  show Steps p.tables e below (T0.setTop (mkF m 5 #[.val (.ref a1), .val (.int tot), .val (.int i), s3] [(.int i)])) _
  refine XS.aloadN X0.here hx rfl (hb hby d4_5) rfl rfl ?_
  show Steps p.tables e below (T0.setTop (mkF m 6 #[.val (.ref a1), .val (.int tot), .val (.int i), s3] [(.ref a1), (.int i)])) _
  refine st1 _ ?_
  show Steps p.tables e below (T1.setTop (mkF m 9 #[.val (.ref a1), .val (.int tot), .val (.int i), s3] [(.int ky), (.int i)])) _
  refine XS.icmpYes X1.here hx rfl (pc0 := 9) (pc' := 53) rfl (hb hby d4_9) rfl (flt hge).2.1 (by decide) (by decide) ?_
  exact k
set_option maxRecDepth 65536 in
set_option maxHeartbeats 40000000 in
theorem ploop {p : Program} {l : Launch} {e : Env} {R : Room} {s : State} {m : MethodId} {args : Array Value} {below : List Frame} {meth : Method} {c : Code} {cells slots : Nat} {Z : State} {a0 : Array Value}  (a1 : Addr) (ni : Nat) (co : List Int32) (kn : Nat) (hkn : kn ≤ 3) (n0 : Nat) (hx : p.tables.exec = Jvm.exec) (hZ : Z.Warmed39 s.vm) (hw : ∀ d ∈ tables_1, d.before a0 Z = true) (hby : c.code = prog_50_method_4_code) (hml : c.maxLocals = 4) (hown : s.vm.findClass "com/example/prune/prune/mdp/Lists" = some m.cls) :
    ∀ (k i : Nat) (st en : List Int32) (tot : Int32) (s3 : Slot) (T0 : State) (h0 : Heap) (locs : List Loc), i + k = kn → One s3 → Stand p l e R s m args below meth c T0 locs cells slots → T0.heap = h0 → Fr n0 locs → n0 ≤ h0.size → own_S Z h0 n0 a1 (ni, st, en, co, Int32.ofNat kn) → own_okp k i st en co tot = true →
      ∃ (T' : State) (h' : Heap) (locs' : List Loc) (r3 : Slot), Stand p l e R s m args below meth c T' locs' cells slots ∧ T'.heap = h' ∧ Fr n0 locs' ∧ n0 ≤ h'.size ∧ own_S Z h' n0 a1 (ni, (own_pl k i st en co tot).1, (own_pl k i st en co tot).2.1, co, Int32.ofNat kn) ∧
        ∀ t, Steps p.tables e below (T'.setTop (mkF m 53 #[.val (.ref a1), .val (.int (own_pl k i st en co tot).2.2), .val (.int (Int32.ofNat kn)), r3] [])) t → Steps p.tables e below (T0.setTop (mkF m 4 #[.val (.ref a1), .val (.int tot), .val (.int (Int32.ofNat i)), s3] [])) t := by
  intro k
  induction k with
  | zero =>
    intro i st en tot s3 T0 h0 locs hi hs3 X0 e0 N0 Z0 HS hok
    have hik : i = kn := by omega
    subst hik
    obtain ⟨T1, h1, L1, X1, e1, N1, Z1, HS1, st1⟩ := plv a1 tot (Int32.ofNat i) s3 ni st en co (Int32.ofNat i) n0 X0 hx hZ hw hby hml hown e0 N0 Z0 HS Int32.lt_irrefl
    exact ⟨T1, h1, L1, s3, X1, e1, N1, Z1, HS1, st1⟩
  | succ k ih =>
    intro i st en tot s3 T0 h0 locs hi hs3 X0 e0 N0 Z0 HS hok
    obtain ⟨o1, o2, o3, o4, o5, o6⟩ := own_okp_e hok
    obtain ⟨T1, h1, L1, X1, e1, N1, Z1, HS1, st1⟩ := ptn a1 tot (Int32.ofNat i) s3 (own_key co i) ni st en co (Int32.ofNat kn) n0 X0 hx hZ hw hby hml hown e0 N0 Z0 HS hs3 rfl (own_lt (by omega) hkn) (own_nn (by omega)) (by rw [own_n32 (by omega)]; exact o2) o3 o4 o5
    obtain ⟨T2, h2, L2, r3, X2, e2, N2, Z2, HS2, st2⟩ := ih (i + 1) _ _ _ (.val (.int (own_key co i))) T1 h1 L1 (by omega) (One.val rfl) X1 e1 N1 Z1 HS1 o6
    refine ⟨T2, h2, L2, r3, X2, e2, N2, Z2, HS2, fun t h => st1 t ?_⟩
    rw [own_one]
    exact st2 t h
def Q4 (Z : State) (a1 : Addr) (ni : Nat) (st : List Int32) (en : List Int32) (co : List Int32) (ky : Int32) (h0 : Heap) (n0 : Nat) (v : Option Value) (h : Heap) (L : List Loc) : Prop := v = none ∧ Fr n0 L ∧ n0 ≤ h.size ∧ own_S Z h n0 a1 (own_mp (ni, st, en, co, ky))
set_option maxRecDepth 65536 in
set_option maxHeartbeats 40000000 in
theorem rm4_a (l : Launch) (Z : State) (a0 : Array Value) (hw : ∀ d ∈ tables_1, d.before a0 Z = true) (ws : List Jvm.Cond) (a1 : Addr) (ni : Nat) (st : List Int32) (en : List Int32) (co : List Int32) (ky : Int32) (h0 : Heap) (n0 : Nat) (Z0 : n0 ≤ h0.size) (HS : own_S Z h0 n0 a1 (ni, st, en, co, ky)) (hok : own_okP (ni, st, en, co, ky) = true) (hbig : Int32.ofNat ni < (own_pl ky.toNatClampNeg 0 st en co 0).2.2) :
    MetFree l (⟨"com/example/prune/prune/mdp/Lists", "place", "()V"⟩ : MethodName) (head1 (Jvm.Cond.code (⟨"com/example/prune/prune/mdp/Lists", "place", "()V"⟩ : MethodName) prog_50_method_4_code 4 none :: ws) ({ frames := 0, cells := 1, slots := 3, locals := 0 } : Room)) (fun a U => a = #[(.ref a1)] ∧ Z.Warmed39 U.vm ∧ U.heap = h0) (fun _ _ _ _ _ => True) (fun _ U o U' => ∃ v L, o = .returned v ∧ Q4 Z a1 ni st en co ky h0 n0 v U'.heap L ∧ FrameEnd U o U' L ({ frames := 0, cells := 1, slots := 3, locals := 0 } : Room).cells ({ frames := 0, cells := 1, slots := 3, locals := 0 } : Room).slots) := by
  refine MetFree.of_bodySF (plainFor_of_name pn_4) hisR ?_
  intro p e s m args below meth c s₁ Bd hml0 hP hK
  obtain ⟨rfl, hZ, hh⟩ := hP
  have hx := Bd.exec
  have hby := Bd.bytes
  have hml : c.maxLocals = 4 := hml0
  have hown : s.vm.findClass "com/example/prune/prune/mdp/Lists" = some m.cls := findClass_of_methodNamed Bd.named
  have hnm := (name_of_methodNamed Bd.named Bd.method).1
  have X0 : Stand p l e ({ frames := 0, cells := 1, slots := 3, locals := 0 } : Room) s m #[(.ref a1)] below meth c s₁ [] 0 0 := Stand.of_body Bd
  have e0 : s₁.heap = h0 := by rw [← hh, Bd.state]; rfl
  have N0 := Fr.nil n0
  have pre0 : ∀ t, Steps p.tables e below (s₁.setTop (mkF m 0 #[.val (.ref a1), .unset, .unset, .unset] [])) t → Steps p.tables e below (s₁.setTop (entryFrame m #[(.ref a1)] 4)) t := fun t k => castTop (ef_4 m a1) k
  obtain ⟨hy0, hy1, hy2, hy3, hy4, hy5⟩ := own_okP_e hok
  have HSk : own_S Z h0 n0 a1 (ni, st, en, co, Int32.ofNat ky.toNatClampNeg) := by rw [hy2]; exact HS
  obtain ⟨TL, hL, LL, r3, XL, eL, NL, ZL, HSL, stL⟩ := ploop a1 ni co ky.toNatClampNeg hy1 n0 hx hZ hw hby hml hown ky.toNatClampNeg 0 st en 0 .unset s₁ h0 [] (by omega) One.u X0 e0 N0 Z0 HSk hy3
  obtain ⟨tt, htt⟩ : ∃ tt, tt = (own_pl ky.toNatClampNeg 0 st en co 0).2.2 := ⟨_, rfl⟩
  obtain ⟨sL, hsL⟩ : ∃ sL, sL = (own_pl ky.toNatClampNeg 0 st en co 0).1 := ⟨_, rfl⟩
  obtain ⟨nL, hnL⟩ : ∃ nL, nL = (own_pl ky.toNatClampNeg 0 st en co 0).2.1 := ⟨_, rfl⟩
  rw [hy2, ← hsL, ← hnL] at HSL
  rw [← htt] at stL hy4 hy5 hbig
  rw [hy2] at stL
  obtain ⟨bI, bS, bE, bC, its, ExL, FL_items, FL_starts, FL_ends, FL_counted, FL_keys, VIL, hni, VSL, VEL, VCL, ⟨nIS, nIE, nIC, nSE, nSC, nEC⟩, ⟨aI, aS, aE, aC⟩, ⟨ga, gI, gS, gE, gC⟩⟩ := id HSL
  have VVL_I : own_I Z hL bI its := VIL
  have VVL_S : own_I Z hL bS sL := VSL
  have VVL_E : own_I Z hL bE nL := VEL
  have VVL_C : own_I Z hL bC co := VCL
  have FFL_keys : Fld Z hL a1 "com/example/prune/prune/mdp/Lists" "keys" "I" (.int ky) := FL_keys
  obtain ⟨T1, X1, e1, st1⟩ := getF XL hx hZ hown (host := "") (Or.inl (hw _ (List.mem_of_getElem? (i := 10) rfl))) Via.refl eL FL_items (g := (mkF m 55 #[.val (.ref a1), .val (.int tt), .val (.int ky), r3] [(.ref a1), (.ref a1)])) rfl rfl (hb hby d4_55)
  obtain ⟨hl2, k2, cl2, Ar2, qq2, S2, M2, H2, G2⟩ := id VVL_I
  obtain ⟨T3, h3, k3, X3, e3, E3, A3, st3⟩ := newP X1 hx hZ (hw _ (List.mem_of_getElem? (i := 9) rfl)) e1 (g := (mkF m 64 #[.val (.ref a1), .val (.int tt), .val (.int ky), r3] [(.int tt), (.ref a1)])) rfl (hb hby d4_64) rfl hy4 (cap := 3) hy5 (by decide) (by decide) (by decide)
  obtain ⟨bN, g3⟩ : ∃ z, z = hL.size := ⟨_, rfl⟩
  rw [← g3] at A3 st3
  have gN : n0 ≤ bN := Nat.le_trans ZL (Nat.le_of_eq g3.symm)
  have aN : a1 ≠ bN := Nat.ne_of_lt (Nat.lt_of_lt_of_le (ExL).lt (Nat.le_of_eq g3.symm))
  have nNS : bN ≠ bS := Ne.symm (Nat.ne_of_lt (Nat.lt_of_lt_of_le (own_I.lt VVL_S) (Nat.le_of_eq g3.symm)))
  have nNE : bN ≠ bE := Ne.symm (Nat.ne_of_lt (Nat.lt_of_lt_of_le (own_I.lt VVL_E) (Nat.le_of_eq g3.symm)))
  have nNC : bN ≠ bC := Ne.symm (Nat.ne_of_lt (Nat.lt_of_lt_of_le (own_I.lt VVL_C) (Nat.le_of_eq g3.symm)))
  have Fe3_items := (FL_items).ext E3
  have Fe3_starts := (FL_starts).ext E3
  have Fe3_ends := (FL_ends).ext E3
  have Fe3_counted := (FL_counted).ext E3
  have Fe3_keys := (FFL_keys).ext E3
  have Exe3 := (ExL).ext E3
  have Ze3 : n0 ≤ h3.size := Nat.le_trans ZL E3.1
  have Ve3_S := own_I.ext VVL_S E3
  have Ve3_E := own_I.ext VVL_E E3
  have Ve3_C := own_I.ext VVL_C E3
  have VnN : own_I Z h3 bN (List.replicate tt.toNatClampNeg 0) := own_I.new A3 hy4 hy5
  obtain ⟨T4, h4, X4, e4, W4, st4⟩ := putF X3 hx hZ hown (host := "") (Or.inl (hw _ (List.mem_of_getElem? (i := 10) rfl))) Via.refl e3 Fe3_items Exe3 (Or.inl (hw _ (List.mem_of_getElem? (i := 11) rfl))) (hw _ (List.mem_of_getElem? (i := 1) rfl)) (ty := (.array .int)) (by decide) rfl rfl (g := (mkF m 73 #[.val (.ref a1), .val (.int tt), .val (.int ky), r3] [(.ref bN), (.ref a1)])) rfl rfl (hb hby d4_73)
  have F4_items : Fld Z h4 a1 "com/example/prune/prune/mdp/Lists" "items" "[I" (.ref bN) := (Fe3_items).same W4
  have F4_starts : Fld Z h4 a1 "com/example/prune/prune/mdp/Lists" "starts" "[I" (.ref bS) := (Fe3_starts).other W4 (Or.inr (slot_ne (Or.inr (hw _ (List.mem_of_getElem? (i := 13) rfl))) (Or.inl (hw _ (List.mem_of_getElem? (i := 11) rfl))) (by decide) (t := (.array .int)) (t' := (.array .int)) (by decide) (by decide)))
  have F4_ends : Fld Z h4 a1 "com/example/prune/prune/mdp/Lists" "ends" "[I" (.ref bE) := (Fe3_ends).other W4 (Or.inr (slot_ne (Or.inr (hw _ (List.mem_of_getElem? (i := 15) rfl))) (Or.inl (hw _ (List.mem_of_getElem? (i := 11) rfl))) (by decide) (t := (.array .int)) (t' := (.array .int)) (by decide) (by decide)))
  have F4_counted : Fld Z h4 a1 "com/example/prune/prune/mdp/Lists" "counted" "[I" (.ref bC) := (Fe3_counted).other W4 (Or.inr (slot_ne (Or.inr (hw _ (List.mem_of_getElem? (i := 17) rfl))) (Or.inl (hw _ (List.mem_of_getElem? (i := 11) rfl))) (by decide) (t := (.array .int)) (t' := (.array .int)) (by decide) (by decide)))
  have F4_keys : Fld Z h4 a1 "com/example/prune/prune/mdp/Lists" "keys" "I" (.int ky) := (Fe3_keys).other W4 (Or.inr (slot_ne (Or.inl (hw _ (List.mem_of_getElem? (i := 24) rfl))) (Or.inl (hw _ (List.mem_of_getElem? (i := 11) rfl))) (by decide) (t := .int) (t' := (.array .int)) (by decide) (by decide)))
  have Ex4 : Exa Z h4 a1 "com/example/prune/prune/mdp/Lists" := (Exe3).wr W4
  have Zs4 : n0 ≤ h4.size := Nat.le_trans Ze3 (Keep.of_wr W4).1
  have V4_S : own_I Z h4 bS sL := own_I.other Ve3_S W4 aS.symm
  have V4_E : own_I Z h4 bE nL := own_I.other Ve3_E W4 aE.symm
  have V4_C : own_I Z h4 bC co := own_I.other Ve3_C W4 aC.symm
  have V4_N : own_I Z h4 bN (List.replicate tt.toNatClampNeg 0) := own_I.other VnN W4 aN.symm
  have N4 := Fr.snoc X4 NL ga
  obtain ⟨fs, hr, hrun, hended, hW, hsame⟩ := X4.leave (v := none) (fun _ => rfl)
  refine ⟨_, _, pre0 _ ?_, hrun, hended, _, _, rfl, ?_, ⟨_, rfl⟩, hW, hsame.mono (by decide) (by decide)⟩
  · show Steps p.tables e below (s₁.setTop (mkF m 0 #[.val (.ref a1), .unset, .unset, .unset] [])) _
    refine XS.iconst X0.here hx rfl (hb hby d4_0) ?_
    show Steps p.tables e below (s₁.setTop (mkF m 1 #[.val (.ref a1), .unset, .unset, .unset] [(.int (0 : Int32))])) _
    refine XS.istoreN X0.here hx rfl (hb hby d4_1) rfl (l' := #[.val (.ref a1), .val (.int (0 : Int32)), .unset, .unset]) rfl ?_
    show Steps p.tables e below (s₁.setTop (mkF m 2 #[.val (.ref a1), .val (.int (0 : Int32)), .unset, .unset] [])) _
    refine XS.iconst X0.here hx rfl (hb hby d4_2) ?_
    show Steps p.tables e below (s₁.setTop (mkF m 3 #[.val (.ref a1), .val (.int (0 : Int32)), .unset, .unset] [(.int (0 : Int32))])) _
    refine XS.istoreN X0.here hx rfl (hb hby d4_3) rfl (l' := #[.val (.ref a1), .val (.int (0 : Int32)), .val (.int (0 : Int32)), .unset]) rfl ?_
    show Steps p.tables e below (s₁.setTop (mkF m 4 #[.val (.ref a1), .val (.int (0 : Int32)), .val (.int (0 : Int32)), .unset] [])) _
    refine stL _ ?_
    show Steps p.tables e below (TL.setTop (mkF m 53 #[.val (.ref a1), .val (.int tt), .val (.int ky), r3] [])) _
    refine XS.aloadN XL.here hx rfl (hb hby d4_53) rfl rfl ?_
    show Steps p.tables e below (TL.setTop (mkF m 54 #[.val (.ref a1), .val (.int tt), .val (.int ky), r3] [(.ref a1)])) _
    refine XS.aloadN XL.here hx rfl (hb hby d4_54) rfl rfl ?_
    show Steps p.tables e below (TL.setTop (mkF m 55 #[.val (.ref a1), .val (.int tt), .val (.int ky), r3] [(.ref a1), (.ref a1)])) _
    refine st1 _ ?_
    show Steps p.tables e below (T1.setTop (mkF m 58 #[.val (.ref a1), .val (.int tt), .val (.int ky), r3] [(.ref bI), (.ref a1)])) _
    refine X1.arraylength hx (by first | exact Ar2.1 | (rw [e1]; exact Ar2.1)) (State.isArrayOf_alike hZ.alike Ar2.2.1) (g := (mkF m 58 #[.val (.ref a1), .val (.int tt), .val (.int ky), r3] [(.ref bI), (.ref a1)])) rfl rfl (hb hby d4_58) _ ?_
    rw [len_of S2 M2]
    show Steps p.tables e below (T1.setTop (mkF m 59 #[.val (.ref a1), .val (.int tt), .val (.int ky), r3] [(.int (Int32.ofNat its.length)), (.ref a1)])) _
    refine XS.iloadN X1.here hx rfl (hb hby d4_59) rfl ?_
    show Steps p.tables e below (T1.setTop (mkF m 60 #[.val (.ref a1), .val (.int tt), .val (.int ky), r3] [(.int tt), (.int (Int32.ofNat its.length)), (.ref a1)])) _
    refine XS.icmpNo X1.here hx rfl (hb hby d4_60) rfl (tlt (by rw [hni]; exact hbig)).2.1 ?_
    show Steps p.tables e below (T1.setTop (mkF m 63 #[.val (.ref a1), .val (.int tt), .val (.int ky), r3] [(.ref a1)])) _
    refine XS.iloadN X1.here hx rfl (hb hby d4_63) rfl ?_
    show Steps p.tables e below (T1.setTop (mkF m 64 #[.val (.ref a1), .val (.int tt), .val (.int ky), r3] [(.int tt), (.ref a1)])) _
    refine st3 _ ?_
    show Steps p.tables e below (T3.setTop (mkF m 66 #[.val (.ref a1), .val (.int tt), .val (.int ky), r3] [(.ref bN), (.ref a1)])) _
    refine XS.goto X3.here hx rfl (pc0 := 66) (pc' := 73) rfl (hb hby d4_66) (by decide) (by decide) ?_
    show Steps p.tables e below (T3.setTop (mkF m 73 #[.val (.ref a1), .val (.int tt), .val (.int ky), r3] [(.ref bN), (.ref a1)])) _
    refine st4 _ ?_
    show Steps p.tables e below (T4.setTop (mkF m 76 #[.val (.ref a1), .val (.int tt), .val (.int ky), r3] [])) _
    exact X4.returnOut hx Bd.returns (hb hby d4_76) hr
  · show Q4 Z a1 ni st en co ky h0 n0 _ T4.heap _
    rw [e4]
    have hm : own_mp (ni, st, en, co, ky) = (tt.toNatClampNeg, sL, nL, co, ky) := by
      rw [htt] at hbig
      show (if Int32.ofNat ni < (own_pl ky.toNatClampNeg 0 st en co 0).2.2 then (own_pl ky.toNatClampNeg 0 st en co 0).2.2.toNatClampNeg else ni, (own_pl ky.toNatClampNeg 0 st en co 0).1, (own_pl ky.toNatClampNeg 0 st en co 0).2.1, co, ky) = _
      rw [if_pos hbig, htt, hsL, hnL]
    show _ ∧ _ ∧ _ ∧ own_S Z _ n0 a1 (own_mp (ni, st, en, co, ky))
    rw [hm]
    exact ⟨rfl, N4, Zs4, ⟨bN, bS, bE, bC, _, Ex4, F4_items, F4_starts, F4_ends, F4_counted, F4_keys, V4_N, List.length_replicate, V4_S, V4_E, V4_C, ⟨nNS, nNE, nNC, nSE, nSC, nEC⟩, ⟨aN, aS, aE, aC⟩, ⟨ga, gN, gS, gE, gC⟩⟩⟩
set_option maxRecDepth 65536 in
set_option maxHeartbeats 40000000 in
theorem rm4_b (l : Launch) (Z : State) (a0 : Array Value) (hw : ∀ d ∈ tables_1, d.before a0 Z = true) (ws : List Jvm.Cond) (a1 : Addr) (ni : Nat) (st : List Int32) (en : List Int32) (co : List Int32) (ky : Int32) (h0 : Heap) (n0 : Nat) (Z0 : n0 ≤ h0.size) (HS : own_S Z h0 n0 a1 (ni, st, en, co, ky)) (hok : own_okP (ni, st, en, co, ky) = true) (hbig : ¬ (Int32.ofNat ni < (own_pl ky.toNatClampNeg 0 st en co 0).2.2)) :
    MetFree l (⟨"com/example/prune/prune/mdp/Lists", "place", "()V"⟩ : MethodName) (head1 (Jvm.Cond.code (⟨"com/example/prune/prune/mdp/Lists", "place", "()V"⟩ : MethodName) prog_50_method_4_code 4 none :: ws) ({ frames := 0, cells := 1, slots := 3, locals := 0 } : Room)) (fun a U => a = #[(.ref a1)] ∧ Z.Warmed39 U.vm ∧ U.heap = h0) (fun _ _ _ _ _ => True) (fun _ U o U' => ∃ v L, o = .returned v ∧ Q4 Z a1 ni st en co ky h0 n0 v U'.heap L ∧ FrameEnd U o U' L ({ frames := 0, cells := 1, slots := 3, locals := 0 } : Room).cells ({ frames := 0, cells := 1, slots := 3, locals := 0 } : Room).slots) := by
  refine MetFree.of_bodySF (plainFor_of_name pn_4) hisR ?_
  intro p e s m args below meth c s₁ Bd hml0 hP hK
  obtain ⟨rfl, hZ, hh⟩ := hP
  have hx := Bd.exec
  have hby := Bd.bytes
  have hml : c.maxLocals = 4 := hml0
  have hown : s.vm.findClass "com/example/prune/prune/mdp/Lists" = some m.cls := findClass_of_methodNamed Bd.named
  have hnm := (name_of_methodNamed Bd.named Bd.method).1
  have X0 : Stand p l e ({ frames := 0, cells := 1, slots := 3, locals := 0 } : Room) s m #[(.ref a1)] below meth c s₁ [] 0 0 := Stand.of_body Bd
  have e0 : s₁.heap = h0 := by rw [← hh, Bd.state]; rfl
  have N0 := Fr.nil n0
  have pre0 : ∀ t, Steps p.tables e below (s₁.setTop (mkF m 0 #[.val (.ref a1), .unset, .unset, .unset] [])) t → Steps p.tables e below (s₁.setTop (entryFrame m #[(.ref a1)] 4)) t := fun t k => castTop (ef_4 m a1) k
  obtain ⟨hy0, hy1, hy2, hy3, hy4, hy5⟩ := own_okP_e hok
  have HSk : own_S Z h0 n0 a1 (ni, st, en, co, Int32.ofNat ky.toNatClampNeg) := by rw [hy2]; exact HS
  obtain ⟨TL, hL, LL, r3, XL, eL, NL, ZL, HSL, stL⟩ := ploop a1 ni co ky.toNatClampNeg hy1 n0 hx hZ hw hby hml hown ky.toNatClampNeg 0 st en 0 .unset s₁ h0 [] (by omega) One.u X0 e0 N0 Z0 HSk hy3
  obtain ⟨tt, htt⟩ : ∃ tt, tt = (own_pl ky.toNatClampNeg 0 st en co 0).2.2 := ⟨_, rfl⟩
  obtain ⟨sL, hsL⟩ : ∃ sL, sL = (own_pl ky.toNatClampNeg 0 st en co 0).1 := ⟨_, rfl⟩
  obtain ⟨nL, hnL⟩ : ∃ nL, nL = (own_pl ky.toNatClampNeg 0 st en co 0).2.1 := ⟨_, rfl⟩
  rw [hy2, ← hsL, ← hnL] at HSL
  rw [← htt] at stL hy4 hy5 hbig
  rw [hy2] at stL
  obtain ⟨bI, bS, bE, bC, its, ExL, FL_items, FL_starts, FL_ends, FL_counted, FL_keys, VIL, hni, VSL, VEL, VCL, ⟨nIS, nIE, nIC, nSE, nSC, nEC⟩, ⟨aI, aS, aE, aC⟩, ⟨ga, gI, gS, gE, gC⟩⟩ := id HSL
  have VVL_I : own_I Z hL bI its := VIL
  have VVL_S : own_I Z hL bS sL := VSL
  have VVL_E : own_I Z hL bE nL := VEL
  have VVL_C : own_I Z hL bC co := VCL
  have FFL_keys : Fld Z hL a1 "com/example/prune/prune/mdp/Lists" "keys" "I" (.int ky) := FL_keys
  obtain ⟨T1, X1, e1, st1⟩ := getF XL hx hZ hown (host := "") (Or.inl (hw _ (List.mem_of_getElem? (i := 10) rfl))) Via.refl eL FL_items (g := (mkF m 55 #[.val (.ref a1), .val (.int tt), .val (.int ky), r3] [(.ref a1), (.ref a1)])) rfl rfl (hb hby d4_55)
  obtain ⟨hl2, k2, cl2, Ar2, qq2, S2, M2, H2, G2⟩ := id VVL_I
  obtain ⟨T3, X3, e3, st3⟩ := getF X1 hx hZ hown (host := "") (Or.inl (hw _ (List.mem_of_getElem? (i := 10) rfl))) Via.refl e1 FL_items (g := (mkF m 70 #[.val (.ref a1), .val (.int tt), .val (.int ky), r3] [(.ref a1), (.ref a1)])) rfl rfl (hb hby d4_70)
  obtain ⟨T4, h4, X4, e4, W4, st4⟩ := putF X3 hx hZ hown (host := "") (Or.inl (hw _ (List.mem_of_getElem? (i := 10) rfl))) Via.refl e3 FL_items ExL (Or.inl (hw _ (List.mem_of_getElem? (i := 11) rfl))) (hw _ (List.mem_of_getElem? (i := 1) rfl)) (ty := (.array .int)) (by decide) rfl rfl (g := (mkF m 73 #[.val (.ref a1), .val (.int tt), .val (.int ky), r3] [(.ref bI), (.ref a1)])) rfl rfl (hb hby d4_73)
  have F4_items : Fld Z h4 a1 "com/example/prune/prune/mdp/Lists" "items" "[I" (.ref bI) := (FL_items).same W4
  have F4_starts : Fld Z h4 a1 "com/example/prune/prune/mdp/Lists" "starts" "[I" (.ref bS) := (FL_starts).other W4 (Or.inr (slot_ne (Or.inr (hw _ (List.mem_of_getElem? (i := 13) rfl))) (Or.inl (hw _ (List.mem_of_getElem? (i := 11) rfl))) (by decide) (t := (.array .int)) (t' := (.array .int)) (by decide) (by decide)))
  have F4_ends : Fld Z h4 a1 "com/example/prune/prune/mdp/Lists" "ends" "[I" (.ref bE) := (FL_ends).other W4 (Or.inr (slot_ne (Or.inr (hw _ (List.mem_of_getElem? (i := 15) rfl))) (Or.inl (hw _ (List.mem_of_getElem? (i := 11) rfl))) (by decide) (t := (.array .int)) (t' := (.array .int)) (by decide) (by decide)))
  have F4_counted : Fld Z h4 a1 "com/example/prune/prune/mdp/Lists" "counted" "[I" (.ref bC) := (FL_counted).other W4 (Or.inr (slot_ne (Or.inr (hw _ (List.mem_of_getElem? (i := 17) rfl))) (Or.inl (hw _ (List.mem_of_getElem? (i := 11) rfl))) (by decide) (t := (.array .int)) (t' := (.array .int)) (by decide) (by decide)))
  have F4_keys : Fld Z h4 a1 "com/example/prune/prune/mdp/Lists" "keys" "I" (.int ky) := (FFL_keys).other W4 (Or.inr (slot_ne (Or.inl (hw _ (List.mem_of_getElem? (i := 24) rfl))) (Or.inl (hw _ (List.mem_of_getElem? (i := 11) rfl))) (by decide) (t := .int) (t' := (.array .int)) (by decide) (by decide)))
  have Ex4 : Exa Z h4 a1 "com/example/prune/prune/mdp/Lists" := (ExL).wr W4
  have Zs4 : n0 ≤ h4.size := Nat.le_trans ZL (Keep.of_wr W4).1
  have V4_I : own_I Z h4 bI its := own_I.other VVL_I W4 aI.symm
  have V4_S : own_I Z h4 bS sL := own_I.other VVL_S W4 aS.symm
  have V4_E : own_I Z h4 bE nL := own_I.other VVL_E W4 aE.symm
  have V4_C : own_I Z h4 bC co := own_I.other VVL_C W4 aC.symm
  have N4 := Fr.snoc X4 NL ga
  obtain ⟨fs, hr, hrun, hended, hW, hsame⟩ := X4.leave (v := none) (fun _ => rfl)
  refine ⟨_, _, pre0 _ ?_, hrun, hended, _, _, rfl, ?_, ⟨_, rfl⟩, hW, hsame.mono (by decide) (by decide)⟩
  · show Steps p.tables e below (s₁.setTop (mkF m 0 #[.val (.ref a1), .unset, .unset, .unset] [])) _
    refine XS.iconst X0.here hx rfl (hb hby d4_0) ?_
    show Steps p.tables e below (s₁.setTop (mkF m 1 #[.val (.ref a1), .unset, .unset, .unset] [(.int (0 : Int32))])) _
    refine XS.istoreN X0.here hx rfl (hb hby d4_1) rfl (l' := #[.val (.ref a1), .val (.int (0 : Int32)), .unset, .unset]) rfl ?_
    show Steps p.tables e below (s₁.setTop (mkF m 2 #[.val (.ref a1), .val (.int (0 : Int32)), .unset, .unset] [])) _
    refine XS.iconst X0.here hx rfl (hb hby d4_2) ?_
    show Steps p.tables e below (s₁.setTop (mkF m 3 #[.val (.ref a1), .val (.int (0 : Int32)), .unset, .unset] [(.int (0 : Int32))])) _
    refine XS.istoreN X0.here hx rfl (hb hby d4_3) rfl (l' := #[.val (.ref a1), .val (.int (0 : Int32)), .val (.int (0 : Int32)), .unset]) rfl ?_
    show Steps p.tables e below (s₁.setTop (mkF m 4 #[.val (.ref a1), .val (.int (0 : Int32)), .val (.int (0 : Int32)), .unset] [])) _
    refine stL _ ?_
    show Steps p.tables e below (TL.setTop (mkF m 53 #[.val (.ref a1), .val (.int tt), .val (.int ky), r3] [])) _
    refine XS.aloadN XL.here hx rfl (hb hby d4_53) rfl rfl ?_
    show Steps p.tables e below (TL.setTop (mkF m 54 #[.val (.ref a1), .val (.int tt), .val (.int ky), r3] [(.ref a1)])) _
    refine XS.aloadN XL.here hx rfl (hb hby d4_54) rfl rfl ?_
    show Steps p.tables e below (TL.setTop (mkF m 55 #[.val (.ref a1), .val (.int tt), .val (.int ky), r3] [(.ref a1), (.ref a1)])) _
    refine st1 _ ?_
    show Steps p.tables e below (T1.setTop (mkF m 58 #[.val (.ref a1), .val (.int tt), .val (.int ky), r3] [(.ref bI), (.ref a1)])) _
    refine X1.arraylength hx (by first | exact Ar2.1 | (rw [e1]; exact Ar2.1)) (State.isArrayOf_alike hZ.alike Ar2.2.1) (g := (mkF m 58 #[.val (.ref a1), .val (.int tt), .val (.int ky), r3] [(.ref bI), (.ref a1)])) rfl rfl (hb hby d4_58) _ ?_
    rw [len_of S2 M2]
    show Steps p.tables e below (T1.setTop (mkF m 59 #[.val (.ref a1), .val (.int tt), .val (.int ky), r3] [(.int (Int32.ofNat its.length)), (.ref a1)])) _
    refine XS.iloadN X1.here hx rfl (hb hby d4_59) rfl ?_
    show Steps p.tables e below (T1.setTop (mkF m 60 #[.val (.ref a1), .val (.int tt), .val (.int ky), r3] [(.int tt), (.int (Int32.ofNat its.length)), (.ref a1)])) _
    refine XS.icmpYes X1.here hx rfl (pc0 := 60) (pc' := 69) rfl (hb hby d4_60) rfl (flt (by rw [hni]; exact hbig)).2.1 (by decide) (by decide) ?_
    show Steps p.tables e below (T1.setTop (mkF m 69 #[.val (.ref a1), .val (.int tt), .val (.int ky), r3] [(.ref a1)])) _
    refine XS.aloadN X1.here hx rfl (hb hby d4_69) rfl rfl ?_
    show Steps p.tables e below (T1.setTop (mkF m 70 #[.val (.ref a1), .val (.int tt), .val (.int ky), r3] [(.ref a1), (.ref a1)])) _
    refine st3 _ ?_
    show Steps p.tables e below (T3.setTop (mkF m 73 #[.val (.ref a1), .val (.int tt), .val (.int ky), r3] [(.ref bI), (.ref a1)])) _
    refine st4 _ ?_
    show Steps p.tables e below (T4.setTop (mkF m 76 #[.val (.ref a1), .val (.int tt), .val (.int ky), r3] [])) _
    exact X4.returnOut hx Bd.returns (hb hby d4_76) hr
  · show Q4 Z a1 ni st en co ky h0 n0 _ T4.heap _
    rw [e4]
    have hm : own_mp (ni, st, en, co, ky) = (ni, sL, nL, co, ky) := by
      rw [htt] at hbig
      show (if Int32.ofNat ni < (own_pl ky.toNatClampNeg 0 st en co 0).2.2 then (own_pl ky.toNatClampNeg 0 st en co 0).2.2.toNatClampNeg else ni, (own_pl ky.toNatClampNeg 0 st en co 0).1, (own_pl ky.toNatClampNeg 0 st en co 0).2.1, co, ky) = _
      rw [if_neg hbig, hsL, hnL]
    show _ ∧ _ ∧ _ ∧ own_S Z _ n0 a1 (own_mp (ni, st, en, co, ky))
    rw [hm]
    exact ⟨rfl, N4, Zs4, ⟨bI, bS, bE, bC, its, Ex4, F4_items, F4_starts, F4_ends, F4_counted, F4_keys, V4_I, hni, V4_S, V4_E, V4_C, ⟨nIS, nIE, nIC, nSE, nSC, nEC⟩, ⟨aI, aS, aE, aC⟩, ⟨ga, gI, gS, gE, gC⟩⟩⟩
set_option maxRecDepth 65536 in
set_option maxHeartbeats 40000000 in
theorem rm4 (l : Launch) (Z : State) (a0 : Array Value) (hw : ∀ d ∈ tables_1, d.before a0 Z = true) (ws : List Jvm.Cond) (a1 : Addr) (ni : Nat) (st : List Int32) (en : List Int32) (co : List Int32) (ky : Int32) (h0 : Heap) (n0 : Nat) (Z0 : n0 ≤ h0.size) (HS : own_S Z h0 n0 a1 (ni, st, en, co, ky)) (hok : own_okP (ni, st, en, co, ky) = true) :
    MetFree l (⟨"com/example/prune/prune/mdp/Lists", "place", "()V"⟩ : MethodName) (head1 (Jvm.Cond.code (⟨"com/example/prune/prune/mdp/Lists", "place", "()V"⟩ : MethodName) prog_50_method_4_code 4 none :: ws) ({ frames := 0, cells := 1, slots := 3, locals := 0 } : Room)) (fun a U => a = #[(.ref a1)] ∧ Z.Warmed39 U.vm ∧ U.heap = h0) (fun _ _ _ _ _ => True) (fun _ U o U' => ∃ v L, o = .returned v ∧ Q4 Z a1 ni st en co ky h0 n0 v U'.heap L ∧ FrameEnd U o U' L ({ frames := 0, cells := 1, slots := 3, locals := 0 } : Room).cells ({ frames := 0, cells := 1, slots := 3, locals := 0 } : Room).slots) := by
  by_cases hbig : Int32.ofNat ni < (own_pl ky.toNatClampNeg 0 st en co 0).2.2
  · exact rm4_a l Z a0 hw ws a1 ni st en co ky h0 n0 Z0 HS hok hbig
  · exact rm4_b l Z a0 hw ws a1 ni st en co ky h0 n0 Z0 HS hok hbig
theorem pd_sga : parseMethodDescriptor "(I)V" = some ⟨[.int], none⟩ := by decide +kernel
set_option maxRecDepth 65536 in
set_option maxHeartbeats 40000000 in
theorem sga {p : Program} {l : Launch} {e : Env} {s : State} {m : MethodId} {args : Array Value} {below : List Frame} {meth : Method} {c : Code} {T0 : State} {locs : List Loc} {Z : State} {a0 : Array Value} {h0 : Heap} (x0 : Int32) (x1 : Int32) (x2 : Int32) (x3 : Int32) (x4 : Int32) (x5 : Addr) (s7 : own_T) (n0 : Nat) (X0 : Stand p l e room_1 s m args below meth c T0 locs 5 14) (hx : p.tables.exec = Jvm.exec) (hZ : Z.Warmed39 s.vm) (hw : ∀ d ∈ tables_1, d.before a0 Z = true) (hby : c.code = code) (hml : c.maxLocals = 12) (hown : s.vm.findClass "com/example/prune/prune/mdp/ListsPlacePinLaw" = some m.cls) (e0 : T0.heap = h0) (N0 : Fr n0 locs) (Z0 : n0 ≤ h0.size) (HS : own_S Z h0 n0 x5 s7) (hok : x2 < (3 : Int32) → own_okc s7 x2 = true) :
    ∃ (T' : State) (h' : Heap) (locs' : List Loc), Stand p l e room_1 s m args below meth c T' locs' 5 14 ∧ T'.heap = h' ∧ Fr n0 locs' ∧ n0 ≤ h'.size ∧ own_S Z h' n0 x5 (own_cc s7 x2) ∧
      ∀ t, Steps p.tables e below (T'.setTop (mkF m 38 #[.val (.int x0), .val (.int x1), .val (.int x2), .val (.int x3), .val (.int x4), .val (.ref x5), .unset, .unset, .unset, .unset, .unset, .unset] [])) t → Steps p.tables e below (T0.setTop (mkF m 27 #[.val (.int x0), .val (.int x1), .val (.int x2), .val (.int x3), .val (.int x4), .val (.ref x5), .unset, .unset, .unset, .unset, .unset, .unset] [])) t := by
  by_cases hlt : x2 < (3 : Int32)
  · obtain ⟨cq1, kq1, q1a, q1b, q1c⟩ := isOf hZ e0 HS.choose_spec.choose_spec.choose_spec.choose_spec.choose_spec.1
    obtain ⟨_, _, ⟨T1, L1, k1, n1⟩, -, X1, ⟨Lc1, hQ1, l1, y1, z1⟩, st1⟩ := X0.virtualBack hx (y := (⟨"com/example/prune/prune/mdp/Lists", "count", "(I)V"⟩ : MethodName)) (z := (⟨"com/example/prune/prune/mdp/Lists", "count", "(I)V"⟩ : MethodName)) hown (mvT hZ (hw _ (List.mem_of_getElem? (i := 18) rfl))) (mvT hZ (hw _ (List.mem_of_getElem? (i := 19) rfl))) (notFace_of_selects (args := #[]) (mvT hZ (hw _ (List.mem_of_getElem? (i := 21) rfl)))) (mvT hZ (hw _ (List.mem_of_getElem? (i := 21) rfl))) (mvT hZ (hw _ (List.mem_of_getElem? (i := 20) rfl))) (by decide) (backOf (W := 0) (rm3 l Z a0 hw [] x5 x2 s7.1 s7.2.1 s7.2.2.1 s7.2.2.2.1 s7.2.2.2.2 h0 n0 Z0 HS (hok hlt)) hZ (hw _ (List.mem_of_getElem? (i := 22) rfl)) (hw _ (List.mem_of_getElem? (i := 2) rfl)) (by decide) (by decide)) q1a q1c (g := (mkF m 35 #[.val (.int x0), .val (.int x1), .val (.int x2), .val (.int x3), .val (.int x4), .val (.ref x5), .unset, .unset, .unset, .unset, .unset, .unset] [(.int x2), (.ref x5)])) rfl (by rw [hml]; rfl) (Steps.refl _) (argsL := [(.int x2)]) (rest := []) (lenOf pd_sga rfl) rfl (by show 2 * 0 + _ ≤ _; exact Nat.le_of_eq rfl) (hb hby at_35) (fun _ _ => ⟨rfl, e0, (by decide : 5 + 0 ≤ _), (by decide : 14 + 0 ≤ _)⟩)
    dsimp only [Pt.U, Pt.locs, Pt.cells, Pt.slots] at X1 l1 y1 z1 st1 hQ1
    subst l1 y1 z1
    obtain ⟨rfl, N1q, Zq1, HSq⟩ := hQ1
    have N1 := Fr.app N0 N1q
    have HS2 : own_S Z T1.heap n0 x5 (own_cc s7 x2) := by
      unfold own_cc
      rw [if_pos hlt]
      exact HSq
    refine ⟨T1, _, _, X1, rfl, N1, Zq1, HS2, fun t k => ?_⟩
    show Steps p.tables e below (T0.setTop (mkF m 27 #[.val (.int x0), .val (.int x1), .val (.int x2), .val (.int x3), .val (.int x4), .val (.ref x5), .unset, .unset, .unset, .unset, .unset, .unset] [])) _
    refine XS.iloadN X0.here hx rfl (hb hby at_27) rfl ?_
    show Steps p.tables e below (T0.setTop (mkF m 28 #[.val (.int x0), .val (.int x1), .val (.int x2), .val (.int x3), .val (.int x4), .val (.ref x5), .unset, .unset, .unset, .unset, .unset, .unset] [(.int x2)])) _
    refine XS.iconst X0.here hx rfl (hb hby at_28) ?_
    show Steps p.tables e below (T0.setTop (mkF m 29 #[.val (.int x0), .val (.int x1), .val (.int x2), .val (.int x3), .val (.int x4), .val (.ref x5), .unset, .unset, .unset, .unset, .unset, .unset] [(.int (3 : Int32)), (.int x2)])) _
    refine XS.icmpNo X0.here hx rfl (hb hby at_29) rfl (tlt hlt).2.1 ?_
    show Steps p.tables e below (T0.setTop (mkF m 32 #[.val (.int x0), .val (.int x1), .val (.int x2), .val (.int x3), .val (.int x4), .val (.ref x5), .unset, .unset, .unset, .unset, .unset, .unset] [])) _
    refine XS.aload X0.here hx rfl (hb hby at_32) rfl rfl ?_
    show Steps p.tables e below (T0.setTop (mkF m 34 #[.val (.int x0), .val (.int x1), .val (.int x2), .val (.int x3), .val (.int x4), .val (.ref x5), .unset, .unset, .unset, .unset, .unset, .unset] [(.ref x5)])) _
    refine XS.iloadN X0.here hx rfl (hb hby at_34) rfl ?_
    show Steps p.tables e below (T0.setTop (mkF m 35 #[.val (.int x0), .val (.int x1), .val (.int x2), .val (.int x3), .val (.int x4), .val (.ref x5), .unset, .unset, .unset, .unset, .unset, .unset] [(.int x2), (.ref x5)])) _
    refine st1.trans ?_
    exact k
  · have HS2 : own_S Z h0 n0 x5 (own_cc s7 x2) := by
      unfold own_cc
      rw [if_neg hlt]
      exact HS
    refine ⟨T0, h0, _, X0, e0, N0, Z0, HS2, fun t k => ?_⟩
    show Steps p.tables e below (T0.setTop (mkF m 27 #[.val (.int x0), .val (.int x1), .val (.int x2), .val (.int x3), .val (.int x4), .val (.ref x5), .unset, .unset, .unset, .unset, .unset, .unset] [])) _
    refine XS.iloadN X0.here hx rfl (hb hby at_27) rfl ?_
    show Steps p.tables e below (T0.setTop (mkF m 28 #[.val (.int x0), .val (.int x1), .val (.int x2), .val (.int x3), .val (.int x4), .val (.ref x5), .unset, .unset, .unset, .unset, .unset, .unset] [(.int x2)])) _
    refine XS.iconst X0.here hx rfl (hb hby at_28) ?_
    show Steps p.tables e below (T0.setTop (mkF m 29 #[.val (.int x0), .val (.int x1), .val (.int x2), .val (.int x3), .val (.int x4), .val (.ref x5), .unset, .unset, .unset, .unset, .unset, .unset] [(.int (3 : Int32)), (.int x2)])) _
    refine XS.icmpYes X0.here hx rfl (pc0 := 29) (pc' := 38) rfl (hb hby at_29) rfl (flt hlt).2.1 (by decide) (by decide) ?_
    exact k
theorem pd_sgb : parseMethodDescriptor "(I)V" = some ⟨[.int], none⟩ := by decide +kernel
set_option maxRecDepth 65536 in
set_option maxHeartbeats 40000000 in
theorem sgb {p : Program} {l : Launch} {e : Env} {s : State} {m : MethodId} {args : Array Value} {below : List Frame} {meth : Method} {c : Code} {T0 : State} {locs : List Loc} {Z : State} {a0 : Array Value} {h0 : Heap} (x0 : Int32) (x1 : Int32) (x2 : Int32) (x3 : Int32) (x4 : Int32) (x5 : Addr) (s7 : own_T) (n0 : Nat) (X0 : Stand p l e room_1 s m args below meth c T0 locs 5 14) (hx : p.tables.exec = Jvm.exec) (hZ : Z.Warmed39 s.vm) (hw : ∀ d ∈ tables_1, d.before a0 Z = true) (hby : c.code = code) (hml : c.maxLocals = 12) (hown : s.vm.findClass "com/example/prune/prune/mdp/ListsPlacePinLaw" = some m.cls) (e0 : T0.heap = h0) (N0 : Fr n0 locs) (Z0 : n0 ≤ h0.size) (HS : own_S Z h0 n0 x5 s7) (hok : x3 < (3 : Int32) → own_okc s7 x3 = true) :
    ∃ (T' : State) (h' : Heap) (locs' : List Loc), Stand p l e room_1 s m args below meth c T' locs' 5 14 ∧ T'.heap = h' ∧ Fr n0 locs' ∧ n0 ≤ h'.size ∧ own_S Z h' n0 x5 (own_cc s7 x3) ∧
      ∀ t, Steps p.tables e below (T'.setTop (mkF m 49 #[.val (.int x0), .val (.int x1), .val (.int x2), .val (.int x3), .val (.int x4), .val (.ref x5), .unset, .unset, .unset, .unset, .unset, .unset] [])) t → Steps p.tables e below (T0.setTop (mkF m 38 #[.val (.int x0), .val (.int x1), .val (.int x2), .val (.int x3), .val (.int x4), .val (.ref x5), .unset, .unset, .unset, .unset, .unset, .unset] [])) t := by
  by_cases hlt : x3 < (3 : Int32)
  · obtain ⟨cq1, kq1, q1a, q1b, q1c⟩ := isOf hZ e0 HS.choose_spec.choose_spec.choose_spec.choose_spec.choose_spec.1
    obtain ⟨_, _, ⟨T1, L1, k1, n1⟩, -, X1, ⟨Lc1, hQ1, l1, y1, z1⟩, st1⟩ := X0.virtualBack hx (y := (⟨"com/example/prune/prune/mdp/Lists", "count", "(I)V"⟩ : MethodName)) (z := (⟨"com/example/prune/prune/mdp/Lists", "count", "(I)V"⟩ : MethodName)) hown (mvT hZ (hw _ (List.mem_of_getElem? (i := 18) rfl))) (mvT hZ (hw _ (List.mem_of_getElem? (i := 19) rfl))) (notFace_of_selects (args := #[]) (mvT hZ (hw _ (List.mem_of_getElem? (i := 21) rfl)))) (mvT hZ (hw _ (List.mem_of_getElem? (i := 21) rfl))) (mvT hZ (hw _ (List.mem_of_getElem? (i := 20) rfl))) (by decide) (backOf (W := 0) (rm3 l Z a0 hw [] x5 x3 s7.1 s7.2.1 s7.2.2.1 s7.2.2.2.1 s7.2.2.2.2 h0 n0 Z0 HS (hok hlt)) hZ (hw _ (List.mem_of_getElem? (i := 22) rfl)) (hw _ (List.mem_of_getElem? (i := 2) rfl)) (by decide) (by decide)) q1a q1c (g := (mkF m 46 #[.val (.int x0), .val (.int x1), .val (.int x2), .val (.int x3), .val (.int x4), .val (.ref x5), .unset, .unset, .unset, .unset, .unset, .unset] [(.int x3), (.ref x5)])) rfl (by rw [hml]; rfl) (Steps.refl _) (argsL := [(.int x3)]) (rest := []) (lenOf pd_sgb rfl) rfl (by show 2 * 0 + _ ≤ _; exact Nat.le_of_eq rfl) (hb hby at_46) (fun _ _ => ⟨rfl, e0, (by decide : 5 + 0 ≤ _), (by decide : 14 + 0 ≤ _)⟩)
    dsimp only [Pt.U, Pt.locs, Pt.cells, Pt.slots] at X1 l1 y1 z1 st1 hQ1
    subst l1 y1 z1
    obtain ⟨rfl, N1q, Zq1, HSq⟩ := hQ1
    have N1 := Fr.app N0 N1q
    have HS2 : own_S Z T1.heap n0 x5 (own_cc s7 x3) := by
      unfold own_cc
      rw [if_pos hlt]
      exact HSq
    refine ⟨T1, _, _, X1, rfl, N1, Zq1, HS2, fun t k => ?_⟩
    show Steps p.tables e below (T0.setTop (mkF m 38 #[.val (.int x0), .val (.int x1), .val (.int x2), .val (.int x3), .val (.int x4), .val (.ref x5), .unset, .unset, .unset, .unset, .unset, .unset] [])) _
    refine XS.iloadN X0.here hx rfl (hb hby at_38) rfl ?_
    show Steps p.tables e below (T0.setTop (mkF m 39 #[.val (.int x0), .val (.int x1), .val (.int x2), .val (.int x3), .val (.int x4), .val (.ref x5), .unset, .unset, .unset, .unset, .unset, .unset] [(.int x3)])) _
    refine XS.iconst X0.here hx rfl (hb hby at_39) ?_
    show Steps p.tables e below (T0.setTop (mkF m 40 #[.val (.int x0), .val (.int x1), .val (.int x2), .val (.int x3), .val (.int x4), .val (.ref x5), .unset, .unset, .unset, .unset, .unset, .unset] [(.int (3 : Int32)), (.int x3)])) _
    refine XS.icmpNo X0.here hx rfl (hb hby at_40) rfl (tlt hlt).2.1 ?_
    show Steps p.tables e below (T0.setTop (mkF m 43 #[.val (.int x0), .val (.int x1), .val (.int x2), .val (.int x3), .val (.int x4), .val (.ref x5), .unset, .unset, .unset, .unset, .unset, .unset] [])) _
    refine XS.aload X0.here hx rfl (hb hby at_43) rfl rfl ?_
    show Steps p.tables e below (T0.setTop (mkF m 45 #[.val (.int x0), .val (.int x1), .val (.int x2), .val (.int x3), .val (.int x4), .val (.ref x5), .unset, .unset, .unset, .unset, .unset, .unset] [(.ref x5)])) _
    refine XS.iloadN X0.here hx rfl (hb hby at_45) rfl ?_
    show Steps p.tables e below (T0.setTop (mkF m 46 #[.val (.int x0), .val (.int x1), .val (.int x2), .val (.int x3), .val (.int x4), .val (.ref x5), .unset, .unset, .unset, .unset, .unset, .unset] [(.int x3), (.ref x5)])) _
    refine st1.trans ?_
    exact k
  · have HS2 : own_S Z h0 n0 x5 (own_cc s7 x3) := by
      unfold own_cc
      rw [if_neg hlt]
      exact HS
    refine ⟨T0, h0, _, X0, e0, N0, Z0, HS2, fun t k => ?_⟩
    show Steps p.tables e below (T0.setTop (mkF m 38 #[.val (.int x0), .val (.int x1), .val (.int x2), .val (.int x3), .val (.int x4), .val (.ref x5), .unset, .unset, .unset, .unset, .unset, .unset] [])) _
    refine XS.iloadN X0.here hx rfl (hb hby at_38) rfl ?_
    show Steps p.tables e below (T0.setTop (mkF m 39 #[.val (.int x0), .val (.int x1), .val (.int x2), .val (.int x3), .val (.int x4), .val (.ref x5), .unset, .unset, .unset, .unset, .unset, .unset] [(.int x3)])) _
    refine XS.iconst X0.here hx rfl (hb hby at_39) ?_
    show Steps p.tables e below (T0.setTop (mkF m 40 #[.val (.int x0), .val (.int x1), .val (.int x2), .val (.int x3), .val (.int x4), .val (.ref x5), .unset, .unset, .unset, .unset, .unset, .unset] [(.int (3 : Int32)), (.int x3)])) _
    refine XS.icmpYes X0.here hx rfl (pc0 := 40) (pc' := 49) rfl (hb hby at_40) rfl (flt hlt).2.1 (by decide) (by decide) ?_
    exact k
theorem pd_sgc : parseMethodDescriptor "(I)V" = some ⟨[.int], none⟩ := by decide +kernel
set_option maxRecDepth 65536 in
set_option maxHeartbeats 40000000 in
theorem sgc {p : Program} {l : Launch} {e : Env} {s : State} {m : MethodId} {args : Array Value} {below : List Frame} {meth : Method} {c : Code} {T0 : State} {locs : List Loc} {Z : State} {a0 : Array Value} {h0 : Heap} (x0 : Int32) (x1 : Int32) (x2 : Int32) (x3 : Int32) (x4 : Int32) (x5 : Addr) (s7 : own_T) (n0 : Nat) (X0 : Stand p l e room_1 s m args below meth c T0 locs 5 14) (hx : p.tables.exec = Jvm.exec) (hZ : Z.Warmed39 s.vm) (hw : ∀ d ∈ tables_1, d.before a0 Z = true) (hby : c.code = code) (hml : c.maxLocals = 12) (hown : s.vm.findClass "com/example/prune/prune/mdp/ListsPlacePinLaw" = some m.cls) (e0 : T0.heap = h0) (N0 : Fr n0 locs) (Z0 : n0 ≤ h0.size) (HS : own_S Z h0 n0 x5 s7) (hok : x4 < (3 : Int32) → own_okc s7 x4 = true) :
    ∃ (T' : State) (h' : Heap) (locs' : List Loc), Stand p l e room_1 s m args below meth c T' locs' 5 14 ∧ T'.heap = h' ∧ Fr n0 locs' ∧ n0 ≤ h'.size ∧ own_S Z h' n0 x5 (own_cc s7 x4) ∧
      ∀ t, Steps p.tables e below (T'.setTop (mkF m 62 #[.val (.int x0), .val (.int x1), .val (.int x2), .val (.int x3), .val (.int x4), .val (.ref x5), .unset, .unset, .unset, .unset, .unset, .unset] [])) t → Steps p.tables e below (T0.setTop (mkF m 49 #[.val (.int x0), .val (.int x1), .val (.int x2), .val (.int x3), .val (.int x4), .val (.ref x5), .unset, .unset, .unset, .unset, .unset, .unset] [])) t := by
  by_cases hlt : x4 < (3 : Int32)
  · obtain ⟨cq1, kq1, q1a, q1b, q1c⟩ := isOf hZ e0 HS.choose_spec.choose_spec.choose_spec.choose_spec.choose_spec.1
    obtain ⟨_, _, ⟨T1, L1, k1, n1⟩, -, X1, ⟨Lc1, hQ1, l1, y1, z1⟩, st1⟩ := X0.virtualBack hx (y := (⟨"com/example/prune/prune/mdp/Lists", "count", "(I)V"⟩ : MethodName)) (z := (⟨"com/example/prune/prune/mdp/Lists", "count", "(I)V"⟩ : MethodName)) hown (mvT hZ (hw _ (List.mem_of_getElem? (i := 18) rfl))) (mvT hZ (hw _ (List.mem_of_getElem? (i := 19) rfl))) (notFace_of_selects (args := #[]) (mvT hZ (hw _ (List.mem_of_getElem? (i := 21) rfl)))) (mvT hZ (hw _ (List.mem_of_getElem? (i := 21) rfl))) (mvT hZ (hw _ (List.mem_of_getElem? (i := 20) rfl))) (by decide) (backOf (W := 0) (rm3 l Z a0 hw [] x5 x4 s7.1 s7.2.1 s7.2.2.1 s7.2.2.2.1 s7.2.2.2.2 h0 n0 Z0 HS (hok hlt)) hZ (hw _ (List.mem_of_getElem? (i := 22) rfl)) (hw _ (List.mem_of_getElem? (i := 2) rfl)) (by decide) (by decide)) q1a q1c (g := (mkF m 59 #[.val (.int x0), .val (.int x1), .val (.int x2), .val (.int x3), .val (.int x4), .val (.ref x5), .unset, .unset, .unset, .unset, .unset, .unset] [(.int x4), (.ref x5)])) rfl (by rw [hml]; rfl) (Steps.refl _) (argsL := [(.int x4)]) (rest := []) (lenOf pd_sgc rfl) rfl (by show 2 * 0 + _ ≤ _; exact Nat.le_of_eq rfl) (hb hby at_59) (fun _ _ => ⟨rfl, e0, (by decide : 5 + 0 ≤ _), (by decide : 14 + 0 ≤ _)⟩)
    dsimp only [Pt.U, Pt.locs, Pt.cells, Pt.slots] at X1 l1 y1 z1 st1 hQ1
    subst l1 y1 z1
    obtain ⟨rfl, N1q, Zq1, HSq⟩ := hQ1
    have N1 := Fr.app N0 N1q
    have HS2 : own_S Z T1.heap n0 x5 (own_cc s7 x4) := by
      unfold own_cc
      rw [if_pos hlt]
      exact HSq
    refine ⟨T1, _, _, X1, rfl, N1, Zq1, HS2, fun t k => ?_⟩
    show Steps p.tables e below (T0.setTop (mkF m 49 #[.val (.int x0), .val (.int x1), .val (.int x2), .val (.int x3), .val (.int x4), .val (.ref x5), .unset, .unset, .unset, .unset, .unset, .unset] [])) _
    refine XS.iload X0.here hx rfl (hb hby at_49) rfl ?_
    show Steps p.tables e below (T0.setTop (mkF m 51 #[.val (.int x0), .val (.int x1), .val (.int x2), .val (.int x3), .val (.int x4), .val (.ref x5), .unset, .unset, .unset, .unset, .unset, .unset] [(.int x4)])) _
    refine XS.iconst X0.here hx rfl (hb hby at_51) ?_
    show Steps p.tables e below (T0.setTop (mkF m 52 #[.val (.int x0), .val (.int x1), .val (.int x2), .val (.int x3), .val (.int x4), .val (.ref x5), .unset, .unset, .unset, .unset, .unset, .unset] [(.int (3 : Int32)), (.int x4)])) _
    refine XS.icmpNo X0.here hx rfl (hb hby at_52) rfl (tlt hlt).2.1 ?_
    show Steps p.tables e below (T0.setTop (mkF m 55 #[.val (.int x0), .val (.int x1), .val (.int x2), .val (.int x3), .val (.int x4), .val (.ref x5), .unset, .unset, .unset, .unset, .unset, .unset] [])) _
    refine XS.aload X0.here hx rfl (hb hby at_55) rfl rfl ?_
    show Steps p.tables e below (T0.setTop (mkF m 57 #[.val (.int x0), .val (.int x1), .val (.int x2), .val (.int x3), .val (.int x4), .val (.ref x5), .unset, .unset, .unset, .unset, .unset, .unset] [(.ref x5)])) _
    refine XS.iload X0.here hx rfl (hb hby at_57) rfl ?_
    show Steps p.tables e below (T0.setTop (mkF m 59 #[.val (.int x0), .val (.int x1), .val (.int x2), .val (.int x3), .val (.int x4), .val (.ref x5), .unset, .unset, .unset, .unset, .unset, .unset] [(.int x4), (.ref x5)])) _
    refine st1.trans ?_
    exact k
  · have HS2 : own_S Z h0 n0 x5 (own_cc s7 x4) := by
      unfold own_cc
      rw [if_neg hlt]
      exact HS
    refine ⟨T0, h0, _, X0, e0, N0, Z0, HS2, fun t k => ?_⟩
    show Steps p.tables e below (T0.setTop (mkF m 49 #[.val (.int x0), .val (.int x1), .val (.int x2), .val (.int x3), .val (.int x4), .val (.ref x5), .unset, .unset, .unset, .unset, .unset, .unset] [])) _
    refine XS.iload X0.here hx rfl (hb hby at_49) rfl ?_
    show Steps p.tables e below (T0.setTop (mkF m 51 #[.val (.int x0), .val (.int x1), .val (.int x2), .val (.int x3), .val (.int x4), .val (.ref x5), .unset, .unset, .unset, .unset, .unset, .unset] [(.int x4)])) _
    refine XS.iconst X0.here hx rfl (hb hby at_51) ?_
    show Steps p.tables e below (T0.setTop (mkF m 52 #[.val (.int x0), .val (.int x1), .val (.int x2), .val (.int x3), .val (.int x4), .val (.ref x5), .unset, .unset, .unset, .unset, .unset, .unset] [(.int (3 : Int32)), (.int x4)])) _
    refine XS.icmpYes X0.here hx rfl (pc0 := 52) (pc' := 62) rfl (hb hby at_52) rfl (flt hlt).2.1 (by decide) (by decide) ?_
    exact k
theorem pd_sgd : parseMethodDescriptor "(II)V" = some ⟨[.int, .int], none⟩ := by decide +kernel
set_option maxRecDepth 65536 in
set_option maxHeartbeats 40000000 in
theorem sgd {p : Program} {l : Launch} {e : Env} {s : State} {m : MethodId} {args : Array Value} {below : List Frame} {meth : Method} {c : Code} {T0 : State} {locs : List Loc} {Z : State} {a0 : Array Value} {h0 : Heap} (x0 : Int32) (x1 : Int32) (x2 : Int32) (x3 : Int32) (x4 : Int32) (x5 : Addr) (x6 : Int32) (x7 : Int32) (x8 : Int32) (s7 : own_T) (n0 : Nat) (X0 : Stand p l e room_1 s m args below meth c T0 locs 6 17) (hx : p.tables.exec = Jvm.exec) (hZ : Z.Warmed39 s.vm) (hw : ∀ d ∈ tables_1, d.before a0 Z = true) (hby : c.code = code) (hml : c.maxLocals = 12) (hown : s.vm.findClass "com/example/prune/prune/mdp/ListsPlacePinLaw" = some m.cls) (e0 : T0.heap = h0) (N0 : Fr n0 locs) (Z0 : n0 ≤ h0.size) (HS : own_S Z h0 n0 x5 s7) (hok : x2 < (3 : Int32) → own_oka s7 x2 = true) :
    ∃ (T' : State) (h' : Heap) (locs' : List Loc), Stand p l e room_1 s m args below meth c T' locs' 6 17 ∧ T'.heap = h' ∧ Fr n0 locs' ∧ n0 ≤ h'.size ∧ own_S Z h' n0 x5 (own_ca s7 x2) ∧
      ∀ t, Steps p.tables e below (T'.setTop (mkF m 151 #[.val (.int x0), .val (.int x1), .val (.int x2), .val (.int x3), .val (.int x4), .val (.ref x5), .val (.int x6), .val (.int x7), .val (.int x8), .unset, .unset, .unset] [])) t → Steps p.tables e below (T0.setTop (mkF m 139 #[.val (.int x0), .val (.int x1), .val (.int x2), .val (.int x3), .val (.int x4), .val (.ref x5), .val (.int x6), .val (.int x7), .val (.int x8), .unset, .unset, .unset] [])) t := by
  by_cases hlt : x2 < (3 : Int32)
  · obtain ⟨cq1, kq1, q1a, q1b, q1c⟩ := isOf hZ e0 HS.choose_spec.choose_spec.choose_spec.choose_spec.choose_spec.1
    obtain ⟨_, _, ⟨T1, L1, k1, n1⟩, -, X1, ⟨Lc1, hQ1, l1, y1, z1⟩, st1⟩ := X0.virtualBack hx (y := (⟨"com/example/prune/prune/mdp/Lists", "add", "(II)V"⟩ : MethodName)) (z := (⟨"com/example/prune/prune/mdp/Lists", "add", "(II)V"⟩ : MethodName)) hown (mvT hZ (hw _ (List.mem_of_getElem? (i := 45) rfl))) (mvT hZ (hw _ (List.mem_of_getElem? (i := 46) rfl))) (notFace_of_selects (args := #[]) (mvT hZ (hw _ (List.mem_of_getElem? (i := 48) rfl)))) (mvT hZ (hw _ (List.mem_of_getElem? (i := 48) rfl))) (mvT hZ (hw _ (List.mem_of_getElem? (i := 47) rfl))) (by decide) (backOf (W := 0) (rm9 l Z a0 hw [] x5 x2 x1 s7.1 s7.2.1 s7.2.2.1 s7.2.2.2.1 s7.2.2.2.2 h0 n0 Z0 HS (hok hlt)) hZ (hw _ (List.mem_of_getElem? (i := 49) rfl)) (hw _ (List.mem_of_getElem? (i := 2) rfl)) (by decide) (by decide)) q1a q1c (g := (mkF m 148 #[.val (.int x0), .val (.int x1), .val (.int x2), .val (.int x3), .val (.int x4), .val (.ref x5), .val (.int x6), .val (.int x7), .val (.int x8), .unset, .unset, .unset] [(.int x1), (.int x2), (.ref x5)])) rfl (by rw [hml]; rfl) (Steps.refl _) (argsL := [(.int x2), (.int x1)]) (rest := []) (lenOf pd_sgd rfl) rfl (by show 2 * 0 + _ ≤ _; exact Nat.le_of_eq rfl) (hb hby at_148) (fun _ _ => ⟨rfl, e0, (by decide : 6 + 0 ≤ _), (by decide : 17 + 0 ≤ _)⟩)
    dsimp only [Pt.U, Pt.locs, Pt.cells, Pt.slots] at X1 l1 y1 z1 st1 hQ1
    subst l1 y1 z1
    obtain ⟨rfl, N1q, Zq1, HSq⟩ := hQ1
    have N1 := Fr.app N0 N1q
    have HS2 : own_S Z T1.heap n0 x5 (own_ca s7 x2) := by
      unfold own_ca
      rw [if_pos hlt]
      exact HSq
    refine ⟨T1, _, _, X1, rfl, N1, Zq1, HS2, fun t k => ?_⟩
    show Steps p.tables e below (T0.setTop (mkF m 139 #[.val (.int x0), .val (.int x1), .val (.int x2), .val (.int x3), .val (.int x4), .val (.ref x5), .val (.int x6), .val (.int x7), .val (.int x8), .unset, .unset, .unset] [])) _
    refine XS.iloadN X0.here hx rfl (hb hby at_139) rfl ?_
    show Steps p.tables e below (T0.setTop (mkF m 140 #[.val (.int x0), .val (.int x1), .val (.int x2), .val (.int x3), .val (.int x4), .val (.ref x5), .val (.int x6), .val (.int x7), .val (.int x8), .unset, .unset, .unset] [(.int x2)])) _
    refine XS.iconst X0.here hx rfl (hb hby at_140) ?_
    show Steps p.tables e below (T0.setTop (mkF m 141 #[.val (.int x0), .val (.int x1), .val (.int x2), .val (.int x3), .val (.int x4), .val (.ref x5), .val (.int x6), .val (.int x7), .val (.int x8), .unset, .unset, .unset] [(.int (3 : Int32)), (.int x2)])) _
    refine XS.icmpNo X0.here hx rfl (hb hby at_141) rfl (tlt hlt).2.1 ?_
    show Steps p.tables e below (T0.setTop (mkF m 144 #[.val (.int x0), .val (.int x1), .val (.int x2), .val (.int x3), .val (.int x4), .val (.ref x5), .val (.int x6), .val (.int x7), .val (.int x8), .unset, .unset, .unset] [])) _
    refine XS.aload X0.here hx rfl (hb hby at_144) rfl rfl ?_
    show Steps p.tables e below (T0.setTop (mkF m 146 #[.val (.int x0), .val (.int x1), .val (.int x2), .val (.int x3), .val (.int x4), .val (.ref x5), .val (.int x6), .val (.int x7), .val (.int x8), .unset, .unset, .unset] [(.ref x5)])) _
    refine XS.iloadN X0.here hx rfl (hb hby at_146) rfl ?_
    show Steps p.tables e below (T0.setTop (mkF m 147 #[.val (.int x0), .val (.int x1), .val (.int x2), .val (.int x3), .val (.int x4), .val (.ref x5), .val (.int x6), .val (.int x7), .val (.int x8), .unset, .unset, .unset] [(.int x2), (.ref x5)])) _
    refine XS.iloadN X0.here hx rfl (hb hby at_147) rfl ?_
    show Steps p.tables e below (T0.setTop (mkF m 148 #[.val (.int x0), .val (.int x1), .val (.int x2), .val (.int x3), .val (.int x4), .val (.ref x5), .val (.int x6), .val (.int x7), .val (.int x8), .unset, .unset, .unset] [(.int x1), (.int x2), (.ref x5)])) _
    refine st1.trans ?_
    exact k
  · have HS2 : own_S Z h0 n0 x5 (own_ca s7 x2) := by
      unfold own_ca
      rw [if_neg hlt]
      exact HS
    refine ⟨T0, h0, _, X0, e0, N0, Z0, HS2, fun t k => ?_⟩
    show Steps p.tables e below (T0.setTop (mkF m 139 #[.val (.int x0), .val (.int x1), .val (.int x2), .val (.int x3), .val (.int x4), .val (.ref x5), .val (.int x6), .val (.int x7), .val (.int x8), .unset, .unset, .unset] [])) _
    refine XS.iloadN X0.here hx rfl (hb hby at_139) rfl ?_
    show Steps p.tables e below (T0.setTop (mkF m 140 #[.val (.int x0), .val (.int x1), .val (.int x2), .val (.int x3), .val (.int x4), .val (.ref x5), .val (.int x6), .val (.int x7), .val (.int x8), .unset, .unset, .unset] [(.int x2)])) _
    refine XS.iconst X0.here hx rfl (hb hby at_140) ?_
    show Steps p.tables e below (T0.setTop (mkF m 141 #[.val (.int x0), .val (.int x1), .val (.int x2), .val (.int x3), .val (.int x4), .val (.ref x5), .val (.int x6), .val (.int x7), .val (.int x8), .unset, .unset, .unset] [(.int (3 : Int32)), (.int x2)])) _
    refine XS.icmpYes X0.here hx rfl (pc0 := 141) (pc' := 151) rfl (hb hby at_141) rfl (flt hlt).2.1 (by decide) (by decide) ?_
    exact k
theorem pd_sge : parseMethodDescriptor "(II)V" = some ⟨[.int, .int], none⟩ := by decide +kernel
set_option maxRecDepth 65536 in
set_option maxHeartbeats 40000000 in
theorem sge {p : Program} {l : Launch} {e : Env} {s : State} {m : MethodId} {args : Array Value} {below : List Frame} {meth : Method} {c : Code} {T0 : State} {locs : List Loc} {Z : State} {a0 : Array Value} {h0 : Heap} (x0 : Int32) (x1 : Int32) (x2 : Int32) (x3 : Int32) (x4 : Int32) (x5 : Addr) (x6 : Int32) (x7 : Int32) (x8 : Int32) (s7 : own_T) (n0 : Nat) (X0 : Stand p l e room_1 s m args below meth c T0 locs 6 17) (hx : p.tables.exec = Jvm.exec) (hZ : Z.Warmed39 s.vm) (hw : ∀ d ∈ tables_1, d.before a0 Z = true) (hby : c.code = code) (hml : c.maxLocals = 12) (hown : s.vm.findClass "com/example/prune/prune/mdp/ListsPlacePinLaw" = some m.cls) (e0 : T0.heap = h0) (N0 : Fr n0 locs) (Z0 : n0 ≤ h0.size) (HS : own_S Z h0 n0 x5 s7) (hok : x3 < (3 : Int32) → own_oka s7 x3 = true) :
    ∃ (T' : State) (h' : Heap) (locs' : List Loc), Stand p l e room_1 s m args below meth c T' locs' 6 17 ∧ T'.heap = h' ∧ Fr n0 locs' ∧ n0 ≤ h'.size ∧ own_S Z h' n0 x5 (own_ca s7 x3) ∧
      ∀ t, Steps p.tables e below (T'.setTop (mkF m 165 #[.val (.int x0), .val (.int x1), .val (.int x2), .val (.int x3), .val (.int x4), .val (.ref x5), .val (.int x6), .val (.int x7), .val (.int x8), .unset, .unset, .unset] [])) t → Steps p.tables e below (T0.setTop (mkF m 151 #[.val (.int x0), .val (.int x1), .val (.int x2), .val (.int x3), .val (.int x4), .val (.ref x5), .val (.int x6), .val (.int x7), .val (.int x8), .unset, .unset, .unset] [])) t := by
  by_cases hlt : x3 < (3 : Int32)
  · obtain ⟨cq1, kq1, q1a, q1b, q1c⟩ := isOf hZ e0 HS.choose_spec.choose_spec.choose_spec.choose_spec.choose_spec.1
    obtain ⟨_, _, ⟨T1, L1, k1, n1⟩, -, X1, ⟨Lc1, hQ1, l1, y1, z1⟩, st1⟩ := X0.virtualBack hx (y := (⟨"com/example/prune/prune/mdp/Lists", "add", "(II)V"⟩ : MethodName)) (z := (⟨"com/example/prune/prune/mdp/Lists", "add", "(II)V"⟩ : MethodName)) hown (mvT hZ (hw _ (List.mem_of_getElem? (i := 45) rfl))) (mvT hZ (hw _ (List.mem_of_getElem? (i := 46) rfl))) (notFace_of_selects (args := #[]) (mvT hZ (hw _ (List.mem_of_getElem? (i := 48) rfl)))) (mvT hZ (hw _ (List.mem_of_getElem? (i := 48) rfl))) (mvT hZ (hw _ (List.mem_of_getElem? (i := 47) rfl))) (by decide) (backOf (W := 0) (rm9 l Z a0 hw [] x5 x3 (x1 ^^^ (1 : Int32)) s7.1 s7.2.1 s7.2.2.1 s7.2.2.2.1 s7.2.2.2.2 h0 n0 Z0 HS (hok hlt)) hZ (hw _ (List.mem_of_getElem? (i := 49) rfl)) (hw _ (List.mem_of_getElem? (i := 2) rfl)) (by decide) (by decide)) q1a q1c (g := (mkF m 162 #[.val (.int x0), .val (.int x1), .val (.int x2), .val (.int x3), .val (.int x4), .val (.ref x5), .val (.int x6), .val (.int x7), .val (.int x8), .unset, .unset, .unset] [(.int (x1 ^^^ (1 : Int32))), (.int x3), (.ref x5)])) rfl (by rw [hml]; rfl) (Steps.refl _) (argsL := [(.int x3), (.int (x1 ^^^ (1 : Int32)))]) (rest := []) (lenOf pd_sge rfl) rfl (by show 2 * 0 + _ ≤ _; exact Nat.le_of_eq rfl) (hb hby at_162) (fun _ _ => ⟨rfl, e0, (by decide : 6 + 0 ≤ _), (by decide : 17 + 0 ≤ _)⟩)
    dsimp only [Pt.U, Pt.locs, Pt.cells, Pt.slots] at X1 l1 y1 z1 st1 hQ1
    subst l1 y1 z1
    obtain ⟨rfl, N1q, Zq1, HSq⟩ := hQ1
    have N1 := Fr.app N0 N1q
    have HS2 : own_S Z T1.heap n0 x5 (own_ca s7 x3) := by
      unfold own_ca
      rw [if_pos hlt]
      exact HSq
    refine ⟨T1, _, _, X1, rfl, N1, Zq1, HS2, fun t k => ?_⟩
    show Steps p.tables e below (T0.setTop (mkF m 151 #[.val (.int x0), .val (.int x1), .val (.int x2), .val (.int x3), .val (.int x4), .val (.ref x5), .val (.int x6), .val (.int x7), .val (.int x8), .unset, .unset, .unset] [])) _
    refine XS.iloadN X0.here hx rfl (hb hby at_151) rfl ?_
    show Steps p.tables e below (T0.setTop (mkF m 152 #[.val (.int x0), .val (.int x1), .val (.int x2), .val (.int x3), .val (.int x4), .val (.ref x5), .val (.int x6), .val (.int x7), .val (.int x8), .unset, .unset, .unset] [(.int x3)])) _
    refine XS.iconst X0.here hx rfl (hb hby at_152) ?_
    show Steps p.tables e below (T0.setTop (mkF m 153 #[.val (.int x0), .val (.int x1), .val (.int x2), .val (.int x3), .val (.int x4), .val (.ref x5), .val (.int x6), .val (.int x7), .val (.int x8), .unset, .unset, .unset] [(.int (3 : Int32)), (.int x3)])) _
    refine XS.icmpNo X0.here hx rfl (hb hby at_153) rfl (tlt hlt).2.1 ?_
    show Steps p.tables e below (T0.setTop (mkF m 156 #[.val (.int x0), .val (.int x1), .val (.int x2), .val (.int x3), .val (.int x4), .val (.ref x5), .val (.int x6), .val (.int x7), .val (.int x8), .unset, .unset, .unset] [])) _
    refine XS.aload X0.here hx rfl (hb hby at_156) rfl rfl ?_
    show Steps p.tables e below (T0.setTop (mkF m 158 #[.val (.int x0), .val (.int x1), .val (.int x2), .val (.int x3), .val (.int x4), .val (.ref x5), .val (.int x6), .val (.int x7), .val (.int x8), .unset, .unset, .unset] [(.ref x5)])) _
    refine XS.iloadN X0.here hx rfl (hb hby at_158) rfl ?_
    show Steps p.tables e below (T0.setTop (mkF m 159 #[.val (.int x0), .val (.int x1), .val (.int x2), .val (.int x3), .val (.int x4), .val (.ref x5), .val (.int x6), .val (.int x7), .val (.int x8), .unset, .unset, .unset] [(.int x3), (.ref x5)])) _
    refine XS.iloadN X0.here hx rfl (hb hby at_159) rfl ?_
    show Steps p.tables e below (T0.setTop (mkF m 160 #[.val (.int x0), .val (.int x1), .val (.int x2), .val (.int x3), .val (.int x4), .val (.ref x5), .val (.int x6), .val (.int x7), .val (.int x8), .unset, .unset, .unset] [(.int x1), (.int x3), (.ref x5)])) _
    refine XS.iconst X0.here hx rfl (hb hby at_160) ?_
    show Steps p.tables e below (T0.setTop (mkF m 161 #[.val (.int x0), .val (.int x1), .val (.int x2), .val (.int x3), .val (.int x4), .val (.ref x5), .val (.int x6), .val (.int x7), .val (.int x8), .unset, .unset, .unset] [(.int (1 : Int32)), (.int x1), (.int x3), (.ref x5)])) _
    refine XS.ixor X0.here hx rfl (hb hby at_161) rfl ?_
    show Steps p.tables e below (T0.setTop (mkF m 162 #[.val (.int x0), .val (.int x1), .val (.int x2), .val (.int x3), .val (.int x4), .val (.ref x5), .val (.int x6), .val (.int x7), .val (.int x8), .unset, .unset, .unset] [(.int (x1 ^^^ (1 : Int32))), (.int x3), (.ref x5)])) _
    refine st1.trans ?_
    exact k
  · have HS2 : own_S Z h0 n0 x5 (own_ca s7 x3) := by
      unfold own_ca
      rw [if_neg hlt]
      exact HS
    refine ⟨T0, h0, _, X0, e0, N0, Z0, HS2, fun t k => ?_⟩
    show Steps p.tables e below (T0.setTop (mkF m 151 #[.val (.int x0), .val (.int x1), .val (.int x2), .val (.int x3), .val (.int x4), .val (.ref x5), .val (.int x6), .val (.int x7), .val (.int x8), .unset, .unset, .unset] [])) _
    refine XS.iloadN X0.here hx rfl (hb hby at_151) rfl ?_
    show Steps p.tables e below (T0.setTop (mkF m 152 #[.val (.int x0), .val (.int x1), .val (.int x2), .val (.int x3), .val (.int x4), .val (.ref x5), .val (.int x6), .val (.int x7), .val (.int x8), .unset, .unset, .unset] [(.int x3)])) _
    refine XS.iconst X0.here hx rfl (hb hby at_152) ?_
    show Steps p.tables e below (T0.setTop (mkF m 153 #[.val (.int x0), .val (.int x1), .val (.int x2), .val (.int x3), .val (.int x4), .val (.ref x5), .val (.int x6), .val (.int x7), .val (.int x8), .unset, .unset, .unset] [(.int (3 : Int32)), (.int x3)])) _
    refine XS.icmpYes X0.here hx rfl (pc0 := 153) (pc' := 165) rfl (hb hby at_153) rfl (flt hlt).2.1 (by decide) (by decide) ?_
    exact k
theorem pd_sgf : parseMethodDescriptor "(II)V" = some ⟨[.int, .int], none⟩ := by decide +kernel
set_option maxRecDepth 65536 in
set_option maxHeartbeats 40000000 in
theorem sgf {p : Program} {l : Launch} {e : Env} {s : State} {m : MethodId} {args : Array Value} {below : List Frame} {meth : Method} {c : Code} {T0 : State} {locs : List Loc} {Z : State} {a0 : Array Value} {h0 : Heap} (x0 : Int32) (x1 : Int32) (x2 : Int32) (x3 : Int32) (x4 : Int32) (x5 : Addr) (x6 : Int32) (x7 : Int32) (x8 : Int32) (s7 : own_T) (n0 : Nat) (X0 : Stand p l e room_1 s m args below meth c T0 locs 6 17) (hx : p.tables.exec = Jvm.exec) (hZ : Z.Warmed39 s.vm) (hw : ∀ d ∈ tables_1, d.before a0 Z = true) (hby : c.code = code) (hml : c.maxLocals = 12) (hown : s.vm.findClass "com/example/prune/prune/mdp/ListsPlacePinLaw" = some m.cls) (e0 : T0.heap = h0) (N0 : Fr n0 locs) (Z0 : n0 ≤ h0.size) (HS : own_S Z h0 n0 x5 s7) (hok : x4 < (3 : Int32) → own_oka s7 x4 = true) :
    ∃ (T' : State) (h' : Heap) (locs' : List Loc), Stand p l e room_1 s m args below meth c T' locs' 6 17 ∧ T'.heap = h' ∧ Fr n0 locs' ∧ n0 ≤ h'.size ∧ own_S Z h' n0 x5 (own_ca s7 x4) ∧
      ∀ t, Steps p.tables e below (T'.setTop (mkF m 181 #[.val (.int x0), .val (.int x1), .val (.int x2), .val (.int x3), .val (.int x4), .val (.ref x5), .val (.int x6), .val (.int x7), .val (.int x8), .unset, .unset, .unset] [])) t → Steps p.tables e below (T0.setTop (mkF m 165 #[.val (.int x0), .val (.int x1), .val (.int x2), .val (.int x3), .val (.int x4), .val (.ref x5), .val (.int x6), .val (.int x7), .val (.int x8), .unset, .unset, .unset] [])) t := by
  by_cases hlt : x4 < (3 : Int32)
  · obtain ⟨cq1, kq1, q1a, q1b, q1c⟩ := isOf hZ e0 HS.choose_spec.choose_spec.choose_spec.choose_spec.choose_spec.1
    obtain ⟨_, _, ⟨T1, L1, k1, n1⟩, -, X1, ⟨Lc1, hQ1, l1, y1, z1⟩, st1⟩ := X0.virtualBack hx (y := (⟨"com/example/prune/prune/mdp/Lists", "add", "(II)V"⟩ : MethodName)) (z := (⟨"com/example/prune/prune/mdp/Lists", "add", "(II)V"⟩ : MethodName)) hown (mvT hZ (hw _ (List.mem_of_getElem? (i := 45) rfl))) (mvT hZ (hw _ (List.mem_of_getElem? (i := 46) rfl))) (notFace_of_selects (args := #[]) (mvT hZ (hw _ (List.mem_of_getElem? (i := 48) rfl)))) (mvT hZ (hw _ (List.mem_of_getElem? (i := 48) rfl))) (mvT hZ (hw _ (List.mem_of_getElem? (i := 47) rfl))) (by decide) (backOf (W := 0) (rm9 l Z a0 hw [] x5 x4 (x1 ^^^ (2 : Int32)) s7.1 s7.2.1 s7.2.2.1 s7.2.2.2.1 s7.2.2.2.2 h0 n0 Z0 HS (hok hlt)) hZ (hw _ (List.mem_of_getElem? (i := 49) rfl)) (hw _ (List.mem_of_getElem? (i := 2) rfl)) (by decide) (by decide)) q1a q1c (g := (mkF m 178 #[.val (.int x0), .val (.int x1), .val (.int x2), .val (.int x3), .val (.int x4), .val (.ref x5), .val (.int x6), .val (.int x7), .val (.int x8), .unset, .unset, .unset] [(.int (x1 ^^^ (2 : Int32))), (.int x4), (.ref x5)])) rfl (by rw [hml]; rfl) (Steps.refl _) (argsL := [(.int x4), (.int (x1 ^^^ (2 : Int32)))]) (rest := []) (lenOf pd_sgf rfl) rfl (by show 2 * 0 + _ ≤ _; exact Nat.le_of_eq rfl) (hb hby at_178) (fun _ _ => ⟨rfl, e0, (by decide : 6 + 0 ≤ _), (by decide : 17 + 0 ≤ _)⟩)
    dsimp only [Pt.U, Pt.locs, Pt.cells, Pt.slots] at X1 l1 y1 z1 st1 hQ1
    subst l1 y1 z1
    obtain ⟨rfl, N1q, Zq1, HSq⟩ := hQ1
    have N1 := Fr.app N0 N1q
    have HS2 : own_S Z T1.heap n0 x5 (own_ca s7 x4) := by
      unfold own_ca
      rw [if_pos hlt]
      exact HSq
    refine ⟨T1, _, _, X1, rfl, N1, Zq1, HS2, fun t k => ?_⟩
    show Steps p.tables e below (T0.setTop (mkF m 165 #[.val (.int x0), .val (.int x1), .val (.int x2), .val (.int x3), .val (.int x4), .val (.ref x5), .val (.int x6), .val (.int x7), .val (.int x8), .unset, .unset, .unset] [])) _
    refine XS.iload X0.here hx rfl (hb hby at_165) rfl ?_
    show Steps p.tables e below (T0.setTop (mkF m 167 #[.val (.int x0), .val (.int x1), .val (.int x2), .val (.int x3), .val (.int x4), .val (.ref x5), .val (.int x6), .val (.int x7), .val (.int x8), .unset, .unset, .unset] [(.int x4)])) _
    refine XS.iconst X0.here hx rfl (hb hby at_167) ?_
    show Steps p.tables e below (T0.setTop (mkF m 168 #[.val (.int x0), .val (.int x1), .val (.int x2), .val (.int x3), .val (.int x4), .val (.ref x5), .val (.int x6), .val (.int x7), .val (.int x8), .unset, .unset, .unset] [(.int (3 : Int32)), (.int x4)])) _
    refine XS.icmpNo X0.here hx rfl (hb hby at_168) rfl (tlt hlt).2.1 ?_
    show Steps p.tables e below (T0.setTop (mkF m 171 #[.val (.int x0), .val (.int x1), .val (.int x2), .val (.int x3), .val (.int x4), .val (.ref x5), .val (.int x6), .val (.int x7), .val (.int x8), .unset, .unset, .unset] [])) _
    refine XS.aload X0.here hx rfl (hb hby at_171) rfl rfl ?_
    show Steps p.tables e below (T0.setTop (mkF m 173 #[.val (.int x0), .val (.int x1), .val (.int x2), .val (.int x3), .val (.int x4), .val (.ref x5), .val (.int x6), .val (.int x7), .val (.int x8), .unset, .unset, .unset] [(.ref x5)])) _
    refine XS.iload X0.here hx rfl (hb hby at_173) rfl ?_
    show Steps p.tables e below (T0.setTop (mkF m 175 #[.val (.int x0), .val (.int x1), .val (.int x2), .val (.int x3), .val (.int x4), .val (.ref x5), .val (.int x6), .val (.int x7), .val (.int x8), .unset, .unset, .unset] [(.int x4), (.ref x5)])) _
    refine XS.iloadN X0.here hx rfl (hb hby at_175) rfl ?_
    show Steps p.tables e below (T0.setTop (mkF m 176 #[.val (.int x0), .val (.int x1), .val (.int x2), .val (.int x3), .val (.int x4), .val (.ref x5), .val (.int x6), .val (.int x7), .val (.int x8), .unset, .unset, .unset] [(.int x1), (.int x4), (.ref x5)])) _
    refine XS.iconst X0.here hx rfl (hb hby at_176) ?_
    show Steps p.tables e below (T0.setTop (mkF m 177 #[.val (.int x0), .val (.int x1), .val (.int x2), .val (.int x3), .val (.int x4), .val (.ref x5), .val (.int x6), .val (.int x7), .val (.int x8), .unset, .unset, .unset] [(.int (2 : Int32)), (.int x1), (.int x4), (.ref x5)])) _
    refine XS.ixor X0.here hx rfl (hb hby at_177) rfl ?_
    show Steps p.tables e below (T0.setTop (mkF m 178 #[.val (.int x0), .val (.int x1), .val (.int x2), .val (.int x3), .val (.int x4), .val (.ref x5), .val (.int x6), .val (.int x7), .val (.int x8), .unset, .unset, .unset] [(.int (x1 ^^^ (2 : Int32))), (.int x4), (.ref x5)])) _
    refine st1.trans ?_
    exact k
  · have HS2 : own_S Z h0 n0 x5 (own_ca s7 x4) := by
      unfold own_ca
      rw [if_neg hlt]
      exact HS
    refine ⟨T0, h0, _, X0, e0, N0, Z0, HS2, fun t k => ?_⟩
    show Steps p.tables e below (T0.setTop (mkF m 165 #[.val (.int x0), .val (.int x1), .val (.int x2), .val (.int x3), .val (.int x4), .val (.ref x5), .val (.int x6), .val (.int x7), .val (.int x8), .unset, .unset, .unset] [])) _
    refine XS.iload X0.here hx rfl (hb hby at_165) rfl ?_
    show Steps p.tables e below (T0.setTop (mkF m 167 #[.val (.int x0), .val (.int x1), .val (.int x2), .val (.int x3), .val (.int x4), .val (.ref x5), .val (.int x6), .val (.int x7), .val (.int x8), .unset, .unset, .unset] [(.int x4)])) _
    refine XS.iconst X0.here hx rfl (hb hby at_167) ?_
    show Steps p.tables e below (T0.setTop (mkF m 168 #[.val (.int x0), .val (.int x1), .val (.int x2), .val (.int x3), .val (.int x4), .val (.ref x5), .val (.int x6), .val (.int x7), .val (.int x8), .unset, .unset, .unset] [(.int (3 : Int32)), (.int x4)])) _
    refine XS.icmpYes X0.here hx rfl (pc0 := 168) (pc' := 181) rfl (hb hby at_168) rfl (flt hlt).2.1 (by decide) (by decide) ?_
    exact k
theorem pd_0_0 : parseMethodDescriptor "(I)V" = some ⟨[.int], none⟩ := by decide +kernel
theorem pd_0_1 : parseMethodDescriptor "()V" = some ⟨[], none⟩ := by decide +kernel
theorem pd_0_2 : parseMethodDescriptor "(I)I" = some ⟨[.int], some .int⟩ := by decide +kernel
theorem pd_0_3 : parseMethodDescriptor "(IIII)I" = some ⟨[.int, .int, .int, .int], some .int⟩ := by decide +kernel
theorem pn_0 : plainName "com/example/prune/prune/mdp/ListsPlacePinLaw" = true := by first | (simp [plainName, overriddenIn]; done) | decide +kernel
theorem ef_0 (m : MethodId) (x0 : Int32) (x1 : Int32) : entryFrame m #[(.int x0), (.int x1)] maxLocals = mkF m 0 #[.val (.int x0), .val (.int x1), .unset, .unset, .unset, .unset, .unset, .unset, .unset, .unset, .unset, .unset] [] := by first | (simp [entryFrame, mkF, argsToLocals, Value.category, maxLocals]; done) | rfl
def Q0 (Z : State) (p1 : Int32) (p2 : Int32) (h0 : Heap) (n0 : Nat) (v : Option Value) (h : Heap) (L : List Loc) : Prop := v = some (.int 1) ∧ Fr n0 L
set_option maxRecDepth 65536 in
set_option maxHeartbeats 40000000 in
theorem rm0 (l : Launch) (Z : State) (a0 : Array Value) (hw : ∀ d ∈ tables_1, d.before a0 Z = true) (ws : List Jvm.Cond) (p1 : Int32) (p2 : Int32) (h0 : Heap) (n0 : Nat) (Z0 : n0 ≤ h0.size)  :
    MetFree l x (head1 (Jvm.Cond.code x code maxLocals ret :: ws) room_1) (fun a U => a = #[(.int p1), (.int p2)] ∧ Z.Warmed39 U.vm ∧ U.heap = h0) (fun _ _ _ _ _ => True) (fun _ U o U' => ∃ v L, o = .returned v ∧ Q0 Z p1 p2 h0 n0 v U'.heap L ∧ FrameEnd U o U' L room_1.cells room_1.slots) := by
  refine MetFree.of_bodySF (plainFor_of_name pn_0) hisR ?_
  intro p e s m args below meth c s₁ Bd hml0 hP hK
  obtain ⟨rfl, hZ, hh⟩ := hP
  have hx := Bd.exec
  have hby := Bd.bytes
  have hml : c.maxLocals = 12 := hml0
  have hown : s.vm.findClass "com/example/prune/prune/mdp/ListsPlacePinLaw" = some m.cls := findClass_of_methodNamed Bd.named
  have hnm := (name_of_methodNamed Bd.named Bd.method).1
  have X0 : Stand p l e room_1 s m #[(.int p1), (.int p2)] below meth c s₁ [] 0 0 := Stand.of_body Bd
  have e0 : s₁.heap = h0 := by rw [← hh, Bd.state]; rfl
  have N0 := Fr.nil n0
  have pre0 : ∀ t, Steps p.tables e below (s₁.setTop (mkF m 0 #[.val (.int p1), .val (.int p2), .unset, .unset, .unset, .unset, .unset, .unset, .unset, .unset, .unset, .unset] [])) t → Steps p.tables e below (s₁.setTop (entryFrame m #[(.int p1), (.int p2)] maxLocals)) t := fun t k => castTop (ef_0 m p1 p2) k
  obtain ⟨v1, hv1⟩ : ∃ z : Int32, z = (p1 &&& (3 : Int32)) := ⟨_, rfl⟩
  obtain ⟨v2, hv2⟩ : ∃ z : Int32, z = (((p1.toUInt32 >>> ((2 : Int32) &&& 31).toUInt32).toInt32) &&& (3 : Int32)) := ⟨_, rfl⟩
  obtain ⟨v3, hv3⟩ : ∃ z : Int32, z = (((p1.toUInt32 >>> ((4 : Int32) &&& 31).toUInt32).toInt32) &&& (3 : Int32)) := ⟨_, rfl⟩
  obtain ⟨T4, h4, X4, e4, E4, A4, D4, -, st4⟩ := newO X0 hx hZ hown (hw _ (List.mem_of_getElem? (i := 0) rfl)) (hw _ (List.mem_of_getElem? (i := 1) rfl)) (hw _ (List.mem_of_getElem? (i := 2) rfl)) e0 (g := (mkF m 17 #[.val (.int p1), .val (.int p2), .val (.int v1), .val (.int v2), .val (.int v3), .unset, .unset, .unset, .unset, .unset, .unset, .unset] [])) rfl (hb hby at_17) (by decide) (by decide)
  obtain ⟨b1, g4⟩ : ∃ z, z = h0.size := ⟨_, rfl⟩
  rw [← g4] at A4 D4 st4
  have gb : n0 ≤ b1 := Nat.le_trans Z0 (Nat.le_of_eq g4.symm)
  have Za : n0 ≤ h4.size := Nat.le_trans Z0 E4.1
  obtain ⟨_, _, ⟨T5, L5, k5, n5⟩, -, X5, ⟨Lc5, hQ5, l5, y5, z5⟩, st5⟩ := X4.specialBack hx (y := (⟨"com/example/prune/prune/mdp/Lists", "<init>", "(I)V"⟩ : MethodName)) rfl hown (mvT hZ (hw _ (List.mem_of_getElem? (i := 3) rfl))) (mvT hZ (hw _ (List.mem_of_getElem? (i := 4) rfl))) (mvT hZ (hw _ (List.mem_of_getElem? (i := 5) rfl))) (by decide) (backOf (W := 1) (rm1 l Z a0 hw [] b1 h4 n0 Za A4 (D4 (Or.inl (hw _ (List.mem_of_getElem? (i := 11) rfl))) (ty := (.array .int)) (by decide)) (D4 (Or.inr (hw _ (List.mem_of_getElem? (i := 13) rfl))) (ty := (.array .int)) (by decide)) (D4 (Or.inr (hw _ (List.mem_of_getElem? (i := 15) rfl))) (ty := (.array .int)) (by decide)) (D4 (Or.inr (hw _ (List.mem_of_getElem? (i := 17) rfl))) (ty := (.array .int)) (by decide)) (D4 (Or.inl (hw _ (List.mem_of_getElem? (i := 24) rfl))) (ty := .int) (by decide)) gb) hZ (hw _ (List.mem_of_getElem? (i := 5) rfl)) (hw _ (List.mem_of_getElem? (i := 2) rfl)) (by decide) (by decide)) (g := (mkF m 22 #[.val (.int p1), .val (.int p2), .val (.int v1), .val (.int v2), .val (.int v3), .unset, .unset, .unset, .unset, .unset, .unset, .unset] [(.int (3 : Int32)), (.ref b1), (.ref b1)])) rfl (by rw [hml]; rfl) (Steps.refl _) (a := b1) (argsL := [(.int (3 : Int32))]) (rest := [(.ref b1)]) (lenOf pd_0_0 rfl) rfl (by show 2 * 0 + _ ≤ _; exact Nat.le_of_eq rfl) (hb hby at_22) (fun _ _ => ⟨rfl, e4, (by decide : 1 + 4 ≤ _), (by decide : 5 + 9 ≤ _)⟩)
  dsimp only [Pt.U, Pt.locs, Pt.cells, Pt.slots] at X5 l5 y5 z5 st5 hQ5
  subst l5 y5 z5
  obtain ⟨rfl, N5q, Zi, HSi⟩ := hQ5
  have N5 := Fr.app N0 N5q
  have hall := own_allI _ _ _ v1 v2 v3 hv1 hv2 hv3
  simp only [own_all, Bool.and_eq_true, Bool.or_eq_true, Bool.not_eq_true', decide_eq_true_eq, decide_eq_false_iff_not] at hall
  obtain ⟨⟨⟨⟨⟨⟨⟨⟨⟨⟨⟨⟨⟨⟨oa, ob⟩, oc⟩, oP⟩, l4⟩, l7⟩, ua⟩, ub⟩, uc⟩, t0⟩, t1⟩, t2⟩, t3⟩, t4⟩, t5⟩ := hall
  obtain ⟨s1, hs1⟩ : ∃ z : own_T, z = own_cc own_s0 v1 := ⟨_, rfl⟩
  obtain ⟨s2, hs2⟩ : ∃ z : own_T, z = own_cc s1 v2 := ⟨_, rfl⟩
  obtain ⟨s3, hs3⟩ : ∃ z : own_T, z = own_cc s2 v3 := ⟨_, rfl⟩
  obtain ⟨s4, hs4⟩ : ∃ z : own_T, z = own_mp s3 := ⟨_, rfl⟩
  obtain ⟨s5, hs5⟩ : ∃ z : own_T, z = own_ca s4 v1 := ⟨_, rfl⟩
  obtain ⟨s6, hs6⟩ : ∃ z : own_T, z = own_ca s5 v2 := ⟨_, rfl⟩
  obtain ⟨s7, hs7⟩ : ∃ z : own_T, z = own_ca s6 v3 := ⟨_, rfl⟩
  rw [← hs1] at ob oc oP l4 l7 ua ub uc t0 t1 t2 t3 t4 t5
  rw [← hs2] at oc oP l4 l7 ua ub uc t0 t1 t2 t3 t4 t5
  rw [← hs3] at oP l4 l7 ua ub uc t0 t1 t2 t3 t4 t5
  rw [← hs4] at l4 l7 ua ub uc t0 t1 t2 t3 t4 t5
  rw [← hs5] at l7 ub uc t3 t4 t5
  rw [← hs6] at l7 uc t3 t4 t5
  rw [← hs7] at l7 t3 t4 t5
  simp only [own_len3, Bool.and_eq_true, decide_eq_true_eq] at l4 l7
  obtain ⟨Tsga, hsga, Lsga, Xsga, esga, Nsga, Zsga, HSsga, stsga⟩ := sga p1 p2 v1 v2 v3 b1 own_s0 n0 X5 hx hZ hw hby hml hown rfl N5 Zi HSi (fun q => (oa).resolve_left (fun z => z q))
  rw [← hs1] at HSsga
  obtain ⟨Tsgb, hsgb, Lsgb, Xsgb, esgb, Nsgb, Zsgb, HSsgb, stsgb⟩ := sgb p1 p2 v1 v2 v3 b1 s1 n0 Xsga hx hZ hw hby hml hown esga Nsga Zsga HSsga (fun q => (ob).resolve_left (fun z => z q))
  rw [← hs2] at HSsgb
  obtain ⟨Tsgc, hsgc, Lsgc, Xsgc, esgc, Nsgc, Zsgc, HSsgc, stsgc⟩ := sgc p1 p2 v1 v2 v3 b1 s2 n0 Xsgb hx hZ hw hby hml hown esgb Nsgb Zsgb HSsgb (fun q => (oc).resolve_left (fun z => z q))
  rw [← hs3] at HSsgc
  obtain ⟨cq6, kq6, q6a, q6b, q6c⟩ := isOf hZ esgc HSsgc.choose_spec.choose_spec.choose_spec.choose_spec.choose_spec.1
  obtain ⟨_, _, ⟨T6, L6, k6, n6⟩, -, X6, ⟨Lc6, hQ6, l6, y6, z6⟩, st6⟩ := Xsgc.virtualBack hx (y := (⟨"com/example/prune/prune/mdp/Lists", "place", "()V"⟩ : MethodName)) (z := (⟨"com/example/prune/prune/mdp/Lists", "place", "()V"⟩ : MethodName)) hown (mvT hZ (hw _ (List.mem_of_getElem? (i := 25) rfl))) (mvT hZ (hw _ (List.mem_of_getElem? (i := 26) rfl))) (notFace_of_selects (args := #[]) (mvT hZ (hw _ (List.mem_of_getElem? (i := 28) rfl)))) (mvT hZ (hw _ (List.mem_of_getElem? (i := 28) rfl))) (mvT hZ (hw _ (List.mem_of_getElem? (i := 27) rfl))) (by decide) (backOf (W := 0) (rm4 l Z a0 hw [] b1 s3.1 s3.2.1 s3.2.2.1 s3.2.2.2.1 s3.2.2.2.2 hsgc n0 Zsgc HSsgc oP) hZ (hw _ (List.mem_of_getElem? (i := 29) rfl)) (hw _ (List.mem_of_getElem? (i := 2) rfl)) (by decide) (by decide)) q6a q6c (g := (mkF m 64 #[.val (.int p1), .val (.int p2), .val (.int v1), .val (.int v2), .val (.int v3), .val (.ref b1), .unset, .unset, .unset, .unset, .unset, .unset] [(.ref b1)])) rfl (by rw [hml]; rfl) (Steps.refl _) (argsL := []) (rest := []) (lenOf pd_0_1 rfl) rfl (by show 2 * 0 + _ ≤ _; exact Nat.le_of_eq rfl) (hb hby at_64) (fun _ _ => ⟨rfl, esgc, (by decide : 5 + 1 ≤ _), (by decide : 14 + 3 ≤ _)⟩)
  dsimp only [Pt.U, Pt.locs, Pt.cells, Pt.slots] at X6 l6 y6 z6 st6 hQ6
  subst l6 y6 z6
  obtain ⟨rfl, N6q, Zp, HSp0⟩ := hQ6
  have N6 := Fr.app Nsgc N6q
  have HSp : own_S Z T6.heap n0 b1 s4 := by rw [hs4]; exact HSp0
  obtain ⟨cq7, kq7, q7a, q7b, q7c⟩ := isOf hZ rfl HSp.choose_spec.choose_spec.choose_spec.choose_spec.choose_spec.1
  obtain ⟨_, _, ⟨T7, L7, k7, n7⟩, -, X7, ⟨Lc7, hQ7, l7, y7, z7⟩, st7⟩ := X6.virtualBack hx (y := (⟨"com/example/prune/prune/mdp/Lists", "start", "(I)I"⟩ : MethodName)) (z := (⟨"com/example/prune/prune/mdp/Lists", "start", "(I)I"⟩ : MethodName)) hown (mvT hZ (hw _ (List.mem_of_getElem? (i := 30) rfl))) (mvT hZ (hw _ (List.mem_of_getElem? (i := 31) rfl))) (notFace_of_selects (args := #[]) (mvT hZ (hw _ (List.mem_of_getElem? (i := 33) rfl)))) (mvT hZ (hw _ (List.mem_of_getElem? (i := 33) rfl))) (mvT hZ (hw _ (List.mem_of_getElem? (i := 32) rfl))) (by decide) (backOf (W := 0) (rm5 l Z a0 hw [] b1 (0 : Int32) s4.1 s4.2.1 s4.2.2.1 s4.2.2.2.1 s4.2.2.2.2 T6.heap n0 Zp HSp (by decide) (by rw [l4.1]; decide)) hZ (hw _ (List.mem_of_getElem? (i := 34) rfl)) (hw _ (List.mem_of_getElem? (i := 2) rfl)) (by decide) (by decide)) q7a q7c (g := (mkF m 70 #[.val (.int p1), .val (.int p2), .val (.int v1), .val (.int v2), .val (.int v3), .val (.ref b1), .unset, .unset, .unset, .unset, .unset, .unset] [(.int (0 : Int32)), (.ref b1)])) rfl (by rw [hml]; rfl) (Steps.refl _) (argsL := [(.int (0 : Int32))]) (rest := []) (lenOf pd_0_2 rfl) rfl (by show 2 * 0 + _ ≤ _; exact Nat.le_of_eq rfl) (hb hby at_70) (fun _ _ => ⟨rfl, rfl, (by decide : 6 + 0 ≤ _), (by decide : 17 + 0 ≤ _)⟩)
  dsimp only [Pt.U, Pt.locs, Pt.cells, Pt.slots] at X7 l7 y7 z7 st7 hQ7
  subst l7 y7 z7
  obtain ⟨rfl, N7q, e7⟩ := hQ7
  have N7 := Fr.app N6 N7q
  obtain ⟨_, _, ⟨T8, L8, k8, n8⟩, -, X8, ⟨Lc8, hQ8, l8, y8, z8⟩, st8⟩ := Jvm.LawKit.callS X7 hx (y := (⟨"com/example/prune/prune/mdp/ListsPlacePinLaw", "refStart", "(IIII)I"⟩ : MethodName)) hown (mvT hZ (hw _ (List.mem_of_getElem? (i := 35) rfl))) (mvT hZ (hw _ (List.mem_of_getElem? (i := 36) rfl))) (mvT hZ (hw _ (List.mem_of_getElem? (i := 37) rfl))) (mvT hZ (hw _ (List.mem_of_getElem? (i := 38) rfl))) (by decide) (backOf (W := 1) (rm6 l Z a0 hw [] (0 : Int32) v1 v2 v3 T6.heap n0 Zp) hZ (hw _ (List.mem_of_getElem? (i := 38) rfl)) (hw _ (List.mem_of_getElem? (i := 37) rfl)) (by decide) (by decide)) (g := (mkF m 78 #[.val (.int p1), .val (.int p2), .val (.int v1), .val (.int v2), .val (.int v3), .val (.ref b1), .unset, .unset, .unset, .unset, .unset, .unset] [(.int v3), (.int v2), (.int v1), (.int (0 : Int32)), (.int (own_st s4 (0 : Int32)))])) rfl (by rw [hml]; rfl) (argsL := [(.int (0 : Int32)), (.int v1), (.int v2), (.int v3)]) (rest := [(.int (own_st s4 (0 : Int32)))]) (lenOf pd_0_3 rfl) rfl (by show 2 * 0 + _ ≤ _; exact Nat.le_of_eq rfl) (hb hby at_78) (fun _ _ => ⟨rfl, e7, (by decide : 6 + 0 ≤ _), (by decide : 17 + 0 ≤ _)⟩)
  dsimp only [Pt.U, Pt.locs, Pt.cells, Pt.slots] at X8 l8 y8 z8 st8 hQ8
  subst l8 y8 z8
  obtain ⟨rfl, N8q, e8⟩ := hQ8
  have N8 := Fr.app N7 N8q
  obtain ⟨cq9, kq9, q9a, q9b, q9c⟩ := isOf hZ e8 HSp.choose_spec.choose_spec.choose_spec.choose_spec.choose_spec.1
  obtain ⟨_, _, ⟨T9, L9, k9, n9⟩, -, X9, ⟨Lc9, hQ9, l9, y9, z9⟩, st9⟩ := X8.virtualBack hx (y := (⟨"com/example/prune/prune/mdp/Lists", "start", "(I)I"⟩ : MethodName)) (z := (⟨"com/example/prune/prune/mdp/Lists", "start", "(I)I"⟩ : MethodName)) hown (mvT hZ (hw _ (List.mem_of_getElem? (i := 30) rfl))) (mvT hZ (hw _ (List.mem_of_getElem? (i := 31) rfl))) (notFace_of_selects (args := #[]) (mvT hZ (hw _ (List.mem_of_getElem? (i := 33) rfl)))) (mvT hZ (hw _ (List.mem_of_getElem? (i := 33) rfl))) (mvT hZ (hw _ (List.mem_of_getElem? (i := 32) rfl))) (by decide) (backOf (W := 0) (rm5 l Z a0 hw [] b1 (1 : Int32) s4.1 s4.2.1 s4.2.2.1 s4.2.2.2.1 s4.2.2.2.2 T6.heap n0 Zp HSp (by decide) (by rw [l4.1]; decide)) hZ (hw _ (List.mem_of_getElem? (i := 34) rfl)) (hw _ (List.mem_of_getElem? (i := 2) rfl)) (by decide) (by decide)) q9a q9c (g := (mkF m 94 #[.val (.int p1), .val (.int p2), .val (.int v1), .val (.int v2), .val (.int v3), .val (.ref b1), .val (.int (1 : Int32)), .unset, .unset, .unset, .unset, .unset] [(.int (1 : Int32)), (.ref b1)])) rfl (by rw [hml]; rfl) (Steps.refl _) (argsL := [(.int (1 : Int32))]) (rest := []) (lenOf pd_0_2 rfl) rfl (by show 2 * 0 + _ ≤ _; exact Nat.le_of_eq rfl) (hb hby at_94) (fun _ _ => ⟨rfl, e8, (by decide : 6 + 0 ≤ _), (by decide : 17 + 0 ≤ _)⟩)
  dsimp only [Pt.U, Pt.locs, Pt.cells, Pt.slots] at X9 l9 y9 z9 st9 hQ9
  subst l9 y9 z9
  obtain ⟨rfl, N9q, e9⟩ := hQ9
  have N9 := Fr.app N8 N9q
  obtain ⟨_, _, ⟨T10, L10, k10, n10⟩, -, X10, ⟨Lc10, hQ10, l10, y10, z10⟩, st10⟩ := Jvm.LawKit.callS X9 hx (y := (⟨"com/example/prune/prune/mdp/ListsPlacePinLaw", "refStart", "(IIII)I"⟩ : MethodName)) hown (mvT hZ (hw _ (List.mem_of_getElem? (i := 35) rfl))) (mvT hZ (hw _ (List.mem_of_getElem? (i := 36) rfl))) (mvT hZ (hw _ (List.mem_of_getElem? (i := 37) rfl))) (mvT hZ (hw _ (List.mem_of_getElem? (i := 38) rfl))) (by decide) (backOf (W := 1) (rm6 l Z a0 hw [] (1 : Int32) v1 v2 v3 T6.heap n0 Zp) hZ (hw _ (List.mem_of_getElem? (i := 38) rfl)) (hw _ (List.mem_of_getElem? (i := 37) rfl)) (by decide) (by decide)) (g := (mkF m 102 #[.val (.int p1), .val (.int p2), .val (.int v1), .val (.int v2), .val (.int v3), .val (.ref b1), .val (.int (1 : Int32)), .unset, .unset, .unset, .unset, .unset] [(.int v3), (.int v2), (.int v1), (.int (1 : Int32)), (.int (own_st s4 (1 : Int32)))])) rfl (by rw [hml]; rfl) (argsL := [(.int (1 : Int32)), (.int v1), (.int v2), (.int v3)]) (rest := [(.int (own_st s4 (1 : Int32)))]) (lenOf pd_0_3 rfl) rfl (by show 2 * 0 + _ ≤ _; exact Nat.le_of_eq rfl) (hb hby at_102) (fun _ _ => ⟨rfl, e9, (by decide : 6 + 0 ≤ _), (by decide : 17 + 0 ≤ _)⟩)
  dsimp only [Pt.U, Pt.locs, Pt.cells, Pt.slots] at X10 l10 y10 z10 st10 hQ10
  subst l10 y10 z10
  obtain ⟨rfl, N10q, e10⟩ := hQ10
  have N10 := Fr.app N9 N10q
  obtain ⟨cq11, kq11, q11a, q11b, q11c⟩ := isOf hZ e10 HSp.choose_spec.choose_spec.choose_spec.choose_spec.choose_spec.1
  obtain ⟨_, _, ⟨T11, L11, k11, n11⟩, -, X11, ⟨Lc11, hQ11, l11, y11, z11⟩, st11⟩ := X10.virtualBack hx (y := (⟨"com/example/prune/prune/mdp/Lists", "start", "(I)I"⟩ : MethodName)) (z := (⟨"com/example/prune/prune/mdp/Lists", "start", "(I)I"⟩ : MethodName)) hown (mvT hZ (hw _ (List.mem_of_getElem? (i := 30) rfl))) (mvT hZ (hw _ (List.mem_of_getElem? (i := 31) rfl))) (notFace_of_selects (args := #[]) (mvT hZ (hw _ (List.mem_of_getElem? (i := 33) rfl)))) (mvT hZ (hw _ (List.mem_of_getElem? (i := 33) rfl))) (mvT hZ (hw _ (List.mem_of_getElem? (i := 32) rfl))) (by decide) (backOf (W := 0) (rm5 l Z a0 hw [] b1 (2 : Int32) s4.1 s4.2.1 s4.2.2.1 s4.2.2.2.1 s4.2.2.2.2 T6.heap n0 Zp HSp (by decide) (by rw [l4.1]; decide)) hZ (hw _ (List.mem_of_getElem? (i := 34) rfl)) (hw _ (List.mem_of_getElem? (i := 2) rfl)) (by decide) (by decide)) q11a q11c (g := (mkF m 118 #[.val (.int p1), .val (.int p2), .val (.int v1), .val (.int v2), .val (.int v3), .val (.ref b1), .val (.int (1 : Int32)), .val (.int (1 : Int32)), .unset, .unset, .unset, .unset] [(.int (2 : Int32)), (.ref b1)])) rfl (by rw [hml]; rfl) (Steps.refl _) (argsL := [(.int (2 : Int32))]) (rest := []) (lenOf pd_0_2 rfl) rfl (by show 2 * 0 + _ ≤ _; exact Nat.le_of_eq rfl) (hb hby at_118) (fun _ _ => ⟨rfl, e10, (by decide : 6 + 0 ≤ _), (by decide : 17 + 0 ≤ _)⟩)
  dsimp only [Pt.U, Pt.locs, Pt.cells, Pt.slots] at X11 l11 y11 z11 st11 hQ11
  subst l11 y11 z11
  obtain ⟨rfl, N11q, e11⟩ := hQ11
  have N11 := Fr.app N10 N11q
  obtain ⟨_, _, ⟨T12, L12, k12, n12⟩, -, X12, ⟨Lc12, hQ12, l12, y12, z12⟩, st12⟩ := Jvm.LawKit.callS X11 hx (y := (⟨"com/example/prune/prune/mdp/ListsPlacePinLaw", "refStart", "(IIII)I"⟩ : MethodName)) hown (mvT hZ (hw _ (List.mem_of_getElem? (i := 35) rfl))) (mvT hZ (hw _ (List.mem_of_getElem? (i := 36) rfl))) (mvT hZ (hw _ (List.mem_of_getElem? (i := 37) rfl))) (mvT hZ (hw _ (List.mem_of_getElem? (i := 38) rfl))) (by decide) (backOf (W := 1) (rm6 l Z a0 hw [] (2 : Int32) v1 v2 v3 T6.heap n0 Zp) hZ (hw _ (List.mem_of_getElem? (i := 38) rfl)) (hw _ (List.mem_of_getElem? (i := 37) rfl)) (by decide) (by decide)) (g := (mkF m 126 #[.val (.int p1), .val (.int p2), .val (.int v1), .val (.int v2), .val (.int v3), .val (.ref b1), .val (.int (1 : Int32)), .val (.int (1 : Int32)), .unset, .unset, .unset, .unset] [(.int v3), (.int v2), (.int v1), (.int (2 : Int32)), (.int (own_st s4 (2 : Int32)))])) rfl (by rw [hml]; rfl) (argsL := [(.int (2 : Int32)), (.int v1), (.int v2), (.int v3)]) (rest := [(.int (own_st s4 (2 : Int32)))]) (lenOf pd_0_3 rfl) rfl (by show 2 * 0 + _ ≤ _; exact Nat.le_of_eq rfl) (hb hby at_126) (fun _ _ => ⟨rfl, e11, (by decide : 6 + 0 ≤ _), (by decide : 17 + 0 ≤ _)⟩)
  dsimp only [Pt.U, Pt.locs, Pt.cells, Pt.slots] at X12 l12 y12 z12 st12 hQ12
  subst l12 y12 z12
  obtain ⟨rfl, N12q, e12⟩ := hQ12
  have N12 := Fr.app N11 N12q
  obtain ⟨Tsgd, hsgd, Lsgd, Xsgd, esgd, Nsgd, Zsgd, HSsgd, stsgd⟩ := sgd p1 p2 v1 v2 v3 b1 (1 : Int32) (1 : Int32) (1 : Int32) s4 n0 X12 hx hZ hw hby hml hown e12 N12 Zp HSp (fun q => (ua).resolve_left (fun z => z q))
  rw [← hs5] at HSsgd
  obtain ⟨Tsge, hsge, Lsge, Xsge, esge, Nsge, Zsge, HSsge, stsge⟩ := sge p1 p2 v1 v2 v3 b1 (1 : Int32) (1 : Int32) (1 : Int32) s5 n0 Xsgd hx hZ hw hby hml hown esgd Nsgd Zsgd HSsgd (fun q => (ub).resolve_left (fun z => z q))
  rw [← hs6] at HSsge
  obtain ⟨Tsgf, hsgf, Lsgf, Xsgf, esgf, Nsgf, Zsgf, HSsgf, stsgf⟩ := sgf p1 p2 v1 v2 v3 b1 (1 : Int32) (1 : Int32) (1 : Int32) s6 n0 Xsge hx hZ hw hby hml hown esge Nsge Zsge HSsge (fun q => (uc).resolve_left (fun z => z q))
  rw [← hs7] at HSsgf
  obtain ⟨cq13, kq13, q13a, q13b, q13c⟩ := isOf hZ esgf HSsgf.choose_spec.choose_spec.choose_spec.choose_spec.choose_spec.1
  obtain ⟨_, _, ⟨T13, L13, k13, n13⟩, -, X13, ⟨Lc13, hQ13, l13, y13, z13⟩, st13⟩ := Xsgf.virtualBack hx (y := (⟨"com/example/prune/prune/mdp/Lists", "end", "(I)I"⟩ : MethodName)) (z := (⟨"com/example/prune/prune/mdp/Lists", "end", "(I)I"⟩ : MethodName)) hown (mvT hZ (hw _ (List.mem_of_getElem? (i := 50) rfl))) (mvT hZ (hw _ (List.mem_of_getElem? (i := 51) rfl))) (notFace_of_selects (args := #[]) (mvT hZ (hw _ (List.mem_of_getElem? (i := 53) rfl)))) (mvT hZ (hw _ (List.mem_of_getElem? (i := 53) rfl))) (mvT hZ (hw _ (List.mem_of_getElem? (i := 52) rfl))) (by decide) (backOf (W := 0) (rm10 l Z a0 hw [] b1 (0 : Int32) s7.1 s7.2.1 s7.2.2.1 s7.2.2.2.1 s7.2.2.2.2 hsgf n0 Zsgf HSsgf (by decide) (by rw [l7.2]; decide)) hZ (hw _ (List.mem_of_getElem? (i := 54) rfl)) (hw _ (List.mem_of_getElem? (i := 2) rfl)) (by decide) (by decide)) q13a q13c (g := (mkF m 184 #[.val (.int p1), .val (.int p2), .val (.int v1), .val (.int v2), .val (.int v3), .val (.ref b1), .val (.int (1 : Int32)), .val (.int (1 : Int32)), .val (.int (1 : Int32)), .unset, .unset, .unset] [(.int (0 : Int32)), (.ref b1)])) rfl (by rw [hml]; rfl) (Steps.refl _) (argsL := [(.int (0 : Int32))]) (rest := []) (lenOf pd_0_2 rfl) rfl (by show 2 * 0 + _ ≤ _; exact Nat.le_of_eq rfl) (hb hby at_184) (fun _ _ => ⟨rfl, esgf, (by decide : 6 + 0 ≤ _), (by decide : 17 + 0 ≤ _)⟩)
  dsimp only [Pt.U, Pt.locs, Pt.cells, Pt.slots] at X13 l13 y13 z13 st13 hQ13
  subst l13 y13 z13
  obtain ⟨rfl, N13q, e13⟩ := hQ13
  have N13 := Fr.app Nsgf N13q
  obtain ⟨_, _, ⟨T14, L14, k14, n14⟩, -, X14, ⟨Lc14, hQ14, l14, y14, z14⟩, st14⟩ := Jvm.LawKit.callS X13 hx (y := (⟨"com/example/prune/prune/mdp/ListsPlacePinLaw", "refStart", "(IIII)I"⟩ : MethodName)) hown (mvT hZ (hw _ (List.mem_of_getElem? (i := 35) rfl))) (mvT hZ (hw _ (List.mem_of_getElem? (i := 36) rfl))) (mvT hZ (hw _ (List.mem_of_getElem? (i := 37) rfl))) (mvT hZ (hw _ (List.mem_of_getElem? (i := 38) rfl))) (by decide) (backOf (W := 1) (rm6 l Z a0 hw [] (0 : Int32) v1 v2 v3 hsgf n0 Zsgf) hZ (hw _ (List.mem_of_getElem? (i := 38) rfl)) (hw _ (List.mem_of_getElem? (i := 37) rfl)) (by decide) (by decide)) (g := (mkF m 192 #[.val (.int p1), .val (.int p2), .val (.int v1), .val (.int v2), .val (.int v3), .val (.ref b1), .val (.int (1 : Int32)), .val (.int (1 : Int32)), .val (.int (1 : Int32)), .unset, .unset, .unset] [(.int v3), (.int v2), (.int v1), (.int (0 : Int32)), (.int (own_en s7 (0 : Int32)))])) rfl (by rw [hml]; rfl) (argsL := [(.int (0 : Int32)), (.int v1), (.int v2), (.int v3)]) (rest := [(.int (own_en s7 (0 : Int32)))]) (lenOf pd_0_3 rfl) rfl (by show 2 * 0 + _ ≤ _; exact Nat.le_of_eq rfl) (hb hby at_192) (fun _ _ => ⟨rfl, e13, (by decide : 6 + 0 ≤ _), (by decide : 17 + 0 ≤ _)⟩)
  dsimp only [Pt.U, Pt.locs, Pt.cells, Pt.slots] at X14 l14 y14 z14 st14 hQ14
  subst l14 y14 z14
  obtain ⟨rfl, N14q, e14⟩ := hQ14
  have N14 := Fr.app N13 N14q
  obtain ⟨_, _, ⟨T15, L15, k15, n15⟩, -, X15, ⟨Lc15, hQ15, l15, y15, z15⟩, st15⟩ := Jvm.LawKit.callS X14 hx (y := (⟨"com/example/prune/prune/mdp/ListsPlacePinLaw", "cnt", "(IIII)I"⟩ : MethodName)) hown (mvT hZ (hw _ (List.mem_of_getElem? (i := 39) rfl))) (mvT hZ (hw _ (List.mem_of_getElem? (i := 40) rfl))) (mvT hZ (hw _ (List.mem_of_getElem? (i := 37) rfl))) (mvT hZ (hw _ (List.mem_of_getElem? (i := 41) rfl))) (by decide) (backOf (W := 2) (rm7 l Z a0 hw [] (0 : Int32) v1 v2 v3 hsgf n0 Zsgf) hZ (hw _ (List.mem_of_getElem? (i := 41) rfl)) (hw _ (List.mem_of_getElem? (i := 37) rfl)) (by decide) (by decide)) (g := (mkF m 200 #[.val (.int p1), .val (.int p2), .val (.int v1), .val (.int v2), .val (.int v3), .val (.ref b1), .val (.int (1 : Int32)), .val (.int (1 : Int32)), .val (.int (1 : Int32)), .unset, .unset, .unset] [(.int v3), (.int v2), (.int v1), (.int (0 : Int32)), (.int (own_ref (0 : Int32) v1 v2 v3)), (.int (own_en s7 (0 : Int32)))])) rfl (by rw [hml]; rfl) (argsL := [(.int (0 : Int32)), (.int v1), (.int v2), (.int v3)]) (rest := [(.int (own_ref (0 : Int32) v1 v2 v3)), (.int (own_en s7 (0 : Int32)))]) (lenOf pd_0_3 rfl) rfl (by show 2 * 0 + _ ≤ _; exact Nat.le_of_eq rfl) (hb hby at_200) (fun _ _ => ⟨rfl, e14, (by decide : 6 + 0 ≤ _), (by decide : 17 + 0 ≤ _)⟩)
  dsimp only [Pt.U, Pt.locs, Pt.cells, Pt.slots] at X15 l15 y15 z15 st15 hQ15
  subst l15 y15 z15
  obtain ⟨rfl, N15q, e15⟩ := hQ15
  have N15 := Fr.app N14 N15q
  obtain ⟨cq16, kq16, q16a, q16b, q16c⟩ := isOf hZ e15 HSsgf.choose_spec.choose_spec.choose_spec.choose_spec.choose_spec.1
  obtain ⟨_, _, ⟨T16, L16, k16, n16⟩, -, X16, ⟨Lc16, hQ16, l16, y16, z16⟩, st16⟩ := X15.virtualBack hx (y := (⟨"com/example/prune/prune/mdp/Lists", "end", "(I)I"⟩ : MethodName)) (z := (⟨"com/example/prune/prune/mdp/Lists", "end", "(I)I"⟩ : MethodName)) hown (mvT hZ (hw _ (List.mem_of_getElem? (i := 50) rfl))) (mvT hZ (hw _ (List.mem_of_getElem? (i := 51) rfl))) (notFace_of_selects (args := #[]) (mvT hZ (hw _ (List.mem_of_getElem? (i := 53) rfl)))) (mvT hZ (hw _ (List.mem_of_getElem? (i := 53) rfl))) (mvT hZ (hw _ (List.mem_of_getElem? (i := 52) rfl))) (by decide) (backOf (W := 0) (rm10 l Z a0 hw [] b1 (1 : Int32) s7.1 s7.2.1 s7.2.2.1 s7.2.2.2.1 s7.2.2.2.2 hsgf n0 Zsgf HSsgf (by decide) (by rw [l7.2]; decide)) hZ (hw _ (List.mem_of_getElem? (i := 54) rfl)) (hw _ (List.mem_of_getElem? (i := 2) rfl)) (by decide) (by decide)) q16a q16c (g := (mkF m 217 #[.val (.int p1), .val (.int p2), .val (.int v1), .val (.int v2), .val (.int v3), .val (.ref b1), .val (.int (1 : Int32)), .val (.int (1 : Int32)), .val (.int (1 : Int32)), .val (.int (1 : Int32)), .unset, .unset] [(.int (1 : Int32)), (.ref b1)])) rfl (by rw [hml]; rfl) (Steps.refl _) (argsL := [(.int (1 : Int32))]) (rest := []) (lenOf pd_0_2 rfl) rfl (by show 2 * 0 + _ ≤ _; exact Nat.le_of_eq rfl) (hb hby at_217) (fun _ _ => ⟨rfl, e15, (by decide : 6 + 0 ≤ _), (by decide : 17 + 0 ≤ _)⟩)
  dsimp only [Pt.U, Pt.locs, Pt.cells, Pt.slots] at X16 l16 y16 z16 st16 hQ16
  subst l16 y16 z16
  obtain ⟨rfl, N16q, e16⟩ := hQ16
  have N16 := Fr.app N15 N16q
  obtain ⟨_, _, ⟨T17, L17, k17, n17⟩, -, X17, ⟨Lc17, hQ17, l17, y17, z17⟩, st17⟩ := Jvm.LawKit.callS X16 hx (y := (⟨"com/example/prune/prune/mdp/ListsPlacePinLaw", "refStart", "(IIII)I"⟩ : MethodName)) hown (mvT hZ (hw _ (List.mem_of_getElem? (i := 35) rfl))) (mvT hZ (hw _ (List.mem_of_getElem? (i := 36) rfl))) (mvT hZ (hw _ (List.mem_of_getElem? (i := 37) rfl))) (mvT hZ (hw _ (List.mem_of_getElem? (i := 38) rfl))) (by decide) (backOf (W := 1) (rm6 l Z a0 hw [] (1 : Int32) v1 v2 v3 hsgf n0 Zsgf) hZ (hw _ (List.mem_of_getElem? (i := 38) rfl)) (hw _ (List.mem_of_getElem? (i := 37) rfl)) (by decide) (by decide)) (g := (mkF m 225 #[.val (.int p1), .val (.int p2), .val (.int v1), .val (.int v2), .val (.int v3), .val (.ref b1), .val (.int (1 : Int32)), .val (.int (1 : Int32)), .val (.int (1 : Int32)), .val (.int (1 : Int32)), .unset, .unset] [(.int v3), (.int v2), (.int v1), (.int (1 : Int32)), (.int (own_en s7 (1 : Int32)))])) rfl (by rw [hml]; rfl) (argsL := [(.int (1 : Int32)), (.int v1), (.int v2), (.int v3)]) (rest := [(.int (own_en s7 (1 : Int32)))]) (lenOf pd_0_3 rfl) rfl (by show 2 * 0 + _ ≤ _; exact Nat.le_of_eq rfl) (hb hby at_225) (fun _ _ => ⟨rfl, e16, (by decide : 6 + 0 ≤ _), (by decide : 17 + 0 ≤ _)⟩)
  dsimp only [Pt.U, Pt.locs, Pt.cells, Pt.slots] at X17 l17 y17 z17 st17 hQ17
  subst l17 y17 z17
  obtain ⟨rfl, N17q, e17⟩ := hQ17
  have N17 := Fr.app N16 N17q
  obtain ⟨_, _, ⟨T18, L18, k18, n18⟩, -, X18, ⟨Lc18, hQ18, l18, y18, z18⟩, st18⟩ := Jvm.LawKit.callS X17 hx (y := (⟨"com/example/prune/prune/mdp/ListsPlacePinLaw", "cnt", "(IIII)I"⟩ : MethodName)) hown (mvT hZ (hw _ (List.mem_of_getElem? (i := 39) rfl))) (mvT hZ (hw _ (List.mem_of_getElem? (i := 40) rfl))) (mvT hZ (hw _ (List.mem_of_getElem? (i := 37) rfl))) (mvT hZ (hw _ (List.mem_of_getElem? (i := 41) rfl))) (by decide) (backOf (W := 2) (rm7 l Z a0 hw [] (1 : Int32) v1 v2 v3 hsgf n0 Zsgf) hZ (hw _ (List.mem_of_getElem? (i := 41) rfl)) (hw _ (List.mem_of_getElem? (i := 37) rfl)) (by decide) (by decide)) (g := (mkF m 233 #[.val (.int p1), .val (.int p2), .val (.int v1), .val (.int v2), .val (.int v3), .val (.ref b1), .val (.int (1 : Int32)), .val (.int (1 : Int32)), .val (.int (1 : Int32)), .val (.int (1 : Int32)), .unset, .unset] [(.int v3), (.int v2), (.int v1), (.int (1 : Int32)), (.int (own_ref (1 : Int32) v1 v2 v3)), (.int (own_en s7 (1 : Int32)))])) rfl (by rw [hml]; rfl) (argsL := [(.int (1 : Int32)), (.int v1), (.int v2), (.int v3)]) (rest := [(.int (own_ref (1 : Int32) v1 v2 v3)), (.int (own_en s7 (1 : Int32)))]) (lenOf pd_0_3 rfl) rfl (by show 2 * 0 + _ ≤ _; exact Nat.le_of_eq rfl) (hb hby at_233) (fun _ _ => ⟨rfl, e17, (by decide : 6 + 0 ≤ _), (by decide : 17 + 0 ≤ _)⟩)
  dsimp only [Pt.U, Pt.locs, Pt.cells, Pt.slots] at X18 l18 y18 z18 st18 hQ18
  subst l18 y18 z18
  obtain ⟨rfl, N18q, e18⟩ := hQ18
  have N18 := Fr.app N17 N18q
  obtain ⟨cq19, kq19, q19a, q19b, q19c⟩ := isOf hZ e18 HSsgf.choose_spec.choose_spec.choose_spec.choose_spec.choose_spec.1
  obtain ⟨_, _, ⟨T19, L19, k19, n19⟩, -, X19, ⟨Lc19, hQ19, l19, y19, z19⟩, st19⟩ := X18.virtualBack hx (y := (⟨"com/example/prune/prune/mdp/Lists", "end", "(I)I"⟩ : MethodName)) (z := (⟨"com/example/prune/prune/mdp/Lists", "end", "(I)I"⟩ : MethodName)) hown (mvT hZ (hw _ (List.mem_of_getElem? (i := 50) rfl))) (mvT hZ (hw _ (List.mem_of_getElem? (i := 51) rfl))) (notFace_of_selects (args := #[]) (mvT hZ (hw _ (List.mem_of_getElem? (i := 53) rfl)))) (mvT hZ (hw _ (List.mem_of_getElem? (i := 53) rfl))) (mvT hZ (hw _ (List.mem_of_getElem? (i := 52) rfl))) (by decide) (backOf (W := 0) (rm10 l Z a0 hw [] b1 (2 : Int32) s7.1 s7.2.1 s7.2.2.1 s7.2.2.2.1 s7.2.2.2.2 hsgf n0 Zsgf HSsgf (by decide) (by rw [l7.2]; decide)) hZ (hw _ (List.mem_of_getElem? (i := 54) rfl)) (hw _ (List.mem_of_getElem? (i := 2) rfl)) (by decide) (by decide)) q19a q19c (g := (mkF m 250 #[.val (.int p1), .val (.int p2), .val (.int v1), .val (.int v2), .val (.int v3), .val (.ref b1), .val (.int (1 : Int32)), .val (.int (1 : Int32)), .val (.int (1 : Int32)), .val (.int (1 : Int32)), .val (.int (1 : Int32)), .unset] [(.int (2 : Int32)), (.ref b1)])) rfl (by rw [hml]; rfl) (Steps.refl _) (argsL := [(.int (2 : Int32))]) (rest := []) (lenOf pd_0_2 rfl) rfl (by show 2 * 0 + _ ≤ _; exact Nat.le_of_eq rfl) (hb hby at_250) (fun _ _ => ⟨rfl, e18, (by decide : 6 + 0 ≤ _), (by decide : 17 + 0 ≤ _)⟩)
  dsimp only [Pt.U, Pt.locs, Pt.cells, Pt.slots] at X19 l19 y19 z19 st19 hQ19
  subst l19 y19 z19
  obtain ⟨rfl, N19q, e19⟩ := hQ19
  have N19 := Fr.app N18 N19q
  obtain ⟨_, _, ⟨T20, L20, k20, n20⟩, -, X20, ⟨Lc20, hQ20, l20, y20, z20⟩, st20⟩ := Jvm.LawKit.callS X19 hx (y := (⟨"com/example/prune/prune/mdp/ListsPlacePinLaw", "refStart", "(IIII)I"⟩ : MethodName)) hown (mvT hZ (hw _ (List.mem_of_getElem? (i := 35) rfl))) (mvT hZ (hw _ (List.mem_of_getElem? (i := 36) rfl))) (mvT hZ (hw _ (List.mem_of_getElem? (i := 37) rfl))) (mvT hZ (hw _ (List.mem_of_getElem? (i := 38) rfl))) (by decide) (backOf (W := 1) (rm6 l Z a0 hw [] (2 : Int32) v1 v2 v3 hsgf n0 Zsgf) hZ (hw _ (List.mem_of_getElem? (i := 38) rfl)) (hw _ (List.mem_of_getElem? (i := 37) rfl)) (by decide) (by decide)) (g := (mkF m 258 #[.val (.int p1), .val (.int p2), .val (.int v1), .val (.int v2), .val (.int v3), .val (.ref b1), .val (.int (1 : Int32)), .val (.int (1 : Int32)), .val (.int (1 : Int32)), .val (.int (1 : Int32)), .val (.int (1 : Int32)), .unset] [(.int v3), (.int v2), (.int v1), (.int (2 : Int32)), (.int (own_en s7 (2 : Int32)))])) rfl (by rw [hml]; rfl) (argsL := [(.int (2 : Int32)), (.int v1), (.int v2), (.int v3)]) (rest := [(.int (own_en s7 (2 : Int32)))]) (lenOf pd_0_3 rfl) rfl (by show 2 * 0 + _ ≤ _; exact Nat.le_of_eq rfl) (hb hby at_258) (fun _ _ => ⟨rfl, e19, (by decide : 6 + 0 ≤ _), (by decide : 17 + 0 ≤ _)⟩)
  dsimp only [Pt.U, Pt.locs, Pt.cells, Pt.slots] at X20 l20 y20 z20 st20 hQ20
  subst l20 y20 z20
  obtain ⟨rfl, N20q, e20⟩ := hQ20
  have N20 := Fr.app N19 N20q
  obtain ⟨_, _, ⟨T21, L21, k21, n21⟩, -, X21, ⟨Lc21, hQ21, l21, y21, z21⟩, st21⟩ := Jvm.LawKit.callS X20 hx (y := (⟨"com/example/prune/prune/mdp/ListsPlacePinLaw", "cnt", "(IIII)I"⟩ : MethodName)) hown (mvT hZ (hw _ (List.mem_of_getElem? (i := 39) rfl))) (mvT hZ (hw _ (List.mem_of_getElem? (i := 40) rfl))) (mvT hZ (hw _ (List.mem_of_getElem? (i := 37) rfl))) (mvT hZ (hw _ (List.mem_of_getElem? (i := 41) rfl))) (by decide) (backOf (W := 2) (rm7 l Z a0 hw [] (2 : Int32) v1 v2 v3 hsgf n0 Zsgf) hZ (hw _ (List.mem_of_getElem? (i := 41) rfl)) (hw _ (List.mem_of_getElem? (i := 37) rfl)) (by decide) (by decide)) (g := (mkF m 266 #[.val (.int p1), .val (.int p2), .val (.int v1), .val (.int v2), .val (.int v3), .val (.ref b1), .val (.int (1 : Int32)), .val (.int (1 : Int32)), .val (.int (1 : Int32)), .val (.int (1 : Int32)), .val (.int (1 : Int32)), .unset] [(.int v3), (.int v2), (.int v1), (.int (2 : Int32)), (.int (own_ref (2 : Int32) v1 v2 v3)), (.int (own_en s7 (2 : Int32)))])) rfl (by rw [hml]; rfl) (argsL := [(.int (2 : Int32)), (.int v1), (.int v2), (.int v3)]) (rest := [(.int (own_ref (2 : Int32) v1 v2 v3)), (.int (own_en s7 (2 : Int32)))]) (lenOf pd_0_3 rfl) rfl (by show 2 * 0 + _ ≤ _; exact Nat.le_of_eq rfl) (hb hby at_266) (fun _ _ => ⟨rfl, e20, (by decide : 6 + 0 ≤ _), (by decide : 17 + 0 ≤ _)⟩)
  dsimp only [Pt.U, Pt.locs, Pt.cells, Pt.slots] at X21 l21 y21 z21 st21 hQ21
  subst l21 y21 z21
  obtain ⟨rfl, N21q, e21⟩ := hQ21
  have N21 := Fr.app N20 N21q
  obtain ⟨fs, hr, hrun, hended, hW, hsame⟩ := X21.leave (v := some (.int (1 : Int32))) (fun h => by rw [Bd.returns] at h; cases h)
  refine ⟨_, _, pre0 _ ?_, hrun, hended, _, _, rfl, ?_, ⟨_, rfl⟩, hW, hsame.mono (by decide) (by decide)⟩
  · show Steps p.tables e below (s₁.setTop (mkF m 0 #[.val (.int p1), .val (.int p2), .unset, .unset, .unset, .unset, .unset, .unset, .unset, .unset, .unset, .unset] [])) _
    refine XS.iloadN X0.here hx rfl (hb hby at_0) rfl ?_
    show Steps p.tables e below (s₁.setTop (mkF m 1 #[.val (.int p1), .val (.int p2), .unset, .unset, .unset, .unset, .unset, .unset, .unset, .unset, .unset, .unset] [(.int p1)])) _
    refine XS.iconst X0.here hx rfl (hb hby at_1) ?_
    show Steps p.tables e below (s₁.setTop (mkF m 2 #[.val (.int p1), .val (.int p2), .unset, .unset, .unset, .unset, .unset, .unset, .unset, .unset, .unset, .unset] [(.int (3 : Int32)), (.int p1)])) _
    refine XS.iand X0.here hx rfl (hb hby at_2) rfl ?_
    show Steps p.tables e below (s₁.setTop (mkF m 3 #[.val (.int p1), .val (.int p2), .unset, .unset, .unset, .unset, .unset, .unset, .unset, .unset, .unset, .unset] [(.int (p1 &&& (3 : Int32)))])) _
    refine XS.istoreN X0.here hx rfl (hb hby at_3) rfl (l' := #[.val (.int p1), .val (.int p2), .val (.int (p1 &&& (3 : Int32))), .unset, .unset, .unset, .unset, .unset, .unset, .unset, .unset, .unset]) rfl ?_
    refine castTop (g' := (mkF m 4 #[.val (.int p1), .val (.int p2), .val (.int v1), .unset, .unset, .unset, .unset, .unset, .unset, .unset, .unset, .unset] [])) (by rw [hv1]) ?_
    show Steps p.tables e below (s₁.setTop (mkF m 4 #[.val (.int p1), .val (.int p2), .val (.int v1), .unset, .unset, .unset, .unset, .unset, .unset, .unset, .unset, .unset] [])) _
    refine XS.iloadN X0.here hx rfl (hb hby at_4) rfl ?_
    show Steps p.tables e below (s₁.setTop (mkF m 5 #[.val (.int p1), .val (.int p2), .val (.int v1), .unset, .unset, .unset, .unset, .unset, .unset, .unset, .unset, .unset] [(.int p1)])) _
    refine XS.iconst X0.here hx rfl (hb hby at_5) ?_
    show Steps p.tables e below (s₁.setTop (mkF m 6 #[.val (.int p1), .val (.int p2), .val (.int v1), .unset, .unset, .unset, .unset, .unset, .unset, .unset, .unset, .unset] [(.int (2 : Int32)), (.int p1)])) _
    refine XS.iushr X0.here hx rfl (hb hby at_6) rfl ?_
    show Steps p.tables e below (s₁.setTop (mkF m 7 #[.val (.int p1), .val (.int p2), .val (.int v1), .unset, .unset, .unset, .unset, .unset, .unset, .unset, .unset, .unset] [(.int ((p1.toUInt32 >>> ((2 : Int32) &&& 31).toUInt32).toInt32))])) _
    refine XS.iconst X0.here hx rfl (hb hby at_7) ?_
    show Steps p.tables e below (s₁.setTop (mkF m 8 #[.val (.int p1), .val (.int p2), .val (.int v1), .unset, .unset, .unset, .unset, .unset, .unset, .unset, .unset, .unset] [(.int (3 : Int32)), (.int ((p1.toUInt32 >>> ((2 : Int32) &&& 31).toUInt32).toInt32))])) _
    refine XS.iand X0.here hx rfl (hb hby at_8) rfl ?_
    show Steps p.tables e below (s₁.setTop (mkF m 9 #[.val (.int p1), .val (.int p2), .val (.int v1), .unset, .unset, .unset, .unset, .unset, .unset, .unset, .unset, .unset] [(.int (((p1.toUInt32 >>> ((2 : Int32) &&& 31).toUInt32).toInt32) &&& (3 : Int32)))])) _
    refine XS.istoreN X0.here hx rfl (hb hby at_9) rfl (l' := #[.val (.int p1), .val (.int p2), .val (.int v1), .val (.int (((p1.toUInt32 >>> ((2 : Int32) &&& 31).toUInt32).toInt32) &&& (3 : Int32))), .unset, .unset, .unset, .unset, .unset, .unset, .unset, .unset]) rfl ?_
    refine castTop (g' := (mkF m 10 #[.val (.int p1), .val (.int p2), .val (.int v1), .val (.int v2), .unset, .unset, .unset, .unset, .unset, .unset, .unset, .unset] [])) (by rw [hv2]) ?_
    show Steps p.tables e below (s₁.setTop (mkF m 10 #[.val (.int p1), .val (.int p2), .val (.int v1), .val (.int v2), .unset, .unset, .unset, .unset, .unset, .unset, .unset, .unset] [])) _
    refine XS.iloadN X0.here hx rfl (hb hby at_10) rfl ?_
    show Steps p.tables e below (s₁.setTop (mkF m 11 #[.val (.int p1), .val (.int p2), .val (.int v1), .val (.int v2), .unset, .unset, .unset, .unset, .unset, .unset, .unset, .unset] [(.int p1)])) _
    refine XS.iconst X0.here hx rfl (hb hby at_11) ?_
    show Steps p.tables e below (s₁.setTop (mkF m 12 #[.val (.int p1), .val (.int p2), .val (.int v1), .val (.int v2), .unset, .unset, .unset, .unset, .unset, .unset, .unset, .unset] [(.int (4 : Int32)), (.int p1)])) _
    refine XS.iushr X0.here hx rfl (hb hby at_12) rfl ?_
    show Steps p.tables e below (s₁.setTop (mkF m 13 #[.val (.int p1), .val (.int p2), .val (.int v1), .val (.int v2), .unset, .unset, .unset, .unset, .unset, .unset, .unset, .unset] [(.int ((p1.toUInt32 >>> ((4 : Int32) &&& 31).toUInt32).toInt32))])) _
    refine XS.iconst X0.here hx rfl (hb hby at_13) ?_
    show Steps p.tables e below (s₁.setTop (mkF m 14 #[.val (.int p1), .val (.int p2), .val (.int v1), .val (.int v2), .unset, .unset, .unset, .unset, .unset, .unset, .unset, .unset] [(.int (3 : Int32)), (.int ((p1.toUInt32 >>> ((4 : Int32) &&& 31).toUInt32).toInt32))])) _
    refine XS.iand X0.here hx rfl (hb hby at_14) rfl ?_
    show Steps p.tables e below (s₁.setTop (mkF m 15 #[.val (.int p1), .val (.int p2), .val (.int v1), .val (.int v2), .unset, .unset, .unset, .unset, .unset, .unset, .unset, .unset] [(.int (((p1.toUInt32 >>> ((4 : Int32) &&& 31).toUInt32).toInt32) &&& (3 : Int32)))])) _
    refine XS.istore X0.here hx rfl (hb hby at_15) rfl (l' := #[.val (.int p1), .val (.int p2), .val (.int v1), .val (.int v2), .val (.int (((p1.toUInt32 >>> ((4 : Int32) &&& 31).toUInt32).toInt32) &&& (3 : Int32))), .unset, .unset, .unset, .unset, .unset, .unset, .unset]) rfl ?_
    refine castTop (g' := (mkF m 17 #[.val (.int p1), .val (.int p2), .val (.int v1), .val (.int v2), .val (.int v3), .unset, .unset, .unset, .unset, .unset, .unset, .unset] [])) (by rw [hv3]) ?_
    show Steps p.tables e below (s₁.setTop (mkF m 17 #[.val (.int p1), .val (.int p2), .val (.int v1), .val (.int v2), .val (.int v3), .unset, .unset, .unset, .unset, .unset, .unset, .unset] [])) _
    refine st4 _ ?_
    show Steps p.tables e below (T4.setTop (mkF m 20 #[.val (.int p1), .val (.int p2), .val (.int v1), .val (.int v2), .val (.int v3), .unset, .unset, .unset, .unset, .unset, .unset, .unset] [(.ref b1)])) _
    refine XS.dup X4.here hx rfl (hb hby at_20) rfl rfl ?_
    show Steps p.tables e below (T4.setTop (mkF m 21 #[.val (.int p1), .val (.int p2), .val (.int v1), .val (.int v2), .val (.int v3), .unset, .unset, .unset, .unset, .unset, .unset, .unset] [(.ref b1), (.ref b1)])) _
    refine XS.iconst X4.here hx rfl (hb hby at_21) ?_
    show Steps p.tables e below (T4.setTop (mkF m 22 #[.val (.int p1), .val (.int p2), .val (.int v1), .val (.int v2), .val (.int v3), .unset, .unset, .unset, .unset, .unset, .unset, .unset] [(.int (3 : Int32)), (.ref b1), (.ref b1)])) _
    refine st5.trans ?_
    show Steps p.tables e below (T5.setTop (mkF m 25 #[.val (.int p1), .val (.int p2), .val (.int v1), .val (.int v2), .val (.int v3), .unset, .unset, .unset, .unset, .unset, .unset, .unset] [(.ref b1)])) _
    refine XS.astore X5.here hx rfl (hb hby at_25) rfl rfl (l' := #[.val (.int p1), .val (.int p2), .val (.int v1), .val (.int v2), .val (.int v3), .val (.ref b1), .unset, .unset, .unset, .unset, .unset, .unset]) rfl ?_
    show Steps p.tables e below (T5.setTop (mkF m 27 #[.val (.int p1), .val (.int p2), .val (.int v1), .val (.int v2), .val (.int v3), .val (.ref b1), .unset, .unset, .unset, .unset, .unset, .unset] [])) _
    refine stsga _ ?_
    show Steps p.tables e below (Tsga.setTop (mkF m 38 #[.val (.int p1), .val (.int p2), .val (.int v1), .val (.int v2), .val (.int v3), .val (.ref b1), .unset, .unset, .unset, .unset, .unset, .unset] [])) _
    refine stsgb _ ?_
    show Steps p.tables e below (Tsgb.setTop (mkF m 49 #[.val (.int p1), .val (.int p2), .val (.int v1), .val (.int v2), .val (.int v3), .val (.ref b1), .unset, .unset, .unset, .unset, .unset, .unset] [])) _
    refine stsgc _ ?_
    show Steps p.tables e below (Tsgc.setTop (mkF m 62 #[.val (.int p1), .val (.int p2), .val (.int v1), .val (.int v2), .val (.int v3), .val (.ref b1), .unset, .unset, .unset, .unset, .unset, .unset] [])) _
    refine XS.aload Xsgc.here hx rfl (hb hby at_62) rfl rfl ?_
    show Steps p.tables e below (Tsgc.setTop (mkF m 64 #[.val (.int p1), .val (.int p2), .val (.int v1), .val (.int v2), .val (.int v3), .val (.ref b1), .unset, .unset, .unset, .unset, .unset, .unset] [(.ref b1)])) _
    refine st6.trans ?_
    show Steps p.tables e below (T6.setTop (mkF m 67 #[.val (.int p1), .val (.int p2), .val (.int v1), .val (.int v2), .val (.int v3), .val (.ref b1), .unset, .unset, .unset, .unset, .unset, .unset] [])) _
    refine XS.aload X6.here hx rfl (hb hby at_67) rfl rfl ?_
    show Steps p.tables e below (T6.setTop (mkF m 69 #[.val (.int p1), .val (.int p2), .val (.int v1), .val (.int v2), .val (.int v3), .val (.ref b1), .unset, .unset, .unset, .unset, .unset, .unset] [(.ref b1)])) _
    refine XS.iconst X6.here hx rfl (hb hby at_69) ?_
    show Steps p.tables e below (T6.setTop (mkF m 70 #[.val (.int p1), .val (.int p2), .val (.int v1), .val (.int v2), .val (.int v3), .val (.ref b1), .unset, .unset, .unset, .unset, .unset, .unset] [(.int (0 : Int32)), (.ref b1)])) _
    refine st7.trans ?_
    show Steps p.tables e below (T7.setTop (mkF m 73 #[.val (.int p1), .val (.int p2), .val (.int v1), .val (.int v2), .val (.int v3), .val (.ref b1), .unset, .unset, .unset, .unset, .unset, .unset] [(.int (own_st s4 (0 : Int32)))])) _
    refine XS.iconst X7.here hx rfl (hb hby at_73) ?_
    show Steps p.tables e below (T7.setTop (mkF m 74 #[.val (.int p1), .val (.int p2), .val (.int v1), .val (.int v2), .val (.int v3), .val (.ref b1), .unset, .unset, .unset, .unset, .unset, .unset] [(.int (0 : Int32)), (.int (own_st s4 (0 : Int32)))])) _
    refine XS.iloadN X7.here hx rfl (hb hby at_74) rfl ?_
    show Steps p.tables e below (T7.setTop (mkF m 75 #[.val (.int p1), .val (.int p2), .val (.int v1), .val (.int v2), .val (.int v3), .val (.ref b1), .unset, .unset, .unset, .unset, .unset, .unset] [(.int v1), (.int (0 : Int32)), (.int (own_st s4 (0 : Int32)))])) _
    refine XS.iloadN X7.here hx rfl (hb hby at_75) rfl ?_
    show Steps p.tables e below (T7.setTop (mkF m 76 #[.val (.int p1), .val (.int p2), .val (.int v1), .val (.int v2), .val (.int v3), .val (.ref b1), .unset, .unset, .unset, .unset, .unset, .unset] [(.int v2), (.int v1), (.int (0 : Int32)), (.int (own_st s4 (0 : Int32)))])) _
    refine XS.iload X7.here hx rfl (hb hby at_76) rfl ?_
    show Steps p.tables e below (T7.setTop (mkF m 78 #[.val (.int p1), .val (.int p2), .val (.int v1), .val (.int v2), .val (.int v3), .val (.ref b1), .unset, .unset, .unset, .unset, .unset, .unset] [(.int v3), (.int v2), (.int v1), (.int (0 : Int32)), (.int (own_st s4 (0 : Int32)))])) _
    refine st8 _ ?_
    show Steps p.tables e below (T8.setTop (mkF m 81 #[.val (.int p1), .val (.int p2), .val (.int v1), .val (.int v2), .val (.int v3), .val (.ref b1), .unset, .unset, .unset, .unset, .unset, .unset] [(.int (own_ref (0 : Int32) v1 v2 v3)), (.int (own_st s4 (0 : Int32)))])) _
    refine XS.icmpNo X8.here hx rfl (hb hby at_81) rfl (teq t0).2 ?_
    show Steps p.tables e below (T8.setTop (mkF m 84 #[.val (.int p1), .val (.int p2), .val (.int v1), .val (.int v2), .val (.int v3), .val (.ref b1), .unset, .unset, .unset, .unset, .unset, .unset] [])) _
    refine XS.iconst X8.here hx rfl (hb hby at_84) ?_
    show Steps p.tables e below (T8.setTop (mkF m 85 #[.val (.int p1), .val (.int p2), .val (.int v1), .val (.int v2), .val (.int v3), .val (.ref b1), .unset, .unset, .unset, .unset, .unset, .unset] [(.int (1 : Int32))])) _
    refine XS.goto X8.here hx rfl (pc0 := 85) (pc' := 89) rfl (hb hby at_85) (by decide) (by decide) ?_
    show Steps p.tables e below (T8.setTop (mkF m 89 #[.val (.int p1), .val (.int p2), .val (.int v1), .val (.int v2), .val (.int v3), .val (.ref b1), .unset, .unset, .unset, .unset, .unset, .unset] [(.int (1 : Int32))])) _
    refine XS.istore X8.here hx rfl (hb hby at_89) rfl (l' := #[.val (.int p1), .val (.int p2), .val (.int v1), .val (.int v2), .val (.int v3), .val (.ref b1), .val (.int (1 : Int32)), .unset, .unset, .unset, .unset, .unset]) rfl ?_
    show Steps p.tables e below (T8.setTop (mkF m 91 #[.val (.int p1), .val (.int p2), .val (.int v1), .val (.int v2), .val (.int v3), .val (.ref b1), .val (.int (1 : Int32)), .unset, .unset, .unset, .unset, .unset] [])) _
    refine XS.aload X8.here hx rfl (hb hby at_91) rfl rfl ?_
    show Steps p.tables e below (T8.setTop (mkF m 93 #[.val (.int p1), .val (.int p2), .val (.int v1), .val (.int v2), .val (.int v3), .val (.ref b1), .val (.int (1 : Int32)), .unset, .unset, .unset, .unset, .unset] [(.ref b1)])) _
    refine XS.iconst X8.here hx rfl (hb hby at_93) ?_
    show Steps p.tables e below (T8.setTop (mkF m 94 #[.val (.int p1), .val (.int p2), .val (.int v1), .val (.int v2), .val (.int v3), .val (.ref b1), .val (.int (1 : Int32)), .unset, .unset, .unset, .unset, .unset] [(.int (1 : Int32)), (.ref b1)])) _
    refine st9.trans ?_
    show Steps p.tables e below (T9.setTop (mkF m 97 #[.val (.int p1), .val (.int p2), .val (.int v1), .val (.int v2), .val (.int v3), .val (.ref b1), .val (.int (1 : Int32)), .unset, .unset, .unset, .unset, .unset] [(.int (own_st s4 (1 : Int32)))])) _
    refine XS.iconst X9.here hx rfl (hb hby at_97) ?_
    show Steps p.tables e below (T9.setTop (mkF m 98 #[.val (.int p1), .val (.int p2), .val (.int v1), .val (.int v2), .val (.int v3), .val (.ref b1), .val (.int (1 : Int32)), .unset, .unset, .unset, .unset, .unset] [(.int (1 : Int32)), (.int (own_st s4 (1 : Int32)))])) _
    refine XS.iloadN X9.here hx rfl (hb hby at_98) rfl ?_
    show Steps p.tables e below (T9.setTop (mkF m 99 #[.val (.int p1), .val (.int p2), .val (.int v1), .val (.int v2), .val (.int v3), .val (.ref b1), .val (.int (1 : Int32)), .unset, .unset, .unset, .unset, .unset] [(.int v1), (.int (1 : Int32)), (.int (own_st s4 (1 : Int32)))])) _
    refine XS.iloadN X9.here hx rfl (hb hby at_99) rfl ?_
    show Steps p.tables e below (T9.setTop (mkF m 100 #[.val (.int p1), .val (.int p2), .val (.int v1), .val (.int v2), .val (.int v3), .val (.ref b1), .val (.int (1 : Int32)), .unset, .unset, .unset, .unset, .unset] [(.int v2), (.int v1), (.int (1 : Int32)), (.int (own_st s4 (1 : Int32)))])) _
    refine XS.iload X9.here hx rfl (hb hby at_100) rfl ?_
    show Steps p.tables e below (T9.setTop (mkF m 102 #[.val (.int p1), .val (.int p2), .val (.int v1), .val (.int v2), .val (.int v3), .val (.ref b1), .val (.int (1 : Int32)), .unset, .unset, .unset, .unset, .unset] [(.int v3), (.int v2), (.int v1), (.int (1 : Int32)), (.int (own_st s4 (1 : Int32)))])) _
    refine st10 _ ?_
    show Steps p.tables e below (T10.setTop (mkF m 105 #[.val (.int p1), .val (.int p2), .val (.int v1), .val (.int v2), .val (.int v3), .val (.ref b1), .val (.int (1 : Int32)), .unset, .unset, .unset, .unset, .unset] [(.int (own_ref (1 : Int32) v1 v2 v3)), (.int (own_st s4 (1 : Int32)))])) _
    refine XS.icmpNo X10.here hx rfl (hb hby at_105) rfl (teq t1).2 ?_
    show Steps p.tables e below (T10.setTop (mkF m 108 #[.val (.int p1), .val (.int p2), .val (.int v1), .val (.int v2), .val (.int v3), .val (.ref b1), .val (.int (1 : Int32)), .unset, .unset, .unset, .unset, .unset] [])) _
    refine XS.iconst X10.here hx rfl (hb hby at_108) ?_
    show Steps p.tables e below (T10.setTop (mkF m 109 #[.val (.int p1), .val (.int p2), .val (.int v1), .val (.int v2), .val (.int v3), .val (.ref b1), .val (.int (1 : Int32)), .unset, .unset, .unset, .unset, .unset] [(.int (1 : Int32))])) _
    refine XS.goto X10.here hx rfl (pc0 := 109) (pc' := 113) rfl (hb hby at_109) (by decide) (by decide) ?_
    show Steps p.tables e below (T10.setTop (mkF m 113 #[.val (.int p1), .val (.int p2), .val (.int v1), .val (.int v2), .val (.int v3), .val (.ref b1), .val (.int (1 : Int32)), .unset, .unset, .unset, .unset, .unset] [(.int (1 : Int32))])) _
    refine XS.istore X10.here hx rfl (hb hby at_113) rfl (l' := #[.val (.int p1), .val (.int p2), .val (.int v1), .val (.int v2), .val (.int v3), .val (.ref b1), .val (.int (1 : Int32)), .val (.int (1 : Int32)), .unset, .unset, .unset, .unset]) rfl ?_
    show Steps p.tables e below (T10.setTop (mkF m 115 #[.val (.int p1), .val (.int p2), .val (.int v1), .val (.int v2), .val (.int v3), .val (.ref b1), .val (.int (1 : Int32)), .val (.int (1 : Int32)), .unset, .unset, .unset, .unset] [])) _
    refine XS.aload X10.here hx rfl (hb hby at_115) rfl rfl ?_
    show Steps p.tables e below (T10.setTop (mkF m 117 #[.val (.int p1), .val (.int p2), .val (.int v1), .val (.int v2), .val (.int v3), .val (.ref b1), .val (.int (1 : Int32)), .val (.int (1 : Int32)), .unset, .unset, .unset, .unset] [(.ref b1)])) _
    refine XS.iconst X10.here hx rfl (hb hby at_117) ?_
    show Steps p.tables e below (T10.setTop (mkF m 118 #[.val (.int p1), .val (.int p2), .val (.int v1), .val (.int v2), .val (.int v3), .val (.ref b1), .val (.int (1 : Int32)), .val (.int (1 : Int32)), .unset, .unset, .unset, .unset] [(.int (2 : Int32)), (.ref b1)])) _
    refine st11.trans ?_
    show Steps p.tables e below (T11.setTop (mkF m 121 #[.val (.int p1), .val (.int p2), .val (.int v1), .val (.int v2), .val (.int v3), .val (.ref b1), .val (.int (1 : Int32)), .val (.int (1 : Int32)), .unset, .unset, .unset, .unset] [(.int (own_st s4 (2 : Int32)))])) _
    refine XS.iconst X11.here hx rfl (hb hby at_121) ?_
    show Steps p.tables e below (T11.setTop (mkF m 122 #[.val (.int p1), .val (.int p2), .val (.int v1), .val (.int v2), .val (.int v3), .val (.ref b1), .val (.int (1 : Int32)), .val (.int (1 : Int32)), .unset, .unset, .unset, .unset] [(.int (2 : Int32)), (.int (own_st s4 (2 : Int32)))])) _
    refine XS.iloadN X11.here hx rfl (hb hby at_122) rfl ?_
    show Steps p.tables e below (T11.setTop (mkF m 123 #[.val (.int p1), .val (.int p2), .val (.int v1), .val (.int v2), .val (.int v3), .val (.ref b1), .val (.int (1 : Int32)), .val (.int (1 : Int32)), .unset, .unset, .unset, .unset] [(.int v1), (.int (2 : Int32)), (.int (own_st s4 (2 : Int32)))])) _
    refine XS.iloadN X11.here hx rfl (hb hby at_123) rfl ?_
    show Steps p.tables e below (T11.setTop (mkF m 124 #[.val (.int p1), .val (.int p2), .val (.int v1), .val (.int v2), .val (.int v3), .val (.ref b1), .val (.int (1 : Int32)), .val (.int (1 : Int32)), .unset, .unset, .unset, .unset] [(.int v2), (.int v1), (.int (2 : Int32)), (.int (own_st s4 (2 : Int32)))])) _
    refine XS.iload X11.here hx rfl (hb hby at_124) rfl ?_
    show Steps p.tables e below (T11.setTop (mkF m 126 #[.val (.int p1), .val (.int p2), .val (.int v1), .val (.int v2), .val (.int v3), .val (.ref b1), .val (.int (1 : Int32)), .val (.int (1 : Int32)), .unset, .unset, .unset, .unset] [(.int v3), (.int v2), (.int v1), (.int (2 : Int32)), (.int (own_st s4 (2 : Int32)))])) _
    refine st12 _ ?_
    show Steps p.tables e below (T12.setTop (mkF m 129 #[.val (.int p1), .val (.int p2), .val (.int v1), .val (.int v2), .val (.int v3), .val (.ref b1), .val (.int (1 : Int32)), .val (.int (1 : Int32)), .unset, .unset, .unset, .unset] [(.int (own_ref (2 : Int32) v1 v2 v3)), (.int (own_st s4 (2 : Int32)))])) _
    refine XS.icmpNo X12.here hx rfl (hb hby at_129) rfl (teq t2).2 ?_
    show Steps p.tables e below (T12.setTop (mkF m 132 #[.val (.int p1), .val (.int p2), .val (.int v1), .val (.int v2), .val (.int v3), .val (.ref b1), .val (.int (1 : Int32)), .val (.int (1 : Int32)), .unset, .unset, .unset, .unset] [])) _
    refine XS.iconst X12.here hx rfl (hb hby at_132) ?_
    show Steps p.tables e below (T12.setTop (mkF m 133 #[.val (.int p1), .val (.int p2), .val (.int v1), .val (.int v2), .val (.int v3), .val (.ref b1), .val (.int (1 : Int32)), .val (.int (1 : Int32)), .unset, .unset, .unset, .unset] [(.int (1 : Int32))])) _
    refine XS.goto X12.here hx rfl (pc0 := 133) (pc' := 137) rfl (hb hby at_133) (by decide) (by decide) ?_
    show Steps p.tables e below (T12.setTop (mkF m 137 #[.val (.int p1), .val (.int p2), .val (.int v1), .val (.int v2), .val (.int v3), .val (.ref b1), .val (.int (1 : Int32)), .val (.int (1 : Int32)), .unset, .unset, .unset, .unset] [(.int (1 : Int32))])) _
    refine XS.istore X12.here hx rfl (hb hby at_137) rfl (l' := #[.val (.int p1), .val (.int p2), .val (.int v1), .val (.int v2), .val (.int v3), .val (.ref b1), .val (.int (1 : Int32)), .val (.int (1 : Int32)), .val (.int (1 : Int32)), .unset, .unset, .unset]) rfl ?_
    show Steps p.tables e below (T12.setTop (mkF m 139 #[.val (.int p1), .val (.int p2), .val (.int v1), .val (.int v2), .val (.int v3), .val (.ref b1), .val (.int (1 : Int32)), .val (.int (1 : Int32)), .val (.int (1 : Int32)), .unset, .unset, .unset] [])) _
    refine stsgd _ ?_
    show Steps p.tables e below (Tsgd.setTop (mkF m 151 #[.val (.int p1), .val (.int p2), .val (.int v1), .val (.int v2), .val (.int v3), .val (.ref b1), .val (.int (1 : Int32)), .val (.int (1 : Int32)), .val (.int (1 : Int32)), .unset, .unset, .unset] [])) _
    refine stsge _ ?_
    show Steps p.tables e below (Tsge.setTop (mkF m 165 #[.val (.int p1), .val (.int p2), .val (.int v1), .val (.int v2), .val (.int v3), .val (.ref b1), .val (.int (1 : Int32)), .val (.int (1 : Int32)), .val (.int (1 : Int32)), .unset, .unset, .unset] [])) _
    refine stsgf _ ?_
    show Steps p.tables e below (Tsgf.setTop (mkF m 181 #[.val (.int p1), .val (.int p2), .val (.int v1), .val (.int v2), .val (.int v3), .val (.ref b1), .val (.int (1 : Int32)), .val (.int (1 : Int32)), .val (.int (1 : Int32)), .unset, .unset, .unset] [])) _
    refine XS.aload Xsgf.here hx rfl (hb hby at_181) rfl rfl ?_
    show Steps p.tables e below (Tsgf.setTop (mkF m 183 #[.val (.int p1), .val (.int p2), .val (.int v1), .val (.int v2), .val (.int v3), .val (.ref b1), .val (.int (1 : Int32)), .val (.int (1 : Int32)), .val (.int (1 : Int32)), .unset, .unset, .unset] [(.ref b1)])) _
    refine XS.iconst Xsgf.here hx rfl (hb hby at_183) ?_
    show Steps p.tables e below (Tsgf.setTop (mkF m 184 #[.val (.int p1), .val (.int p2), .val (.int v1), .val (.int v2), .val (.int v3), .val (.ref b1), .val (.int (1 : Int32)), .val (.int (1 : Int32)), .val (.int (1 : Int32)), .unset, .unset, .unset] [(.int (0 : Int32)), (.ref b1)])) _
    refine st13.trans ?_
    show Steps p.tables e below (T13.setTop (mkF m 187 #[.val (.int p1), .val (.int p2), .val (.int v1), .val (.int v2), .val (.int v3), .val (.ref b1), .val (.int (1 : Int32)), .val (.int (1 : Int32)), .val (.int (1 : Int32)), .unset, .unset, .unset] [(.int (own_en s7 (0 : Int32)))])) _
    refine XS.iconst X13.here hx rfl (hb hby at_187) ?_
    show Steps p.tables e below (T13.setTop (mkF m 188 #[.val (.int p1), .val (.int p2), .val (.int v1), .val (.int v2), .val (.int v3), .val (.ref b1), .val (.int (1 : Int32)), .val (.int (1 : Int32)), .val (.int (1 : Int32)), .unset, .unset, .unset] [(.int (0 : Int32)), (.int (own_en s7 (0 : Int32)))])) _
    refine XS.iloadN X13.here hx rfl (hb hby at_188) rfl ?_
    show Steps p.tables e below (T13.setTop (mkF m 189 #[.val (.int p1), .val (.int p2), .val (.int v1), .val (.int v2), .val (.int v3), .val (.ref b1), .val (.int (1 : Int32)), .val (.int (1 : Int32)), .val (.int (1 : Int32)), .unset, .unset, .unset] [(.int v1), (.int (0 : Int32)), (.int (own_en s7 (0 : Int32)))])) _
    refine XS.iloadN X13.here hx rfl (hb hby at_189) rfl ?_
    show Steps p.tables e below (T13.setTop (mkF m 190 #[.val (.int p1), .val (.int p2), .val (.int v1), .val (.int v2), .val (.int v3), .val (.ref b1), .val (.int (1 : Int32)), .val (.int (1 : Int32)), .val (.int (1 : Int32)), .unset, .unset, .unset] [(.int v2), (.int v1), (.int (0 : Int32)), (.int (own_en s7 (0 : Int32)))])) _
    refine XS.iload X13.here hx rfl (hb hby at_190) rfl ?_
    show Steps p.tables e below (T13.setTop (mkF m 192 #[.val (.int p1), .val (.int p2), .val (.int v1), .val (.int v2), .val (.int v3), .val (.ref b1), .val (.int (1 : Int32)), .val (.int (1 : Int32)), .val (.int (1 : Int32)), .unset, .unset, .unset] [(.int v3), (.int v2), (.int v1), (.int (0 : Int32)), (.int (own_en s7 (0 : Int32)))])) _
    refine st14 _ ?_
    show Steps p.tables e below (T14.setTop (mkF m 195 #[.val (.int p1), .val (.int p2), .val (.int v1), .val (.int v2), .val (.int v3), .val (.ref b1), .val (.int (1 : Int32)), .val (.int (1 : Int32)), .val (.int (1 : Int32)), .unset, .unset, .unset] [(.int (own_ref (0 : Int32) v1 v2 v3)), (.int (own_en s7 (0 : Int32)))])) _
    refine XS.iconst X14.here hx rfl (hb hby at_195) ?_
    show Steps p.tables e below (T14.setTop (mkF m 196 #[.val (.int p1), .val (.int p2), .val (.int v1), .val (.int v2), .val (.int v3), .val (.ref b1), .val (.int (1 : Int32)), .val (.int (1 : Int32)), .val (.int (1 : Int32)), .unset, .unset, .unset] [(.int (0 : Int32)), (.int (own_ref (0 : Int32) v1 v2 v3)), (.int (own_en s7 (0 : Int32)))])) _
    refine XS.iloadN X14.here hx rfl (hb hby at_196) rfl ?_
    show Steps p.tables e below (T14.setTop (mkF m 197 #[.val (.int p1), .val (.int p2), .val (.int v1), .val (.int v2), .val (.int v3), .val (.ref b1), .val (.int (1 : Int32)), .val (.int (1 : Int32)), .val (.int (1 : Int32)), .unset, .unset, .unset] [(.int v1), (.int (0 : Int32)), (.int (own_ref (0 : Int32) v1 v2 v3)), (.int (own_en s7 (0 : Int32)))])) _
    refine XS.iloadN X14.here hx rfl (hb hby at_197) rfl ?_
    show Steps p.tables e below (T14.setTop (mkF m 198 #[.val (.int p1), .val (.int p2), .val (.int v1), .val (.int v2), .val (.int v3), .val (.ref b1), .val (.int (1 : Int32)), .val (.int (1 : Int32)), .val (.int (1 : Int32)), .unset, .unset, .unset] [(.int v2), (.int v1), (.int (0 : Int32)), (.int (own_ref (0 : Int32) v1 v2 v3)), (.int (own_en s7 (0 : Int32)))])) _
    refine XS.iload X14.here hx rfl (hb hby at_198) rfl ?_
    show Steps p.tables e below (T14.setTop (mkF m 200 #[.val (.int p1), .val (.int p2), .val (.int v1), .val (.int v2), .val (.int v3), .val (.ref b1), .val (.int (1 : Int32)), .val (.int (1 : Int32)), .val (.int (1 : Int32)), .unset, .unset, .unset] [(.int v3), (.int v2), (.int v1), (.int (0 : Int32)), (.int (own_ref (0 : Int32) v1 v2 v3)), (.int (own_en s7 (0 : Int32)))])) _
    refine st15 _ ?_
    show Steps p.tables e below (T15.setTop (mkF m 203 #[.val (.int p1), .val (.int p2), .val (.int v1), .val (.int v2), .val (.int v3), .val (.ref b1), .val (.int (1 : Int32)), .val (.int (1 : Int32)), .val (.int (1 : Int32)), .unset, .unset, .unset] [(.int (own_cnt (0 : Int32) v1 v2 v3)), (.int (own_ref (0 : Int32) v1 v2 v3)), (.int (own_en s7 (0 : Int32)))])) _
    refine XS.iadd X15.here hx rfl (hb hby at_203) rfl ?_
    show Steps p.tables e below (T15.setTop (mkF m 204 #[.val (.int p1), .val (.int p2), .val (.int v1), .val (.int v2), .val (.int v3), .val (.ref b1), .val (.int (1 : Int32)), .val (.int (1 : Int32)), .val (.int (1 : Int32)), .unset, .unset, .unset] [(.int ((own_ref (0 : Int32) v1 v2 v3) + (own_cnt (0 : Int32) v1 v2 v3))), (.int (own_en s7 (0 : Int32)))])) _
    refine XS.icmpNo X15.here hx rfl (hb hby at_204) rfl (teq t3).2 ?_
    show Steps p.tables e below (T15.setTop (mkF m 207 #[.val (.int p1), .val (.int p2), .val (.int v1), .val (.int v2), .val (.int v3), .val (.ref b1), .val (.int (1 : Int32)), .val (.int (1 : Int32)), .val (.int (1 : Int32)), .unset, .unset, .unset] [])) _
    refine XS.iconst X15.here hx rfl (hb hby at_207) ?_
    show Steps p.tables e below (T15.setTop (mkF m 208 #[.val (.int p1), .val (.int p2), .val (.int v1), .val (.int v2), .val (.int v3), .val (.ref b1), .val (.int (1 : Int32)), .val (.int (1 : Int32)), .val (.int (1 : Int32)), .unset, .unset, .unset] [(.int (1 : Int32))])) _
    refine XS.goto X15.here hx rfl (pc0 := 208) (pc' := 212) rfl (hb hby at_208) (by decide) (by decide) ?_
    show Steps p.tables e below (T15.setTop (mkF m 212 #[.val (.int p1), .val (.int p2), .val (.int v1), .val (.int v2), .val (.int v3), .val (.ref b1), .val (.int (1 : Int32)), .val (.int (1 : Int32)), .val (.int (1 : Int32)), .unset, .unset, .unset] [(.int (1 : Int32))])) _
    refine XS.istore X15.here hx rfl (hb hby at_212) rfl (l' := #[.val (.int p1), .val (.int p2), .val (.int v1), .val (.int v2), .val (.int v3), .val (.ref b1), .val (.int (1 : Int32)), .val (.int (1 : Int32)), .val (.int (1 : Int32)), .val (.int (1 : Int32)), .unset, .unset]) rfl ?_
    show Steps p.tables e below (T15.setTop (mkF m 214 #[.val (.int p1), .val (.int p2), .val (.int v1), .val (.int v2), .val (.int v3), .val (.ref b1), .val (.int (1 : Int32)), .val (.int (1 : Int32)), .val (.int (1 : Int32)), .val (.int (1 : Int32)), .unset, .unset] [])) _
    refine XS.aload X15.here hx rfl (hb hby at_214) rfl rfl ?_
    show Steps p.tables e below (T15.setTop (mkF m 216 #[.val (.int p1), .val (.int p2), .val (.int v1), .val (.int v2), .val (.int v3), .val (.ref b1), .val (.int (1 : Int32)), .val (.int (1 : Int32)), .val (.int (1 : Int32)), .val (.int (1 : Int32)), .unset, .unset] [(.ref b1)])) _
    refine XS.iconst X15.here hx rfl (hb hby at_216) ?_
    show Steps p.tables e below (T15.setTop (mkF m 217 #[.val (.int p1), .val (.int p2), .val (.int v1), .val (.int v2), .val (.int v3), .val (.ref b1), .val (.int (1 : Int32)), .val (.int (1 : Int32)), .val (.int (1 : Int32)), .val (.int (1 : Int32)), .unset, .unset] [(.int (1 : Int32)), (.ref b1)])) _
    refine st16.trans ?_
    show Steps p.tables e below (T16.setTop (mkF m 220 #[.val (.int p1), .val (.int p2), .val (.int v1), .val (.int v2), .val (.int v3), .val (.ref b1), .val (.int (1 : Int32)), .val (.int (1 : Int32)), .val (.int (1 : Int32)), .val (.int (1 : Int32)), .unset, .unset] [(.int (own_en s7 (1 : Int32)))])) _
    refine XS.iconst X16.here hx rfl (hb hby at_220) ?_
    show Steps p.tables e below (T16.setTop (mkF m 221 #[.val (.int p1), .val (.int p2), .val (.int v1), .val (.int v2), .val (.int v3), .val (.ref b1), .val (.int (1 : Int32)), .val (.int (1 : Int32)), .val (.int (1 : Int32)), .val (.int (1 : Int32)), .unset, .unset] [(.int (1 : Int32)), (.int (own_en s7 (1 : Int32)))])) _
    refine XS.iloadN X16.here hx rfl (hb hby at_221) rfl ?_
    show Steps p.tables e below (T16.setTop (mkF m 222 #[.val (.int p1), .val (.int p2), .val (.int v1), .val (.int v2), .val (.int v3), .val (.ref b1), .val (.int (1 : Int32)), .val (.int (1 : Int32)), .val (.int (1 : Int32)), .val (.int (1 : Int32)), .unset, .unset] [(.int v1), (.int (1 : Int32)), (.int (own_en s7 (1 : Int32)))])) _
    refine XS.iloadN X16.here hx rfl (hb hby at_222) rfl ?_
    show Steps p.tables e below (T16.setTop (mkF m 223 #[.val (.int p1), .val (.int p2), .val (.int v1), .val (.int v2), .val (.int v3), .val (.ref b1), .val (.int (1 : Int32)), .val (.int (1 : Int32)), .val (.int (1 : Int32)), .val (.int (1 : Int32)), .unset, .unset] [(.int v2), (.int v1), (.int (1 : Int32)), (.int (own_en s7 (1 : Int32)))])) _
    refine XS.iload X16.here hx rfl (hb hby at_223) rfl ?_
    show Steps p.tables e below (T16.setTop (mkF m 225 #[.val (.int p1), .val (.int p2), .val (.int v1), .val (.int v2), .val (.int v3), .val (.ref b1), .val (.int (1 : Int32)), .val (.int (1 : Int32)), .val (.int (1 : Int32)), .val (.int (1 : Int32)), .unset, .unset] [(.int v3), (.int v2), (.int v1), (.int (1 : Int32)), (.int (own_en s7 (1 : Int32)))])) _
    refine st17 _ ?_
    show Steps p.tables e below (T17.setTop (mkF m 228 #[.val (.int p1), .val (.int p2), .val (.int v1), .val (.int v2), .val (.int v3), .val (.ref b1), .val (.int (1 : Int32)), .val (.int (1 : Int32)), .val (.int (1 : Int32)), .val (.int (1 : Int32)), .unset, .unset] [(.int (own_ref (1 : Int32) v1 v2 v3)), (.int (own_en s7 (1 : Int32)))])) _
    refine XS.iconst X17.here hx rfl (hb hby at_228) ?_
    show Steps p.tables e below (T17.setTop (mkF m 229 #[.val (.int p1), .val (.int p2), .val (.int v1), .val (.int v2), .val (.int v3), .val (.ref b1), .val (.int (1 : Int32)), .val (.int (1 : Int32)), .val (.int (1 : Int32)), .val (.int (1 : Int32)), .unset, .unset] [(.int (1 : Int32)), (.int (own_ref (1 : Int32) v1 v2 v3)), (.int (own_en s7 (1 : Int32)))])) _
    refine XS.iloadN X17.here hx rfl (hb hby at_229) rfl ?_
    show Steps p.tables e below (T17.setTop (mkF m 230 #[.val (.int p1), .val (.int p2), .val (.int v1), .val (.int v2), .val (.int v3), .val (.ref b1), .val (.int (1 : Int32)), .val (.int (1 : Int32)), .val (.int (1 : Int32)), .val (.int (1 : Int32)), .unset, .unset] [(.int v1), (.int (1 : Int32)), (.int (own_ref (1 : Int32) v1 v2 v3)), (.int (own_en s7 (1 : Int32)))])) _
    refine XS.iloadN X17.here hx rfl (hb hby at_230) rfl ?_
    show Steps p.tables e below (T17.setTop (mkF m 231 #[.val (.int p1), .val (.int p2), .val (.int v1), .val (.int v2), .val (.int v3), .val (.ref b1), .val (.int (1 : Int32)), .val (.int (1 : Int32)), .val (.int (1 : Int32)), .val (.int (1 : Int32)), .unset, .unset] [(.int v2), (.int v1), (.int (1 : Int32)), (.int (own_ref (1 : Int32) v1 v2 v3)), (.int (own_en s7 (1 : Int32)))])) _
    refine XS.iload X17.here hx rfl (hb hby at_231) rfl ?_
    show Steps p.tables e below (T17.setTop (mkF m 233 #[.val (.int p1), .val (.int p2), .val (.int v1), .val (.int v2), .val (.int v3), .val (.ref b1), .val (.int (1 : Int32)), .val (.int (1 : Int32)), .val (.int (1 : Int32)), .val (.int (1 : Int32)), .unset, .unset] [(.int v3), (.int v2), (.int v1), (.int (1 : Int32)), (.int (own_ref (1 : Int32) v1 v2 v3)), (.int (own_en s7 (1 : Int32)))])) _
    refine st18 _ ?_
    show Steps p.tables e below (T18.setTop (mkF m 236 #[.val (.int p1), .val (.int p2), .val (.int v1), .val (.int v2), .val (.int v3), .val (.ref b1), .val (.int (1 : Int32)), .val (.int (1 : Int32)), .val (.int (1 : Int32)), .val (.int (1 : Int32)), .unset, .unset] [(.int (own_cnt (1 : Int32) v1 v2 v3)), (.int (own_ref (1 : Int32) v1 v2 v3)), (.int (own_en s7 (1 : Int32)))])) _
    refine XS.iadd X18.here hx rfl (hb hby at_236) rfl ?_
    show Steps p.tables e below (T18.setTop (mkF m 237 #[.val (.int p1), .val (.int p2), .val (.int v1), .val (.int v2), .val (.int v3), .val (.ref b1), .val (.int (1 : Int32)), .val (.int (1 : Int32)), .val (.int (1 : Int32)), .val (.int (1 : Int32)), .unset, .unset] [(.int ((own_ref (1 : Int32) v1 v2 v3) + (own_cnt (1 : Int32) v1 v2 v3))), (.int (own_en s7 (1 : Int32)))])) _
    refine XS.icmpNo X18.here hx rfl (hb hby at_237) rfl (teq t4).2 ?_
    show Steps p.tables e below (T18.setTop (mkF m 240 #[.val (.int p1), .val (.int p2), .val (.int v1), .val (.int v2), .val (.int v3), .val (.ref b1), .val (.int (1 : Int32)), .val (.int (1 : Int32)), .val (.int (1 : Int32)), .val (.int (1 : Int32)), .unset, .unset] [])) _
    refine XS.iconst X18.here hx rfl (hb hby at_240) ?_
    show Steps p.tables e below (T18.setTop (mkF m 241 #[.val (.int p1), .val (.int p2), .val (.int v1), .val (.int v2), .val (.int v3), .val (.ref b1), .val (.int (1 : Int32)), .val (.int (1 : Int32)), .val (.int (1 : Int32)), .val (.int (1 : Int32)), .unset, .unset] [(.int (1 : Int32))])) _
    refine XS.goto X18.here hx rfl (pc0 := 241) (pc' := 245) rfl (hb hby at_241) (by decide) (by decide) ?_
    show Steps p.tables e below (T18.setTop (mkF m 245 #[.val (.int p1), .val (.int p2), .val (.int v1), .val (.int v2), .val (.int v3), .val (.ref b1), .val (.int (1 : Int32)), .val (.int (1 : Int32)), .val (.int (1 : Int32)), .val (.int (1 : Int32)), .unset, .unset] [(.int (1 : Int32))])) _
    refine XS.istore X18.here hx rfl (hb hby at_245) rfl (l' := #[.val (.int p1), .val (.int p2), .val (.int v1), .val (.int v2), .val (.int v3), .val (.ref b1), .val (.int (1 : Int32)), .val (.int (1 : Int32)), .val (.int (1 : Int32)), .val (.int (1 : Int32)), .val (.int (1 : Int32)), .unset]) rfl ?_
    show Steps p.tables e below (T18.setTop (mkF m 247 #[.val (.int p1), .val (.int p2), .val (.int v1), .val (.int v2), .val (.int v3), .val (.ref b1), .val (.int (1 : Int32)), .val (.int (1 : Int32)), .val (.int (1 : Int32)), .val (.int (1 : Int32)), .val (.int (1 : Int32)), .unset] [])) _
    refine XS.aload X18.here hx rfl (hb hby at_247) rfl rfl ?_
    show Steps p.tables e below (T18.setTop (mkF m 249 #[.val (.int p1), .val (.int p2), .val (.int v1), .val (.int v2), .val (.int v3), .val (.ref b1), .val (.int (1 : Int32)), .val (.int (1 : Int32)), .val (.int (1 : Int32)), .val (.int (1 : Int32)), .val (.int (1 : Int32)), .unset] [(.ref b1)])) _
    refine XS.iconst X18.here hx rfl (hb hby at_249) ?_
    show Steps p.tables e below (T18.setTop (mkF m 250 #[.val (.int p1), .val (.int p2), .val (.int v1), .val (.int v2), .val (.int v3), .val (.ref b1), .val (.int (1 : Int32)), .val (.int (1 : Int32)), .val (.int (1 : Int32)), .val (.int (1 : Int32)), .val (.int (1 : Int32)), .unset] [(.int (2 : Int32)), (.ref b1)])) _
    refine st19.trans ?_
    show Steps p.tables e below (T19.setTop (mkF m 253 #[.val (.int p1), .val (.int p2), .val (.int v1), .val (.int v2), .val (.int v3), .val (.ref b1), .val (.int (1 : Int32)), .val (.int (1 : Int32)), .val (.int (1 : Int32)), .val (.int (1 : Int32)), .val (.int (1 : Int32)), .unset] [(.int (own_en s7 (2 : Int32)))])) _
    refine XS.iconst X19.here hx rfl (hb hby at_253) ?_
    show Steps p.tables e below (T19.setTop (mkF m 254 #[.val (.int p1), .val (.int p2), .val (.int v1), .val (.int v2), .val (.int v3), .val (.ref b1), .val (.int (1 : Int32)), .val (.int (1 : Int32)), .val (.int (1 : Int32)), .val (.int (1 : Int32)), .val (.int (1 : Int32)), .unset] [(.int (2 : Int32)), (.int (own_en s7 (2 : Int32)))])) _
    refine XS.iloadN X19.here hx rfl (hb hby at_254) rfl ?_
    show Steps p.tables e below (T19.setTop (mkF m 255 #[.val (.int p1), .val (.int p2), .val (.int v1), .val (.int v2), .val (.int v3), .val (.ref b1), .val (.int (1 : Int32)), .val (.int (1 : Int32)), .val (.int (1 : Int32)), .val (.int (1 : Int32)), .val (.int (1 : Int32)), .unset] [(.int v1), (.int (2 : Int32)), (.int (own_en s7 (2 : Int32)))])) _
    refine XS.iloadN X19.here hx rfl (hb hby at_255) rfl ?_
    show Steps p.tables e below (T19.setTop (mkF m 256 #[.val (.int p1), .val (.int p2), .val (.int v1), .val (.int v2), .val (.int v3), .val (.ref b1), .val (.int (1 : Int32)), .val (.int (1 : Int32)), .val (.int (1 : Int32)), .val (.int (1 : Int32)), .val (.int (1 : Int32)), .unset] [(.int v2), (.int v1), (.int (2 : Int32)), (.int (own_en s7 (2 : Int32)))])) _
    refine XS.iload X19.here hx rfl (hb hby at_256) rfl ?_
    show Steps p.tables e below (T19.setTop (mkF m 258 #[.val (.int p1), .val (.int p2), .val (.int v1), .val (.int v2), .val (.int v3), .val (.ref b1), .val (.int (1 : Int32)), .val (.int (1 : Int32)), .val (.int (1 : Int32)), .val (.int (1 : Int32)), .val (.int (1 : Int32)), .unset] [(.int v3), (.int v2), (.int v1), (.int (2 : Int32)), (.int (own_en s7 (2 : Int32)))])) _
    refine st20 _ ?_
    show Steps p.tables e below (T20.setTop (mkF m 261 #[.val (.int p1), .val (.int p2), .val (.int v1), .val (.int v2), .val (.int v3), .val (.ref b1), .val (.int (1 : Int32)), .val (.int (1 : Int32)), .val (.int (1 : Int32)), .val (.int (1 : Int32)), .val (.int (1 : Int32)), .unset] [(.int (own_ref (2 : Int32) v1 v2 v3)), (.int (own_en s7 (2 : Int32)))])) _
    refine XS.iconst X20.here hx rfl (hb hby at_261) ?_
    show Steps p.tables e below (T20.setTop (mkF m 262 #[.val (.int p1), .val (.int p2), .val (.int v1), .val (.int v2), .val (.int v3), .val (.ref b1), .val (.int (1 : Int32)), .val (.int (1 : Int32)), .val (.int (1 : Int32)), .val (.int (1 : Int32)), .val (.int (1 : Int32)), .unset] [(.int (2 : Int32)), (.int (own_ref (2 : Int32) v1 v2 v3)), (.int (own_en s7 (2 : Int32)))])) _
    refine XS.iloadN X20.here hx rfl (hb hby at_262) rfl ?_
    show Steps p.tables e below (T20.setTop (mkF m 263 #[.val (.int p1), .val (.int p2), .val (.int v1), .val (.int v2), .val (.int v3), .val (.ref b1), .val (.int (1 : Int32)), .val (.int (1 : Int32)), .val (.int (1 : Int32)), .val (.int (1 : Int32)), .val (.int (1 : Int32)), .unset] [(.int v1), (.int (2 : Int32)), (.int (own_ref (2 : Int32) v1 v2 v3)), (.int (own_en s7 (2 : Int32)))])) _
    refine XS.iloadN X20.here hx rfl (hb hby at_263) rfl ?_
    show Steps p.tables e below (T20.setTop (mkF m 264 #[.val (.int p1), .val (.int p2), .val (.int v1), .val (.int v2), .val (.int v3), .val (.ref b1), .val (.int (1 : Int32)), .val (.int (1 : Int32)), .val (.int (1 : Int32)), .val (.int (1 : Int32)), .val (.int (1 : Int32)), .unset] [(.int v2), (.int v1), (.int (2 : Int32)), (.int (own_ref (2 : Int32) v1 v2 v3)), (.int (own_en s7 (2 : Int32)))])) _
    refine XS.iload X20.here hx rfl (hb hby at_264) rfl ?_
    show Steps p.tables e below (T20.setTop (mkF m 266 #[.val (.int p1), .val (.int p2), .val (.int v1), .val (.int v2), .val (.int v3), .val (.ref b1), .val (.int (1 : Int32)), .val (.int (1 : Int32)), .val (.int (1 : Int32)), .val (.int (1 : Int32)), .val (.int (1 : Int32)), .unset] [(.int v3), (.int v2), (.int v1), (.int (2 : Int32)), (.int (own_ref (2 : Int32) v1 v2 v3)), (.int (own_en s7 (2 : Int32)))])) _
    refine st21 _ ?_
    show Steps p.tables e below (T21.setTop (mkF m 269 #[.val (.int p1), .val (.int p2), .val (.int v1), .val (.int v2), .val (.int v3), .val (.ref b1), .val (.int (1 : Int32)), .val (.int (1 : Int32)), .val (.int (1 : Int32)), .val (.int (1 : Int32)), .val (.int (1 : Int32)), .unset] [(.int (own_cnt (2 : Int32) v1 v2 v3)), (.int (own_ref (2 : Int32) v1 v2 v3)), (.int (own_en s7 (2 : Int32)))])) _
    refine XS.iadd X21.here hx rfl (hb hby at_269) rfl ?_
    show Steps p.tables e below (T21.setTop (mkF m 270 #[.val (.int p1), .val (.int p2), .val (.int v1), .val (.int v2), .val (.int v3), .val (.ref b1), .val (.int (1 : Int32)), .val (.int (1 : Int32)), .val (.int (1 : Int32)), .val (.int (1 : Int32)), .val (.int (1 : Int32)), .unset] [(.int ((own_ref (2 : Int32) v1 v2 v3) + (own_cnt (2 : Int32) v1 v2 v3))), (.int (own_en s7 (2 : Int32)))])) _
    refine XS.icmpNo X21.here hx rfl (hb hby at_270) rfl (teq t5).2 ?_
    show Steps p.tables e below (T21.setTop (mkF m 273 #[.val (.int p1), .val (.int p2), .val (.int v1), .val (.int v2), .val (.int v3), .val (.ref b1), .val (.int (1 : Int32)), .val (.int (1 : Int32)), .val (.int (1 : Int32)), .val (.int (1 : Int32)), .val (.int (1 : Int32)), .unset] [])) _
    refine XS.iconst X21.here hx rfl (hb hby at_273) ?_
    show Steps p.tables e below (T21.setTop (mkF m 274 #[.val (.int p1), .val (.int p2), .val (.int v1), .val (.int v2), .val (.int v3), .val (.ref b1), .val (.int (1 : Int32)), .val (.int (1 : Int32)), .val (.int (1 : Int32)), .val (.int (1 : Int32)), .val (.int (1 : Int32)), .unset] [(.int (1 : Int32))])) _
    refine XS.goto X21.here hx rfl (pc0 := 274) (pc' := 278) rfl (hb hby at_274) (by decide) (by decide) ?_
    show Steps p.tables e below (T21.setTop (mkF m 278 #[.val (.int p1), .val (.int p2), .val (.int v1), .val (.int v2), .val (.int v3), .val (.ref b1), .val (.int (1 : Int32)), .val (.int (1 : Int32)), .val (.int (1 : Int32)), .val (.int (1 : Int32)), .val (.int (1 : Int32)), .unset] [(.int (1 : Int32))])) _
    refine XS.istore X21.here hx rfl (hb hby at_278) rfl (l' := #[.val (.int p1), .val (.int p2), .val (.int v1), .val (.int v2), .val (.int v3), .val (.ref b1), .val (.int (1 : Int32)), .val (.int (1 : Int32)), .val (.int (1 : Int32)), .val (.int (1 : Int32)), .val (.int (1 : Int32)), .val (.int (1 : Int32))]) rfl ?_
    show Steps p.tables e below (T21.setTop (mkF m 280 #[.val (.int p1), .val (.int p2), .val (.int v1), .val (.int v2), .val (.int v3), .val (.ref b1), .val (.int (1 : Int32)), .val (.int (1 : Int32)), .val (.int (1 : Int32)), .val (.int (1 : Int32)), .val (.int (1 : Int32)), .val (.int (1 : Int32))] [])) _
    refine XS.iload X21.here hx rfl (hb hby at_280) rfl ?_
    show Steps p.tables e below (T21.setTop (mkF m 282 #[.val (.int p1), .val (.int p2), .val (.int v1), .val (.int v2), .val (.int v3), .val (.ref b1), .val (.int (1 : Int32)), .val (.int (1 : Int32)), .val (.int (1 : Int32)), .val (.int (1 : Int32)), .val (.int (1 : Int32)), .val (.int (1 : Int32))] [(.int (1 : Int32))])) _
    refine XS.ifNo X21.here hx rfl (hb hby at_282) rfl ((if0 _ _).trans (feq (by decide)).1) ?_
    show Steps p.tables e below (T21.setTop (mkF m 285 #[.val (.int p1), .val (.int p2), .val (.int v1), .val (.int v2), .val (.int v3), .val (.ref b1), .val (.int (1 : Int32)), .val (.int (1 : Int32)), .val (.int (1 : Int32)), .val (.int (1 : Int32)), .val (.int (1 : Int32)), .val (.int (1 : Int32))] [])) _
    refine XS.iload X21.here hx rfl (hb hby at_285) rfl ?_
    show Steps p.tables e below (T21.setTop (mkF m 287 #[.val (.int p1), .val (.int p2), .val (.int v1), .val (.int v2), .val (.int v3), .val (.ref b1), .val (.int (1 : Int32)), .val (.int (1 : Int32)), .val (.int (1 : Int32)), .val (.int (1 : Int32)), .val (.int (1 : Int32)), .val (.int (1 : Int32))] [(.int (1 : Int32))])) _
    refine XS.ifNo X21.here hx rfl (hb hby at_287) rfl ((if0 _ _).trans (feq (by decide)).1) ?_
    show Steps p.tables e below (T21.setTop (mkF m 290 #[.val (.int p1), .val (.int p2), .val (.int v1), .val (.int v2), .val (.int v3), .val (.ref b1), .val (.int (1 : Int32)), .val (.int (1 : Int32)), .val (.int (1 : Int32)), .val (.int (1 : Int32)), .val (.int (1 : Int32)), .val (.int (1 : Int32))] [])) _
    refine XS.iload X21.here hx rfl (hb hby at_290) rfl ?_
    show Steps p.tables e below (T21.setTop (mkF m 292 #[.val (.int p1), .val (.int p2), .val (.int v1), .val (.int v2), .val (.int v3), .val (.ref b1), .val (.int (1 : Int32)), .val (.int (1 : Int32)), .val (.int (1 : Int32)), .val (.int (1 : Int32)), .val (.int (1 : Int32)), .val (.int (1 : Int32))] [(.int (1 : Int32))])) _
    refine XS.ifNo X21.here hx rfl (hb hby at_292) rfl ((if0 _ _).trans (feq (by decide)).1) ?_
    show Steps p.tables e below (T21.setTop (mkF m 295 #[.val (.int p1), .val (.int p2), .val (.int v1), .val (.int v2), .val (.int v3), .val (.ref b1), .val (.int (1 : Int32)), .val (.int (1 : Int32)), .val (.int (1 : Int32)), .val (.int (1 : Int32)), .val (.int (1 : Int32)), .val (.int (1 : Int32))] [])) _
    refine XS.iload X21.here hx rfl (hb hby at_295) rfl ?_
    show Steps p.tables e below (T21.setTop (mkF m 297 #[.val (.int p1), .val (.int p2), .val (.int v1), .val (.int v2), .val (.int v3), .val (.ref b1), .val (.int (1 : Int32)), .val (.int (1 : Int32)), .val (.int (1 : Int32)), .val (.int (1 : Int32)), .val (.int (1 : Int32)), .val (.int (1 : Int32))] [(.int (1 : Int32))])) _
    refine XS.ifNo X21.here hx rfl (hb hby at_297) rfl ((if0 _ _).trans (feq (by decide)).1) ?_
    show Steps p.tables e below (T21.setTop (mkF m 300 #[.val (.int p1), .val (.int p2), .val (.int v1), .val (.int v2), .val (.int v3), .val (.ref b1), .val (.int (1 : Int32)), .val (.int (1 : Int32)), .val (.int (1 : Int32)), .val (.int (1 : Int32)), .val (.int (1 : Int32)), .val (.int (1 : Int32))] [])) _
    refine XS.iload X21.here hx rfl (hb hby at_300) rfl ?_
    show Steps p.tables e below (T21.setTop (mkF m 302 #[.val (.int p1), .val (.int p2), .val (.int v1), .val (.int v2), .val (.int v3), .val (.ref b1), .val (.int (1 : Int32)), .val (.int (1 : Int32)), .val (.int (1 : Int32)), .val (.int (1 : Int32)), .val (.int (1 : Int32)), .val (.int (1 : Int32))] [(.int (1 : Int32))])) _
    refine XS.ifNo X21.here hx rfl (hb hby at_302) rfl ((if0 _ _).trans (feq (by decide)).1) ?_
    show Steps p.tables e below (T21.setTop (mkF m 305 #[.val (.int p1), .val (.int p2), .val (.int v1), .val (.int v2), .val (.int v3), .val (.ref b1), .val (.int (1 : Int32)), .val (.int (1 : Int32)), .val (.int (1 : Int32)), .val (.int (1 : Int32)), .val (.int (1 : Int32)), .val (.int (1 : Int32))] [])) _
    refine XS.iload X21.here hx rfl (hb hby at_305) rfl ?_
    show Steps p.tables e below (T21.setTop (mkF m 307 #[.val (.int p1), .val (.int p2), .val (.int v1), .val (.int v2), .val (.int v3), .val (.ref b1), .val (.int (1 : Int32)), .val (.int (1 : Int32)), .val (.int (1 : Int32)), .val (.int (1 : Int32)), .val (.int (1 : Int32)), .val (.int (1 : Int32))] [(.int (1 : Int32))])) _
    refine XS.ifNo X21.here hx rfl (hb hby at_307) rfl ((if0 _ _).trans (feq (by decide)).1) ?_
    show Steps p.tables e below (T21.setTop (mkF m 310 #[.val (.int p1), .val (.int p2), .val (.int v1), .val (.int v2), .val (.int v3), .val (.ref b1), .val (.int (1 : Int32)), .val (.int (1 : Int32)), .val (.int (1 : Int32)), .val (.int (1 : Int32)), .val (.int (1 : Int32)), .val (.int (1 : Int32))] [])) _
    refine XS.iconst X21.here hx rfl (hb hby at_310) ?_
    show Steps p.tables e below (T21.setTop (mkF m 311 #[.val (.int p1), .val (.int p2), .val (.int v1), .val (.int v2), .val (.int v3), .val (.ref b1), .val (.int (1 : Int32)), .val (.int (1 : Int32)), .val (.int (1 : Int32)), .val (.int (1 : Int32)), .val (.int (1 : Int32)), .val (.int (1 : Int32))] [(.int (1 : Int32))])) _
    refine XS.goto X21.here hx rfl (pc0 := 311) (pc' := 315) rfl (hb hby at_311) (by decide) (by decide) ?_
    show Steps p.tables e below (T21.setTop (mkF m 315 #[.val (.int p1), .val (.int p2), .val (.int v1), .val (.int v2), .val (.int v3), .val (.ref b1), .val (.int (1 : Int32)), .val (.int (1 : Int32)), .val (.int (1 : Int32)), .val (.int (1 : Int32)), .val (.int (1 : Int32)), .val (.int (1 : Int32))] [(.int (1 : Int32))])) _
    exact retN X21 hx (t := .boolean) Bd.returns (by simp) (hb hby at_315) hr
  · show Q0 Z p1 p2 h0 n0 _ T21.heap _
    exact ⟨rfl, N21⟩
set_option maxRecDepth 65536 in
set_option maxHeartbeats 40000000 in
theorem comes_1 {Post : Tables → Env → Array Value → State → Outcome → State → Prop} (hpost : ∀ tb e args s v u, (limb_1_1.after args s (.returned v) u = true ∧ limb_1_2.after args s (.returned v) u = true ∧ True) → FrameEnd s (.returned v) u (Jvm.fieldLocs frame_1_writes args s ++ Jvm.arrayLocs frame_1_arrays args s ++ Jvm.staticLocs frame_1_statics s) 24 128 → Post tb e args s (.returned v) u) :
    ArmFor flags0 classFile x code maxLocals ret World_1 tables_1 room_1 Calls_1 rest_1 Pre_1 Post := by
  intro l hfl _ _ p e ha hc hk s m args below hf hA hF happ hP
  obtain ⟨hcalls, hrest, hpre⟩ := hP
  obtain ⟨-, -, -, hnamed, -, -, -, hat⟩ := (Spec.applies_iff hf).mp happ
  obtain ⟨hg, hn⟩ := and_e (Cond.before_iff.mp (show (Jvm.Cond.and given_1 narrow_1).before args s = true from hpre))
  obtain ⟨h1, g1⟩ := and_e hg
  obtain ⟨c1, g2⟩ := and_e g1
  obtain ⟨w0, w1, rfl⟩ : ∃ w0 w1 : Value, args = #[w0, w1] := by
    have hs : args.size = 2 := by simpa [Cond.value, given_1] using h1
    obtain ⟨L⟩ := args
    match L, hs with
    | [w0, w1], _ => exact ⟨w0, w1, rfl⟩
  have hw := fun d (hd : d ∈ tables_1) => atoms_spec (ws := Jvm.Cond.code x code maxLocals ret :: tables_1) hat d (List.mem_cons_of_mem _ hd)
  obtain ⟨i0, ei0⟩ := is_v c1
  obtain rfl : w0 = (.int i0) := Option.some.inj ei0
  obtain ⟨i1, ei1⟩ := is_v g2
  obtain rfl : w1 = (.int i1) := Option.some.inj ei1
  obtain ⟨n, o, h1, h2, h3, _, L, rfl, ⟨rfl, N⟩, hq⟩ := rm0 l s _ hw tables_1 i0 i1 s.heap s.heap.size (Nat.le_refl _)  p e ha hc hk s m _ below hf ((Spec.applies_iff_loose hf).mp happ).1 ⟨rfl, State.Warmed39.refl s, rfl⟩ trivial
  refine ⟨n, _, h1, h2, h3, hpost _ _ _ _ _ _ ⟨Cond.after_iff.mpr rfl, Cond.after_iff.mpr (eq_i res_at (Term.int_eval (1)) rfl), trivial⟩ ⟨hq.1, hq.2.1, (hq.2.2.sift fun y hy => Or.inr (N y hy)).mono (by decide) (by decide)⟩⟩
theorem main_1_1 : Claimed_1_1 := comes_1 fun _ _ _ _ _ _ h hF => ⟨h.1, hF⟩
theorem main_1_2 : Claimed_1_2 := comes_1 fun _ _ _ _ _ _ h hF => ⟨h.2.1, hF⟩
end Jvm.Pilot.@@N@@
namespace Jvm.Pilot.@@N@@
open Jvm Jvm.ClassFile Sem Op Lib Jvm.Free Jvm.Stand Jvm.Pilot.@@N@@.Jvm.D
/-! MADE BY PROGRAM (witnessworld.py) out of the Statement's table words and the real class files: 9 classes; the members and pool entries that the words name. The judged class is class 1, her method 4. -/
namespace start1
open Jvm.ClassFile
def u (s : String) : CpInfo := .utf8 (stringToUtf16 s)
/-- a pool by its gaps: so many unusable entries, then the entry; so many at the end -/
def gap : Nat → List CpInfo → List CpInfo
  | 0, r => r
  | n + 1, r => .unusable :: gap n r
def poolList (es : List (Nat × CpInfo)) (last : Nat) : List CpInfo := es.foldr (fun e r => gap e.1 (e.2 :: r)) (gap last [])
def pool (es : List (Nat × CpInfo)) (last : Nat) : Array CpInfo := ⟨poolList es last⟩
def fileOf (pool : Array CpInfo) (this : Nat) (attrs : Array Attribute := #[]) (ms : Array MethodInfo := #[]) (fl : Nat := 33) (sup : Nat := 0) (ifs : Array Nat := #[]) (fds : Array FieldInfo := #[]) : ClassFile where
  minorVersion := 0
  majorVersion := 65
  constantPool := pool
  accessFlags := fl
  thisClass := this
  superClass := sup
  interfaces := ifs
  fields := fds
  methods := ms
  attributes := attrs
def plain (name : String) (sup : Option ClassId) : Class where
  name := name
  kind := .ordinary
  loader := none
  accessFlags := 33
  super := sup
  interfaces := #[]
  cf := none
  fields := #[]
  methods := #[]
  instanceTypes := #[]
  staticTypes := #[]
  resolved := #[]
  callSites := []
  init := .initialized
  statics := none
  mirror := none

def pool0 : Array CpInfo := pool [(5, u "<init>"), (0, u "()V"), (1, .class_ 10), (1, u "java/lang/Object")] 113

def k0c0 : Code := { maxStack := 0, maxLocals := 1, code := object_method_1_code, exceptionTable := #[], attributes := #[] }
def k0m0 : Method := { name := "<init>", desc := "()V", sig := { parameters := [], returnType := none }, accessFlags := 1, code := some k0c0 }
/-- java/lang/Object -/
def k0 : Class := { plain "java/lang/Object" none with
  accessFlags := 33
  interfaces := #[]
  cf := some (fileOf pool0 8 #[] #[{ accessFlags := 1, nameIndex := 5, descriptorIndex := 6, attributes := #[] }] 33 0 #[] #[])
  fields := #[]
  methods := #[k0m0]
  instanceTypes := #[]
  staticTypes := #[]
  resolved := Array.replicate 124 none
  statics := none }

def pool1 : Array CpInfo := pool [(2, .class_ 4), (1, u "java/lang/Object"), (0, u "<init>"), (0, u "()V"), (0, .methodref 8 9), (0, .class_ 10), (0, .nameAndType 11 12), (0, u "com/example/prune/prune/mdp/ListsPlacePinLaw"), (0, u "cnt"), (0, u "(IIII)I"), (0, .methodref 8 14), (0, .nameAndType 15 12), (0, u "first"), (0, .class_ 17), (0, u "com/example/prune/prune/mdp/Lists"), (0, .methodref 16 19), (0, .nameAndType 5 20), (0, u "(I)V"), (0, .methodref 16 22), (0, .nameAndType 23 20), (0, u "count"), (0, .methodref 16 25), (0, .nameAndType 26 6), (0, u "place"), (0, .methodref 16 28), (0, .nameAndType 29 30), (0, u "start"), (0, u "(I)I"), (0, .methodref 8 32), (0, .nameAndType 33 12), (0, u "refStart"), (0, .methodref 16 35), (0, .nameAndType 36 37), (0, u "add"), (0, u "(II)V"), (0, .methodref 16 39), (0, .nameAndType 40 30), (0, u "end"), (3, u "law"), (0, u "(II)Z")] 2

def k1m0 : Method := { name := "<init>", desc := "()V", sig := { parameters := [], returnType := none }, accessFlags := 1, code := none }
def k1c1 : Code := { maxStack := 3, maxLocals := 4, code := method_2_code, exceptionTable := #[], attributes := #[] }
def k1m1 : Method := { name := "cnt", desc := "(IIII)I", sig := { parameters := [.int, .int, .int, .int], returnType := some .int }, accessFlags := 10, code := some k1c1 }
def k1c2 : Code := { maxStack := 2, maxLocals := 4, code := method_3_code, exceptionTable := #[], attributes := #[] }
def k1m2 : Method := { name := "first", desc := "(IIII)I", sig := { parameters := [.int, .int, .int, .int], returnType := some .int }, accessFlags := 10, code := some k1c2 }
def k1c3 : Code := { maxStack := 4, maxLocals := 8, code := method_4_code, exceptionTable := #[], attributes := #[] }
def k1m3 : Method := { name := "refStart", desc := "(IIII)I", sig := { parameters := [.int, .int, .int, .int], returnType := some .int }, accessFlags := 10, code := some k1c3 }
def k1c4 : Code := { maxStack := 6, maxLocals := 12, code := code, exceptionTable := #[], attributes := #[] }
def k1m4 : Method := { name := "law", desc := "(II)Z", sig := { parameters := [.int, .int], returnType := some .boolean }, accessFlags := 9, code := some k1c4 }
/-- com/example/prune/prune/mdp/ListsPlacePinLaw -/
def k1 : Class := { plain "com/example/prune/prune/mdp/ListsPlacePinLaw" (some 0) with
  accessFlags := 49
  interfaces := #[]
  cf := some (fileOf pool1 8 #[] #[{ accessFlags := 1, nameIndex := 5, descriptorIndex := 6, attributes := #[] }, { accessFlags := 10, nameIndex := 11, descriptorIndex := 12, attributes := #[] }, { accessFlags := 10, nameIndex := 15, descriptorIndex := 12, attributes := #[] }, { accessFlags := 10, nameIndex := 33, descriptorIndex := 12, attributes := #[] }, { accessFlags := 9, nameIndex := 44, descriptorIndex := 45, attributes := #[] }] 49 2 #[] #[])
  fields := #[]
  methods := #[k1m0, k1m1, k1m2, k1m3, k1m4]
  instanceTypes := #[]
  staticTypes := #[]
  resolved := Array.replicate 48 none
  statics := none }

def pool2 : Array CpInfo := pool [(1, .methodref 2 3), (0, .class_ 4), (0, .nameAndType 5 6), (0, u "java/lang/Object"), (0, u "<init>"), (0, u "()V"), (0, .fieldref 8 9), (0, .class_ 10), (0, .nameAndType 11 12), (0, u "com/example/prune/prune/mdp/Lists"), (0, u "items"), (0, u "[I"), (0, .fieldref 8 14), (0, .nameAndType 15 12), (0, u "starts"), (0, .fieldref 8 17), (0, .nameAndType 18 12), (0, u "ends"), (0, .fieldref 8 20), (0, .nameAndType 21 12), (0, u "counted"), (0, .fieldref 8 23), (0, .nameAndType 24 25), (0, u "keys"), (0, u "I"), (0, u "(I)V"), (4, u "count"), (0, u "place"), (1, u "add"), (0, u "(II)V"), (0, u "start"), (0, u "(I)I"), (0, u "end")] 3

def k2c0 : Code := { maxStack := 2, maxLocals := 2, code := prog_50_method_1_code, exceptionTable := #[], attributes := #[] }
def k2m0 : Method := { name := "<init>", desc := "(I)V", sig := { parameters := [.int], returnType := none }, accessFlags := 0, code := some k2c0 }
def k2c1 : Code := { maxStack := 5, maxLocals := 2, code := prog_50_method_3_code, exceptionTable := #[], attributes := #[] }
def k2m1 : Method := { name := "count", desc := "(I)V", sig := { parameters := [.int], returnType := none }, accessFlags := 0, code := some k2c1 }
def k2c2 : Code := { maxStack := 4, maxLocals := 4, code := prog_50_method_4_code, exceptionTable := #[], attributes := #[] }
def k2m2 : Method := { name := "place", desc := "()V", sig := { parameters := [], returnType := none }, accessFlags := 0, code := some k2c2 }
def k2c3 : Code := { maxStack := 6, maxLocals := 3, code := prog_50_method_5_code, exceptionTable := #[], attributes := #[] }
def k2m3 : Method := { name := "add", desc := "(II)V", sig := { parameters := [.int, .int], returnType := none }, accessFlags := 0, code := some k2c3 }
def k2c4 : Code := { maxStack := 2, maxLocals := 2, code := prog_50_method_6_code, exceptionTable := #[], attributes := #[] }
def k2m4 : Method := { name := "start", desc := "(I)I", sig := { parameters := [.int], returnType := some .int }, accessFlags := 0, code := some k2c4 }
def k2c5 : Code := { maxStack := 2, maxLocals := 2, code := prog_50_method_7_code, exceptionTable := #[], attributes := #[] }
def k2m5 : Method := { name := "end", desc := "(I)I", sig := { parameters := [.int], returnType := some .int }, accessFlags := 0, code := some k2c5 }
/-- com/example/prune/prune/mdp/Lists -/
def k2 : Class := { plain "com/example/prune/prune/mdp/Lists" (some 0) with
  accessFlags := 48
  interfaces := #[]
  cf := some (fileOf pool2 8 #[] #[{ accessFlags := 0, nameIndex := 5, descriptorIndex := 26, attributes := #[] }, { accessFlags := 0, nameIndex := 31, descriptorIndex := 26, attributes := #[] }, { accessFlags := 0, nameIndex := 32, descriptorIndex := 6, attributes := #[] }, { accessFlags := 0, nameIndex := 34, descriptorIndex := 35, attributes := #[] }, { accessFlags := 0, nameIndex := 36, descriptorIndex := 37, attributes := #[] }, { accessFlags := 0, nameIndex := 38, descriptorIndex := 37, attributes := #[] }] 48 2 #[] #[{ accessFlags := 18, nameIndex := 15, descriptorIndex := 12, attributes := #[] }, { accessFlags := 18, nameIndex := 18, descriptorIndex := 12, attributes := #[] }, { accessFlags := 18, nameIndex := 21, descriptorIndex := 12, attributes := #[] }, { accessFlags := 2, nameIndex := 24, descriptorIndex := 25, attributes := #[] }, { accessFlags := 2, nameIndex := 11, descriptorIndex := 12, attributes := #[] }])
  fields := #[{ name := "starts", type := (.array .int), accessFlags := 18, slot := 0, constantValue := 0 }, { name := "ends", type := (.array .int), accessFlags := 18, slot := 1, constantValue := 0 }, { name := "counted", type := (.array .int), accessFlags := 18, slot := 2, constantValue := 0 }, { name := "keys", type := .int, accessFlags := 2, slot := 3, constantValue := 0 }, { name := "items", type := (.array .int), accessFlags := 2, slot := 4, constantValue := 0 }]
  methods := #[k2m0, k2m1, k2m2, k2m3, k2m4, k2m5]
  instanceTypes := #[(.array .int), (.array .int), (.array .int), .int, (.array .int)]
  staticTypes := #[]
  resolved := Array.replicate 42 none
  statics := none }

def pool3 : Array CpInfo := pool [(1, u "java/lang/Cloneable"), (0, .class_ 1), (0, u "java/lang/Object"), (0, .class_ 3)] 3

/-- java/lang/Cloneable -/
def k3 : Class := { plain "java/lang/Cloneable" (some 0) with
  accessFlags := 1537
  interfaces := #[]
  cf := some (fileOf pool3 2 #[] #[] 1537 4 #[] #[])
  fields := #[]
  methods := #[]
  instanceTypes := #[]
  staticTypes := #[]
  resolved := Array.replicate 8 none
  statics := none }

def pool4 : Array CpInfo := pool [(1, u "java/io/Serializable"), (0, .class_ 1), (0, u "java/lang/Object"), (0, .class_ 3)] 3

/-- java/io/Serializable -/
def k4 : Class := { plain "java/io/Serializable" (some 0) with
  accessFlags := 1537
  interfaces := #[]
  cf := some (fileOf pool4 2 #[] #[] 1537 4 #[] #[])
  fields := #[]
  methods := #[]
  instanceTypes := #[]
  staticTypes := #[]
  resolved := Array.replicate 8 none
  statics := none }

/-- the primitive byte -/
def k5 : Class := { plain "byte" none with kind := .primitive 'B', accessFlags := 0x411 }
/-- [B -/
def k6 : Class := { plain "[B" (some 0) with kind := .array 5 .byte, interfaces := #[3, 4], accessFlags := 1041 }

/-- the primitive int -/
def k7 : Class := { plain "int" none with kind := .primitive 'I', accessFlags := 0x411 }
/-- [I -/
def k8 : Class := { plain "[I" (some 0) with kind := .array 7 .int, interfaces := #[3, 4], accessFlags := 1041 }

def heap : Heap := #[]
def classes : Array Class := #[k0, k1, k2, k3, k4, k5, k6, k7, k8]
def interned : List (Array UInt16 × Addr) := []
def slotsUsed : Nat := 0
def theMethod : MethodId := ⟨1, 4⟩
def args0 : Array Value := #[.int 5, .int 7]
def aboutOver (below : List Frame) : State where
  vm := { classes := classes, interned := interned.toArray }
  heap := heap
  slotsUsed := slotsUsed
  threads := #[{ frames := .invoking theMethod args0 :: below }]
def below0 : List Frame := [.native { method := ⟨0, 0⟩, args := #[] }]
def about1 : State := aboutOver below0
def p0 : Program := .bare "" "" ""
def e0 : Env := launch0.env 0 0 0
theorem w_frames : about1.frames = Frame.invoking theMethod args0 :: below0 := rfl
set_option maxRecDepth 65536 in
theorem w_args : argsFit about1.vm theMethod args0 = true := by decide +kernel
set_option maxRecDepth 65536 in
theorem w_heap : heapFits about1 = true := by decide +kernel
set_option maxRecDepth 65536 in
theorem w_runnable : about1.curStatus? = some .runnable := by decide +kernel
set_option maxRecDepth 65536 in
theorem w_alone : about1.alone = true := by decide +kernel
set_option maxRecDepth 65536 in
theorem w_named : about1.methodNamed? x = some theMethod := by decide +kernel
set_option maxRecDepth 65536 in
theorem w_hears : about1.hears theMethod below0 = true := by decide +kernel
set_option maxRecDepth 65536 in
theorem w_ripe : about1.ripe theMethod args0 below0 = true := by decide +kernel
theorem w_running : about1.status = .running := rfl
set_option maxRecDepth 65536 in
theorem w_room : about1.hasRoom e0.platform room_1 = true :=
  launch0.hasRoom_least _ room_1 (by decide +kernel) (by decide +kernel) (by decide +kernel) (by decide +kernel) (by decide +kernel) (by decide +kernel)
theorem allAtoms_all (ts : List Jvm.Cond) (a : Array Jvm.Value) (st : Jvm.State) : (allAtoms ts).before a st = ts.all (fun c => c.before a st) := by
  induction ts with
  | nil => rfl
  | cons c t ih =>
    show (Jvm.Cond.and c (allAtoms t)).before a st = _
    rw [Jvm.Cond.before_and, ih, List.all_cons]
def words1 : List Jvm.Cond := Jvm.Cond.code x code maxLocals ret :: tables_1
/-- a 'code' word, met by the world's own term for the bytes: nothing is compared byte by byte -/
theorem code_word {y : MethodName} {bytes : ByteArray} {mx : Nat} {rt : Option FieldType} {a : Array Value} {s : State} {m : MethodId} {meth : Method} {c : Code} (h1 : s.methodNamed? y = some m) (h2 : s.vm.method? m = some meth) (h3 : meth.code = some c) (h4 : c.code = bytes)
    (h5 : (c.maxLocals == mx && c.exceptionTable.isEmpty && decide (c.maxStack ≤ mostOperands) && decide (meth.sig.returnType = rt) && !meth.locks && decide (parseMethodDescriptor y.desc = some meth.sig)) = true) : (Jvm.Cond.code y bytes mx rt).before a s = true := by
  simp only [Bool.and_eq_true, beq_iff_eq, Bool.not_eq_true', decide_eq_true_eq] at h5
  obtain ⟨⟨⟨⟨⟨g1, g2⟩, g3⟩, g4⟩, g5⟩, g6⟩ := h5
  simp [Cond.before, Cond.holds, Cond.value, h1, h2, h3, h4, g1, g2, g3, g4, g5, g6]
def isCode : Jvm.Cond → Bool
  | .code _ _ _ _ => true
  | _ => false
theorem all_split {L : List Jvm.Cond} {P : Jvm.Cond → Bool} (h1 : L.all (fun c => isCode c || P c) = true) (h2 : ∀ c ∈ L.filter isCode, P c = true) : L.all P = true := by
  refine List.all_eq_true.mpr fun c hc => ?_
  have h := List.all_eq_true.mp h1 c hc
  rcases Bool.eq_false_or_eq_true (isCode c) with hi | hi
  · exact h2 c (List.mem_filter.mpr ⟨hc, hi⟩)
  · simpa [hi] using h
set_option maxRecDepth 65536 in
theorem w_c0 : (Jvm.Cond.code x code maxLocals ret).before args0 about1 = true := code_word (m := ⟨1, 4⟩) (meth := k1m4) (c := k1c4) (by decide +kernel) rfl rfl rfl (by decide +kernel)
set_option maxRecDepth 65536 in
theorem w_c1 : (Jvm.Cond.code ({ cls := "com/example/prune/prune/mdp/Lists", name := "<init>", desc := "(I)V" } : Jvm.MethodName) prog_50_method_1_code (2 : Nat) (Option.none : Option Jvm.ClassFile.FieldType)).before args0 about1 = true := code_word (m := ⟨2, 0⟩) (meth := k2m0) (c := k2c0) (by decide +kernel) rfl rfl rfl (by decide +kernel)
set_option maxRecDepth 65536 in
theorem w_c2 : (Jvm.Cond.code ({ cls := "java/lang/Object", name := "<init>", desc := "()V" } : Jvm.MethodName) object_method_1_code (1 : Nat) (Option.none : Option Jvm.ClassFile.FieldType)).before args0 about1 = true := code_word (m := ⟨0, 0⟩) (meth := k0m0) (c := k0c0) (by decide +kernel) rfl rfl rfl (by decide +kernel)
set_option maxRecDepth 65536 in
theorem w_c3 : (Jvm.Cond.code ({ cls := "com/example/prune/prune/mdp/Lists", name := "count", desc := "(I)V" } : Jvm.MethodName) prog_50_method_3_code (2 : Nat) (Option.none : Option Jvm.ClassFile.FieldType)).before args0 about1 = true := code_word (m := ⟨2, 1⟩) (meth := k2m1) (c := k2c1) (by decide +kernel) rfl rfl rfl (by decide +kernel)
set_option maxRecDepth 65536 in
theorem w_c4 : (Jvm.Cond.code ({ cls := "com/example/prune/prune/mdp/Lists", name := "place", desc := "()V" } : Jvm.MethodName) prog_50_method_4_code (4 : Nat) (Option.none : Option Jvm.ClassFile.FieldType)).before args0 about1 = true := code_word (m := ⟨2, 2⟩) (meth := k2m2) (c := k2c2) (by decide +kernel) rfl rfl rfl (by decide +kernel)
set_option maxRecDepth 65536 in
theorem w_c5 : (Jvm.Cond.code ({ cls := "com/example/prune/prune/mdp/Lists", name := "start", desc := "(I)I" } : Jvm.MethodName) prog_50_method_6_code (2 : Nat) (Option.some Jvm.ClassFile.FieldType.int)).before args0 about1 = true := code_word (m := ⟨2, 4⟩) (meth := k2m4) (c := k2c4) (by decide +kernel) rfl rfl rfl (by decide +kernel)
set_option maxRecDepth 65536 in
theorem w_c6 : (Jvm.Cond.code ({ cls := "com/example/prune/prune/mdp/ListsPlacePinLaw", name := "refStart", desc := "(IIII)I" } : Jvm.MethodName) method_4_code (8 : Nat) (Option.some Jvm.ClassFile.FieldType.int)).before args0 about1 = true := code_word (m := ⟨1, 3⟩) (meth := k1m3) (c := k1c3) (by decide +kernel) rfl rfl rfl (by decide +kernel)
set_option maxRecDepth 65536 in
theorem w_c7 : (Jvm.Cond.code ({ cls := "com/example/prune/prune/mdp/ListsPlacePinLaw", name := "cnt", desc := "(IIII)I" } : Jvm.MethodName) method_2_code (4 : Nat) (Option.some Jvm.ClassFile.FieldType.int)).before args0 about1 = true := code_word (m := ⟨1, 1⟩) (meth := k1m1) (c := k1c1) (by decide +kernel) rfl rfl rfl (by decide +kernel)
set_option maxRecDepth 65536 in
theorem w_c8 : (Jvm.Cond.code ({ cls := "com/example/prune/prune/mdp/ListsPlacePinLaw", name := "first", desc := "(IIII)I" } : Jvm.MethodName) method_3_code (4 : Nat) (Option.some Jvm.ClassFile.FieldType.int)).before args0 about1 = true := code_word (m := ⟨1, 2⟩) (meth := k1m2) (c := k1c2) (by decide +kernel) rfl rfl rfl (by decide +kernel)
set_option maxRecDepth 65536 in
theorem w_c9 : (Jvm.Cond.code ({ cls := "com/example/prune/prune/mdp/Lists", name := "add", desc := "(II)V" } : Jvm.MethodName) prog_50_method_5_code (3 : Nat) (Option.none : Option Jvm.ClassFile.FieldType)).before args0 about1 = true := code_word (m := ⟨2, 3⟩) (meth := k2m3) (c := k2c3) (by decide +kernel) rfl rfl rfl (by decide +kernel)
set_option maxRecDepth 65536 in
theorem w_c10 : (Jvm.Cond.code ({ cls := "com/example/prune/prune/mdp/Lists", name := "end", desc := "(I)I" } : Jvm.MethodName) prog_50_method_7_code (2 : Nat) (Option.some Jvm.ClassFile.FieldType.int)).before args0 about1 = true := code_word (m := ⟨2, 5⟩) (meth := k2m5) (c := k2c5) (by decide +kernel) rfl rfl rfl (by decide +kernel)
def codes1 : List Jvm.Cond := [Jvm.Cond.code x code maxLocals ret, Jvm.Cond.code ({ cls := "com/example/prune/prune/mdp/Lists", name := "<init>", desc := "(I)V" } : Jvm.MethodName) prog_50_method_1_code (2 : Nat) (Option.none : Option Jvm.ClassFile.FieldType), Jvm.Cond.code ({ cls := "java/lang/Object", name := "<init>", desc := "()V" } : Jvm.MethodName) object_method_1_code (1 : Nat) (Option.none : Option Jvm.ClassFile.FieldType), Jvm.Cond.code ({ cls := "com/example/prune/prune/mdp/Lists", name := "count", desc := "(I)V" } : Jvm.MethodName) prog_50_method_3_code (2 : Nat) (Option.none : Option Jvm.ClassFile.FieldType), Jvm.Cond.code ({ cls := "com/example/prune/prune/mdp/Lists", name := "place", desc := "()V" } : Jvm.MethodName) prog_50_method_4_code (4 : Nat) (Option.none : Option Jvm.ClassFile.FieldType), Jvm.Cond.code ({ cls := "com/example/prune/prune/mdp/Lists", name := "start", desc := "(I)I" } : Jvm.MethodName) prog_50_method_6_code (2 : Nat) (Option.some Jvm.ClassFile.FieldType.int), Jvm.Cond.code ({ cls := "com/example/prune/prune/mdp/ListsPlacePinLaw", name := "refStart", desc := "(IIII)I" } : Jvm.MethodName) method_4_code (8 : Nat) (Option.some Jvm.ClassFile.FieldType.int), Jvm.Cond.code ({ cls := "com/example/prune/prune/mdp/ListsPlacePinLaw", name := "cnt", desc := "(IIII)I" } : Jvm.MethodName) method_2_code (4 : Nat) (Option.some Jvm.ClassFile.FieldType.int), Jvm.Cond.code ({ cls := "com/example/prune/prune/mdp/ListsPlacePinLaw", name := "first", desc := "(IIII)I" } : Jvm.MethodName) method_3_code (4 : Nat) (Option.some Jvm.ClassFile.FieldType.int), Jvm.Cond.code ({ cls := "com/example/prune/prune/mdp/Lists", name := "add", desc := "(II)V" } : Jvm.MethodName) prog_50_method_5_code (3 : Nat) (Option.none : Option Jvm.ClassFile.FieldType), Jvm.Cond.code ({ cls := "com/example/prune/prune/mdp/Lists", name := "end", desc := "(I)I" } : Jvm.MethodName) prog_50_method_7_code (2 : Nat) (Option.some Jvm.ClassFile.FieldType.int)]
set_option maxRecDepth 65536 in
theorem codes_eq : words1.filter isCode = codes1 := rfl
theorem w_codes : ∀ c ∈ words1.filter isCode, c.before args0 about1 = true := by
  rw [codes_eq]
  intro c hc
  simp only [codes1, List.mem_cons, List.not_mem_nil, or_false] at hc
  rcases hc with rfl | rfl | rfl | rfl | rfl | rfl | rfl | rfl | rfl | rfl | rfl
  · exact w_c0
  · exact w_c1
  · exact w_c2
  · exact w_c3
  · exact w_c4
  · exact w_c5
  · exact w_c6
  · exact w_c7
  · exact w_c8
  · exact w_c9
  · exact w_c10
set_option maxRecDepth 65536 in
theorem w_t1 : (words1.take 24).all (fun c => isCode c || c.before args0 about1) = true := by decide +kernel
set_option maxRecDepth 65536 in
theorem w_t2 : ((words1.drop 24).take 24).all (fun c => isCode c || c.before args0 about1) = true := by decide +kernel
set_option maxRecDepth 65536 in
theorem w_t3 : ((words1.drop 24).drop 24).all (fun c => isCode c || c.before args0 about1) = true := by decide +kernel
theorem w_tables : (allAtoms (Jvm.Cond.code x code maxLocals ret :: tables_1)).before args0 about1 = true := by
  rw [allAtoms_all]
  show words1.all (fun c => c.before args0 about1) = true
  refine all_split ?_ w_codes
  rw [← List.take_append_drop 24 words1, List.all_append, w_t1, ← List.take_append_drop 24 (words1.drop 24), List.all_append, w_t2, w_t3]
  rfl
set_option maxRecDepth 65536 in
theorem w_case : (Jvm.Cond.and given_1 narrow_1).before args0 about1 = true := by decide +kernel
theorem w_applies : (headSpec (Jvm.Cond.code x code maxLocals ret :: tables_1) room_1).applies x e0.platform about1 = true :=
  (Spec.applies_iff w_frames).mpr ⟨w_running, w_runnable, w_alone, w_named, w_hears, w_ripe, w_room, w_tables⟩
theorem atStart : AtStart classFile x code maxLocals ret World_1 tables_1 room_1 Calls_1 rest_1 Pre_1 launch0 p0 e0 about1 theMethod args0 below0 :=
  ⟨lists_1, trivial, launch0.admits_env _ _ _, launch0.least_env, fairChoices_fair.cas, fairChoices_fair.clock, w_frames, w_args, w_heap, w_applies, trivial, trivial, w_case⟩
end start1
theorem witness_1 : WitnessClaimed_1 := ⟨start1.p0, start1.e0, start1.about1, start1.theMethod, start1.args0, start1.below0, start1.atStart⟩
end Jvm.Pilot.@@N@@
