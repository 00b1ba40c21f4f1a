import JvmDerived
import JvmDerived.Pilot.@@N@@Statement
import JvmDerived.Pilot.@@N@@Code
set_option linter.unusedVariables false
set_option linter.unusedSimpArgs false
namespace Jvm.RoadKit
open Sem ClassFile Op Lib Jvm.Stand Jvm.Free Jvm.LawKit
section New
variable {p : Program} {l : Launch} {e : Env} {R : Room} {s : State} {m : MethodId} {args : Array Value} {below : List Frame} {meth : Method} {c : Code} {T : State} {locs : List Loc} {cells slots : Nat}
theorem own_retI (X : Stand p l e R s m args below meth c T locs cells slots) (hx : p.tables.exec = Jvm.exec) {pc : Nat} {Ls : Array Slot} {z : Int32} {rest : List Value} (hret : meth.sig.returnType = some .int) (hd : decode c.code pc = .ok (.ireturn, 1)) {fs : List Frame}
    (hl : ∀ (f : JFrame) (acts : List Action), f.method = m → f.locked = none → f.entered = [] → (doReturn e (T.setTop f) acts (some (.int z))).1 = T.setFrames fs) : Steps p.tables e below (T.setTop (mkF m pc Ls (.int z :: rest))) (T.setFrames fs) :=
  retOut X hx hret rfl (Or.inl ⟨rfl, Or.inl rfl, z, rfl⟩) hd hl
theorem own_start {S S0 : State} {P : State → Outcome → Prop} (pre : ∀ t, Steps p.tables e below S t → Steps p.tables e below S0 t)
    (k : ∀ G : State → Prop, (∀ {U U' : State}, (∀ t, Steps p.tables e below U' t → Steps p.tables e below U t) → G U' → G U) → (∀ U, (∃ s₂ o, Steps p.tables e below U s₂ ∧ P s₂ o) → G U) → G S) :
    ∃ s₂ o, Steps p.tables e below S0 s₂ ∧ P s₂ o := by
  obtain ⟨t, o, h1, h2⟩ := k (fun U => ∃ s₂ o, Steps p.tables e below U s₂ ∧ P s₂ o) (fun f ⟨t, o, h1, h2⟩ => ⟨t, o, f t h1, h2⟩) (fun _ h => h)
  exact ⟨t, o, pre t h1, h2⟩
theorem own_lsw {g : JFrame} {target : State} (X : Stand p l e R s m args below meth c T locs cells slots) (hx : p.tables.exec = Jvm.exec) (hg : g.method = m) {dflt : Int} {ps : Array (Int × Int)} {len : Nat} {pc0 pc' : Nat} (hpc : g.pc = pc0) (hd : decode c.code g.pc = .ok (.lookupswitch dflt ps, len)) {i : Int32} {rest : List Value} (hs : g.stack = .int i :: rest)
    (hsort : (ps.toList.zip ps.toList.tail).all (fun q => decide (q.1.1 < q.2.1)) = true) {o : Int} (hoff : lookupswitch.offset ps.toList dflt i.toInt = o) (ho : 0 ≤ (pc0 : Int) + o) (hp : ((pc0 : Int) + o).toNat = pc') (hr : Steps p.tables e below (T.setTop { g with pc := pc', stack := rest }) target) : Steps p.tables e below (T.setTop g) target := by
  subst hg hpc hp hoff
  jvm_step X.here [X.here.top, hx, hd, hs, ho, lookupswitch.wp_chain]
  exact ⟨fun a b a1 b1 hm => by simpa using List.all_eq_true.mp hsort _ hm, hr⟩
theorem own_lt {a b : Int32} (h : a < b) : a.toInt < b.toInt := Int32.lt_iff_toInt_lt.mp h
theorem own_nlt {a b : Int32} (h : ¬ a < b) : b.toInt ≤ a.toInt := Int.not_lt.mp fun q => h (Int32.lt_iff_toInt_lt.mpr q)
theorem own_miss {a o : Int} {r : List (Int × Int)} {d k : Int} (h : a ≠ k) : lookupswitch.offset ((a, o) :: r) d k = lookupswitch.offset r d k := by rw [lookupswitch.offset_cons, if_neg h]
theorem own_nek {x K : Int32} {k : Int} (h : ¬ x = K) (e : K.toInt = k) : k ≠ x.toInt := fun q => h (Int32.toInt_inj.mp (q.symm.trans e.symm))
theorem own_sta_keep {Z : State} {h h' : Heap} {C n d : String} {v : Value} (F : Sta Z h C n d v) (K : Keep h h' []) : Sta Z h' C n d v := by
  obtain ⟨cf, i, k, f, st, cell, h1, h2, h3, h4, h5, r⟩ := F; exact ⟨cf, i, k, f, st, cell, h1, h2, h3, h4, K.2.1 _ _ h5 nin0, r⟩
theorem own_sta_keepE {Z : State} {h h' : Heap} {C n d D : String} {v : Value} {a : Addr} (F : Sta Z h C n d v) (K : Keep h h' [a]) (E : Exa Z h a D) : Sta Z h' C n d v := by
  obtain ⟨cf, i, k, f, st, cell, h1, h2, h3, h4, h5, h6, r⟩ := F
  obtain ⟨c2, k2, q1, -, -, q4, -⟩ := E
  refine ⟨cf, i, k, f, st, cell, h1, h2, h3, h4, K.2.1 _ _ h5 (ninS (fun z => ?_) nin0), h6, r⟩
  subst z; cases q1.symm.trans h5; rw [q4] at h6; cases h6
theorem own_arvset {Z : State} {h h' : Heap} {a : Addr} {c : Cell} {ty : FieldType} {k : ClassId} {z j : Int32} {vs : List Value} {dv v : Value} {N : Nat} (A : Arr Z h a c ty) (q1 : c.cls = k) (S : c.slots.size = z.toNatClampNeg) (q3 : ¬ z < 0) (H : Has c vs dv) (F : ∀ i, i < c.slots.size → fits ty (vs.getD i dv) = true) (hv : fits ty v = true) (W : Wr h h' a j.toNatClampNeg v) (i : Nat) (hj : j.toNatClampNeg = i) (hl : vs.length = N) (hi : i < N) :
    ∃ vs', vs'.length = N ∧ Arv Z h' a k ty z vs' dv := ⟨_, by rw [List.length_set]; exact hl, Arv.set A q1 S q3 H F hv W i hj (by rw [hl]; exact hi)⟩
end New
end Jvm.RoadKit
namespace Jvm.Pilot.@@N@@
open Jvm Jvm.ClassFile Sem Op Lib Jvm.Free Jvm.Stand Jvm.LawKit Jvm.RoadKit Bundle Jvm.Pilot.@@N@@.Jvm.D
theorem own_ddiv {w d : Int} {a b : UInt64} (ha : FP.Core.DInt (w * d) a) (hb : FP.Core.DInt d b) (hd : 0 < d) (hw : w.natAbs ≤ 2 ^ 53) : FP.Core.DInt w (FP.Core.ddiv a b) := by
  unfold FP.Core.DInt at *
  rw [FP.Core.val64_ddiv]
  cases hx : FP.Core.val64 a with
  | nan => rw [hx] at ha; exact ha.elim
  | inf => rw [hx] at ha; exact ha.elim
  | fin s c q =>
  cases hy : FP.Core.val64 b with
  | nan => rw [hy] at hb; exact hb.elim
  | inf => rw [hy] at hb; exact hb.elim
  | fin t e r =>
    rw [hx] at ha
    rw [hy] at hb
    have h1 := FP.Core.whole_natAbs ha
    have h2 := FP.Core.whole_natAbs hb
    have he : 0 < e := by
      rcases Nat.eq_zero_or_pos e with h0 | h0
      · rw [h0, Nat.zero_mul] at h2
        have p2 := Nat.two_pow_pos (-r).toNat
        have : d.natAbs = 0 := by
          rcases Nat.mul_eq_zero.mp h2.symm with h | h
          · exact h
          · omega
        omega
      · exact h0
    have hst : FP.Core.Whole w (.fin (s != t) w.natAbs 0) := by
      show FP.Core.signed (s != t) (w.natAbs * 2 ^ (0 : Int).toNat) = w * ((2 ^ (-(0 : Int)).toNat : Nat) : Int)
      have ht : t = false := by
        have := FP.Core.whole_sign hb (by omega)
        rw [this]; simp; omega
      by_cases w0 : w = 0
      · subst w0
        cases s <;> cases t <;> simp [FP.Core.signed]
      · have hs := FP.Core.whole_sign ha (Int.mul_ne_zero w0 (by omega))
        have hlt : (w * d < 0) ↔ w < 0 := by
          constructor
          · intro h
            apply Classical.byContradiction
            intro hn
            have := Int.mul_nonneg (show 0 ≤ w by omega) (show 0 ≤ d by omega)
            omega
          · intro h
            exact Int.mul_neg_of_neg_of_pos h hd
        rw [hs, ht]
        unfold FP.Core.signed
        by_cases hn : w < 0
        · simp [hlt, hn]; omega
        · simp [hlt, hn]; omega
    show FP.Core.Whole w (FP.Core.quotient FP.Core.b64 (.fin s c q) (.fin t e r))
    simp only [FP.Core.quotient]
    rw [if_neg (by omega)]
    have key : FP.Core.roundRatio FP.Core.b64 (s != t) c e (q - r) = FP.Core.roundRatio FP.Core.b64 (s != t) w.natAbs 1 0 := by
      refine FP.Core.roundRatio_congr he (by decide) ?_
      rw [Nat.mul_one, Int.sub_zero, show (0 : Int) - (q - r) = r - q by omega]
      -- c * 2^(q-r)+ = |w| * e * 2^(r-q)+
      rw [Int.natAbs_mul] at h1
      have hm : q.toNat + (-r).toNat + (r - q).toNat = r.toNat + (-q).toNat + (q - r).toNat := by omega
      have p := Nat.two_pow_pos (r.toNat + (-q).toNat)
      refine Nat.eq_of_mul_eq_mul_right p ?_
      have e1 : c * 2 ^ (q - r).toNat * 2 ^ (r.toNat + (-q).toNat) = c * 2 ^ (q.toNat + (-r).toNat + (r - q).toNat) := by
        rw [Nat.mul_assoc, ← Nat.pow_add, hm, Nat.add_comm]
      have e2 : c * 2 ^ (q.toNat + (-r).toNat + (r - q).toNat) = (c * 2 ^ q.toNat) * (2 ^ (-r).toNat * 2 ^ (r - q).toNat) := by
        rw [Nat.pow_add, Nat.pow_add]; ac_rfl
      have e3 : w.natAbs * e * 2 ^ (r - q).toNat * 2 ^ (r.toNat + (-q).toNat) = (e * 2 ^ r.toNat) * (w.natAbs * (2 ^ (-q).toNat * 2 ^ (r - q).toNat)) := by
        rw [Nat.pow_add]; ac_rfl
      rw [e1, e2, e3, h1, h2]
      ac_rfl
    rw [key]
    exact FP.Core.whole_round FP.Core.good_b64 FP.Core.wide_b64 hw hst
theorem own_nn {i : Int} {a : UInt64} (h : FP.Core.DInt i a) : Jvm.Free.Fl.NoNaN64 a := Jvm.Free.Fl.val64_no.mpr fun q => by
  unfold FP.Core.DInt at h
  rw [q] at h
  exact h.elim
theorem own_cmp {i : Int} {a b : UInt64} (ha : FP.Core.DInt i a) (hb : FP.Core.DInt i b) : cmpValue (FP.dcmp a b) .l = 0 := by
  have h : FP.dcmp a b = some (compare i i) := FP.Core.dcmp_int ha hb
  rw [h]
  simp [compare, compareOfLessAndEq, cmpValue]
theorem own_two : (4611686018427387904 : UInt64) = FP.l2d 2 := by decide +kernel
theorem own_one : FP.dconst1 = FP.l2d 1 := by decide +kernel
def own_S (s : Int64) : Prop := 0 ≤ s.toInt ∧ s.toInt ≤ 1023
theorem own_b53 {s : Int64} (h1 : -100000 ≤ s.toInt) (h2 : s.toInt ≤ 100000) : B53 s := ⟨by omega, by omega⟩
theorem own_i2 {s : Int64} (h : own_S s) : (2 * s).toInt = 2 * s.toInt := by
  have q := c_lmul 2 s
  have e : (2 : Int64).toInt = 2 := by decide
  rw [e] at q
  have := (2 * s).le_toInt; have := (2 * s).toInt_lt
  have := h.1; have := h.2
  omega
theorem own_i21 {s : Int64} (h : own_S s) : (2 * s + 1).toInt = 2 * s.toInt + 1 := by
  have := c_ladd (2 * s) 1
  have e : (1 : Int64).toInt = 1 := by decide
  have := own_i2 h
  have := (2 * s + 1).le_toInt; have := (2 * s + 1).toInt_lt
  have := h.1; have := h.2
  omega
theorem own_i211 {s : Int64} (h : own_S s) : (2 * s + 1 + 1).toInt = 2 * s.toInt + 2 := by
  have := c_ladd (2 * s + 1) 1
  have e : (1 : Int64).toInt = 1 := by decide
  have := own_i21 h
  have := (2 * s + 1 + 1).le_toInt; have := (2 * s + 1 + 1).toInt_lt
  have := h.1; have := h.2
  omega
theorem own_hs {s a : Int64} (h : own_S s) (ha : a = s >>> ((1 : Int32) &&& 0x3f).toInt64) : own_S a ∧ own_S (s - a) := by
  have e1 := c_lshr s 1 1 (by decide)
  rw [← ha] at e1
  have := c_lsub s a
  have := (s - a).le_toInt; have := (s - a).toInt_lt
  have := h.1; have := h.2
  unfold own_S
  omega
theorem own_a0 {s : Int64} (h : own_S s) : FP.dadd 0 (FP.l2d s) = FP.l2d s := by
  have e : (0 : UInt64) = FP.l2d 0 := l2d_zero.symm
  rw [e, dadd_w (own_b53 (by decide) (by decide)) (own_b53 (by have := h.1; omega) (by have := h.2; omega))]
  congr 1
  simp
theorem own_a1 {s a : Int64} (h : own_S s) (ha : own_S a) (hb : own_S (s - a)) : FP.dadd (FP.l2d a) (FP.l2d (s - a)) = FP.l2d s := by
  rw [dadd_w (own_b53 (by have := ha.1; omega) (by have := ha.2; omega)) (own_b53 (by have := hb.1; omega) (by have := hb.2; omega))]
  congr 1
  apply Int64.toBitVec_inj.mp
  simp only [Int64.toBitVec_add, Int64.toBitVec_sub]
  rw [BitVec.add_comm, BitVec.sub_add_cancel]
theorem own_m {s : Int64} (h : own_S s) : FP.dmul 4611686018427387904 (FP.l2d s) = FP.l2d (2 * s) := by
  rw [own_two]
  have e : (2 : Int64).toInt = 2 := by decide
  have h1 := h.1
  have h2 := h.2
  refine dmul_k (A := 2) (B := 1023) (by omega) (by omega) (by omega) (by omega) (by omega) (by omega) (by omega) ?_ ?_
  · rintro ⟨q, -⟩; exact absurd q (by decide)
  · rintro ⟨-, q⟩; exact absurd q (by decide)
theorem own_a2 {s : Int64} (h : own_S s) : FP.dadd (FP.l2d (2 * s)) FP.dconst1 = FP.l2d (2 * s + 1) := by
  have := own_i2 h
  have h1 := h.1
  have h2 := h.2
  rw [own_one, dadd_w (own_b53 (by omega) (by omega)) (own_b53 (by decide) (by decide))]
theorem own_th : ∀ n : Fin 1024, (FP.dadd (FP.l2d (Int64.ofNat n.val)) 4602678819172646912).toNat % 9223372036854775808 ≤ 9218868437227405312 ∧ FP.dadd 0 (FP.dadd (FP.l2d (Int64.ofNat n.val)) 4602678819172646912) = FP.dadd (FP.l2d (Int64.ofNat n.val)) 4602678819172646912 ∧ FP.dmul 4611686018427387904 (FP.dadd (FP.l2d (Int64.ofNat n.val)) 4602678819172646912) = FP.l2d (2 * Int64.ofNat n.val + 1) ∧ FP.dadd (FP.l2d (2 * Int64.ofNat n.val + 1)) FP.dconst1 = FP.l2d (2 * Int64.ofNat n.val + 1 + 1) := by decide +kernel
theorem own_fin {k : Int32} {s : Int64} (h : s = (k &&& (1023 : Int32)).toInt64) : own_S s ∧ ∃ n : Fin 1024, s = Int64.ofNat n.val := by
  have h1 := c_and k 1023 (by decide)
  have e : (1023 : Int32).toInt = 1023 := by decide
  have e2 : s.toInt = (k &&& 1023).toInt := by rw [h]; exact Int32.toInt_toInt64 _
  have hS : own_S s := ⟨by omega, by omega⟩
  refine ⟨hS, ⟨⟨s.toInt.toNat, by have := hS.1; have := hS.2; omega⟩, ?_⟩⟩
  apply Int64.toInt_inj.mp
  show s.toInt = (Int64.ofNat s.toInt.toNat).toInt
  have h3 := hS.1
  have h4 := hS.2
  rw [Int64.toInt_ofNat_of_lt (by omega)]
  omega
theorem own_t2 : FP.dmul 4611686018427387904 0 = 0 ∧ FP.dadd 0 FP.dconst1 = FP.l2d 1 := by decide +kernel
theorem own_mul {w : Int32} {D : Int64} (h1 : 0 < D.toInt) (h2 : D.toInt ≤ 2048) : FP.Core.DInt (w.toInt * D.toInt) (FP.l2d (w.toInt64 * D)) := by
  have q := c_lmul w.toInt64 D
  rw [c_i2l w] at q
  have hb : (w.toInt * D.toInt).natAbs ≤ 2147483648 * 2048 := by
    rw [Int.natAbs_mul]
    have := w.le_toInt
    have := w.toInt_lt
    exact Nat.mul_le_mul (by omega) (by omega)
  have := (w.toInt64 * D).le_toInt
  have := (w.toInt64 * D).toInt_lt
  generalize hP : w.toInt * D.toInt = P at *
  have e : (w.toInt64 * D).toInt = P := by omega
  rw [← e]
  exact FP.Core.l2d_int (by omega)
theorem own_DD {D : Int64} (h1 : 0 < D.toInt) (h2 : D.toInt ≤ 2048) : FP.Core.DInt D.toInt (FP.l2d D) := FP.Core.l2d_int (by omega)
theorem own_q {w : Int32} {D : Int64} {x : UInt64} (h1 : 0 < D.toInt) (h2 : D.toInt ≤ 2048) (hx : x = FP.l2d (w.toInt64 * D)) : FP.Core.DInt w.toInt (FP.ddiv x (FP.l2d D)) := by
  subst hx
  exact own_ddiv (own_mul h1 h2) (own_DD h1 h2) h1 (by have := w.le_toInt; have := w.toInt_lt; omega)
theorem own_q2 {w : Int32} {x : UInt64} (hx : x = FP.i2d w) : FP.Core.DInt w.toInt (FP.ddiv x (FP.l2d 1)) := by
  subst hx
  have h1 : (1 : Int64).toInt = 1 := by decide
  have a := FP.Core.i2d_int w
  refine own_ddiv (d := 1) (by rw [Int.mul_one]; exact a) ?_ (by decide) (by have := w.le_toInt; have := w.toInt_lt; omega)
  have := own_DD (D := 1) (by decide) (by decide)
  rw [h1] at this
  exact this

theorem d1_0 : decode prog_41_method_1_code 0 = .ok (.aload_n 0, 1) := by decide +kernel
theorem d1_1 : decode prog_41_method_1_code 1 = .ok (.invokespecial 1, 3) := by decide +kernel
theorem d1_4 : decode prog_41_method_1_code 4 = .ok (.aload_n 0, 1) := by decide +kernel
theorem d1_5 : decode prog_41_method_1_code 5 = .ok (.aload_n 1, 1) := by decide +kernel
theorem d1_6 : decode prog_41_method_1_code 6 = .ok (.invokevirtual 7, 3) := by decide +kernel
theorem d1_9 : decode prog_41_method_1_code 9 = .ok (.checkcast 8, 3) := by decide +kernel
theorem d1_12 : decode prog_41_method_1_code 12 = .ok (.putfield 13, 3) := by decide +kernel
theorem d1_15 : decode prog_41_method_1_code 15 = .ok (.aload_n 0, 1) := by decide +kernel
theorem d1_16 : decode prog_41_method_1_code 16 = .ok (.aload_n 2, 1) := by decide +kernel
theorem d1_17 : decode prog_41_method_1_code 17 = .ok (.invokevirtual 18, 3) := by decide +kernel
theorem d1_20 : decode prog_41_method_1_code 20 = .ok (.checkcast 19, 3) := by decide +kernel
theorem d1_23 : decode prog_41_method_1_code 23 = .ok (.putfield 21, 3) := by decide +kernel
theorem d1_26 : decode prog_41_method_1_code 26 = .ok (.aload_n 0, 1) := by decide +kernel
theorem d1_27 : decode prog_41_method_1_code 27 = .ok (.aload_n 1, 1) := by decide +kernel
theorem d1_28 : decode prog_41_method_1_code 28 = .ok (.arraylength, 1) := by decide +kernel
theorem d1_29 : decode prog_41_method_1_code 29 = .ok (.newarray .double, 2) := by decide +kernel
theorem d1_31 : decode prog_41_method_1_code 31 = .ok (.putfield 24, 3) := by decide +kernel
theorem d1_34 : decode prog_41_method_1_code 34 = .ok (.return_, 1) := by decide +kernel
theorem pn_com_example_consensus_to_coverage_consensustocoverage_reranking_ProportionalSeats : plainName "com/example/consensus_to_coverage/consensustocoverage/reranking/ProportionalSeats" = true := by first | (simp [plainName, overriddenIn]; done) | decide +kernel
theorem ef_1 (m : MethodId) (a0_ : Addr) (a1_ : Addr) (a2_ : Addr) : entryFrame m #[(.ref a0_), (.ref a1_), (.ref a2_)] 3 = mkF m 0 #[.val (.ref a0_), .val (.ref a1_), .val (.ref a2_)] [] := by first | (simp [entryFrame, mkF, argsToLocals, Value.category]; done) | rfl
def Q1 (Z : State) (a0_ : Addr) (x0 x1 x2 : UInt64) (h0 : Heap) (n0 : Nat) (v : Option Value) (h : Heap) (L : List Loc) : Prop := v = none ∧ Fr n0 L ∧ Keep h0 h [a0_] ∧ Exa Z h a0_ "com/example/consensus_to_coverage/consensustocoverage/reranking/ProportionalSeats" ∧ ∃ (bw bs : Addr) (kw ks : ClassId), h0.size ≤ bw ∧ h0.size ≤ bs ∧ bw ≠ bs ∧ Fld Z h a0_ "com/example/consensus_to_coverage/consensustocoverage/reranking/ProportionalSeats" "weights" "[D" (.ref bw) ∧ Fld Z h a0_ "com/example/consensus_to_coverage/consensustocoverage/reranking/ProportionalSeats" "seats" "[D" (.ref bs) ∧ Arv Z h bw kw .double (3 : Int32) [.double x0, .double x1, .double x2] (.double (0 : UInt64)) ∧ Arv Z h bs ks .double (3 : Int32) [(.double (0 : UInt64)), (.double (0 : UInt64)), (.double (0 : UInt64))] (.double (0 : UInt64))
set_option maxRecDepth 65536 in
set_option maxHeartbeats 40000000 in
theorem rm1 (l : Launch) (Z : State) (a0 : Array Value) (hw : ∀ d ∈ tables_1, d.before a0 Z = true) (ws : List Jvm.Cond) (a0_ : Addr) (a1_ : Addr) (a2_ : Addr) (x0 x1 x2 : UInt64) (kq1 kq2 : ClassId) (h0 : Heap) (n0 : Nat) (Z0 : n0 ≤ h0.size) (E_a : Exa Z h0 a0_ "com/example/consensus_to_coverage/consensustocoverage/reranking/ProportionalSeats") (F_w : Fld Z h0 a0_ "com/example/consensus_to_coverage/consensustocoverage/reranking/ProportionalSeats" "weights" "[D" .null) (F_p : Fld Z h0 a0_ "com/example/consensus_to_coverage/consensustocoverage/reranking/ProportionalSeats" "places" "[I" .null) (F_s : Fld Z h0 a0_ "com/example/consensus_to_coverage/consensustocoverage/reranking/ProportionalSeats" "seats" "[D" .null) (g_a0_ : n0 ≤ a0_) (E_1 : Exa Z h0 a1_ "[D") (E_2 : Exa Z h0 a2_ "[I") (V_1 : Arv Z h0 a1_ kq1 .double (3 : Int32) [.double x0, .double x1, .double x2] (.double (0 : UInt64))) (V_2 : Arv Z h0 a2_ kq2 .int (3 : Int32) [.int (0 : Int32), .int (1 : Int32), .int (2 : Int32)] (.int (0 : Int32))) (ne1 : a1_ ≠ a0_) (ne2 : a2_ ≠ a0_) :
    MetFree l (⟨"com/example/consensus_to_coverage/consensustocoverage/reranking/ProportionalSeats", "<init>", "([D[I)V"⟩ : MethodName) (head1 (Jvm.Cond.code (⟨"com/example/consensus_to_coverage/consensustocoverage/reranking/ProportionalSeats", "<init>", "([D[I)V"⟩ : MethodName) prog_41_method_1_code 3 none :: ws) ({ frames := 1, cells := 3, slots := 9, locals := 15 } : Room)) (fun a U => a = #[(.ref a0_), (.ref a1_), (.ref a2_)] ∧ Z.Warmed39 U.vm ∧ U.heap = h0) (fun _ _ _ _ _ => True) (fun _ U o U' => ∃ v L, o = .returned v ∧ Q1 Z a0_ x0 x1 x2 h0 n0 v U'.heap L ∧ FrameEnd U o U' L ({ frames := 1, cells := 3, slots := 9, locals := 15 } : Room).cells ({ frames := 1, cells := 3, slots := 9, locals := 15 } : Room).slots) := by
  refine MetFree.of_bodySF (plainFor_of_name pn_com_example_consensus_to_coverage_consensustocoverage_reranking_ProportionalSeats) hisR ?_
  intro p e s m args below meth c s₁ Bd hml0 hP hK
  obtain ⟨rfl, hZ, hh⟩ := hP
  have hx := Bd.exec
  have hby := Bd.bytes
  have hml : c.maxLocals = 3 := hml0
  have hown : s.vm.findClass "com/example/consensus_to_coverage/consensustocoverage/reranking/ProportionalSeats" = some m.cls := findClass_of_methodNamed Bd.named
  have hnm := (name_of_methodNamed Bd.named Bd.method).1
  have X0 : Stand p l e ({ frames := 1, cells := 3, slots := 9, locals := 15 } : Room) s m #[(.ref a0_), (.ref a1_), (.ref a2_)] below meth c s₁ [] 0 0 := Stand.of_body Bd
  have e0 : s₁.heap = h0 := by rw [← hh, Bd.state]; rfl
  have N0 := Fr.nil n0
  have pre0 : ∀ t, Steps p.tables e below (s₁.setTop (mkF m 0 #[.val (.ref a0_), .val (.ref a1_), .val (.ref a2_)] [])) t → Steps p.tables e below (s₁.setTop (entryFrame m #[(.ref a0_), (.ref a1_), (.ref a2_)] 3)) t := fun t k => castTop (ef_1 m a0_ a1_ a2_) k
  have K0 := Keep.refl h0 [a0_]
  refine own_start pre0 fun G gs gl => ?_
  show G (s₁.setTop (mkF m 0 #[.val (.ref a0_), .val (.ref a1_), .val (.ref a2_)] []))
  refine gs (fun t k => XS.aloadN X0.here hx rfl (hb hby d1_0) rfl rfl k) ?_
  show G (s₁.setTop (mkF m 1 #[.val (.ref a0_), .val (.ref a1_), .val (.ref a2_)] [(.ref a0_)]))
  obtain ⟨T1, X1, e1, st1⟩ := initO X0 hx hZ hown (hw _ (List.mem_of_getElem? (i := 9) rfl)) (hw _ (List.mem_of_getElem? (i := 10) rfl)) (hw _ (List.mem_of_getElem? (i := 11) rfl)) e0 (g := (mkF m 1 #[.val (.ref a0_), .val (.ref a1_), .val (.ref a2_)] [(.ref a0_)])) rfl (by rw [hml]; rfl) rfl (hb hby d1_1) (by decide) (W := 0) (by show 2 * 0 + _ ≤ _; exact Nat.le_of_eq rfl) (by decide)
  refine gs (fun t k => st1 _ k) ?_
  show G (T1.setTop (mkF m 4 #[.val (.ref a0_), .val (.ref a1_), .val (.ref a2_)] []))
  refine gs (fun t k => XS.aloadN X1.here hx rfl (hb hby d1_4) rfl rfl k) ?_
  show G (T1.setTop (mkF m 5 #[.val (.ref a0_), .val (.ref a1_), .val (.ref a2_)] [(.ref a0_)]))
  refine gs (fun t k => XS.aloadN X1.here hx rfl (hb hby d1_5) rfl rfl k) ?_
  show G (T1.setTop (mkF m 6 #[.val (.ref a0_), .val (.ref a1_), .val (.ref a2_)] [(.ref a1_), (.ref a0_)]))
  obtain ⟨vc2, vA2, vq2, vS2, vN2, vH2, vG2⟩ := id V_1
  have FC2 : FitC Z vc2 := fitC_of vA2 (fun i hi v hv => by rw [vH2 i hi] at hv; cases hv; exact vG2 i hi)
  obtain ⟨T2, h2, X2, e2, E2, A2, EA2, st2⟩ := cloneA X1 hx hZ hown (hw _ (List.mem_of_getElem? (i := 12) rfl)) (hw _ (List.mem_of_getElem? (i := 13) rfl)) (hw _ (List.mem_of_getElem? (i := 17) rfl)) (hw _ (List.mem_of_getElem? (i := 15) rfl)) (hw _ (List.mem_of_getElem? (i := 16) rfl)) (hw _ (List.mem_of_getElem? (i := 18) rfl)) e1 vA2 E_1 FC2 (g := (mkF m 6 #[.val (.ref a0_), .val (.ref a1_), .val (.ref a2_)] [(.ref a1_), (.ref a0_)])) rfl (by rw [hml]; rfl) rfl (hb hby d1_6) (by decide) (W := 1) (by show 2 * 0 + _ ≤ _; exact Nat.le_of_eq rfl) (by decide) (cap := 3) (by rw [vS2]; decide) (by decide) (by decide)
  obtain ⟨b2, g2⟩ : ∃ z, z = h0.size := ⟨_, rfl⟩
  rw [← g2] at A2 EA2 st2
  have sz_b2 : h0.size ≤ b2 := Nat.le_trans K0.1 (Nat.le_of_eq g2.symm)
  have g_b2 : n0 ≤ b2 := Nat.le_trans Z0 sz_b2
  have ne_a0__b2 : a0_ ≠ b2 := Nat.ne_of_lt (Nat.lt_of_lt_of_le E_a.lt (Nat.le_of_eq g2.symm))
  have ne_a1__b2 : a1_ ≠ b2 := Nat.ne_of_lt (Nat.lt_of_lt_of_le E_1.lt (Nat.le_of_eq g2.symm))
  have ne_a2__b2 : a2_ ≠ b2 := Nat.ne_of_lt (Nat.lt_of_lt_of_le E_2.lt (Nat.le_of_eq g2.symm))
  have E_a_q3 := E_a.ext E2
  have F_w_q4 := F_w.ext E2
  have F_p_q5 := F_p.ext E2
  have F_s_q6 := F_s.ext E2
  have E_1_q7 := E_1.ext E2
  have E_2_q8 := E_2.ext E2
  have V_1_q9 := V_1.ext E2
  have V_2_q10 := V_2.ext E2
  have K11 := K0.ext E2
  have V_b2 : Arv Z h2 b2 _ .double (3 : Int32) [(.double x0), (.double x1), (.double x2)] _ := ⟨cloneOf vc2, A2, vq2, vS2, vN2, vH2, vG2⟩
  refine gs (fun t k => st2 _ k) ?_
  show G (T2.setTop (mkF m 9 #[.val (.ref a0_), .val (.ref a1_), .val (.ref a2_)] [(.ref b2), (.ref a0_)]))
  obtain ⟨T12, X12, e12, st12⟩ := castY X2 hx hZ hown (hw _ (List.mem_of_getElem? (i := 19) rfl)) e2 (Ins.self EA2) (g := (mkF m 9 #[.val (.ref a0_), .val (.ref a1_), .val (.ref a2_)] [(.ref b2), (.ref a0_)])) rfl rfl (hb hby d1_9)
  refine gs (fun t k => st12 _ k) ?_
  show G (T12.setTop (mkF m 12 #[.val (.ref a0_), .val (.ref a1_), .val (.ref a2_)] [(.ref b2), (.ref a0_)]))
  obtain ⟨T13, h13, X13, e13, W13, st13⟩ := putF X12 hx hZ hown (host := "") (Or.inl (hw _ (List.mem_of_getElem? (i := 21) rfl))) Via.refl e12 F_w_q4 E_a_q3 (Or.inr ⟨(hw _ (List.mem_of_getElem? (i := 22) rfl)), rfl, hnm⟩) (hw _ (List.mem_of_getElem? (i := 4) rfl)) (ty := (.array .double)) (by decide) rfl rfl (g := (mkF m 12 #[.val (.ref a0_), .val (.ref a1_), .val (.ref a2_)] [(.ref b2), (.ref a0_)])) rfl rfl (hb hby d1_12)
  have E_a_q14 := E_a_q3.wr W13
  have F_w_q15 := F_w_q4.same W13
  have F_p_q16 := F_p_q5.other W13 (Or.inr (slot_ne (Or.inr (hw _ (List.mem_of_getElem? (i := 30) rfl))) (Or.inr (hw _ (List.mem_of_getElem? (i := 22) rfl))) (by decide) (t := (.array .int)) (t' := (.array .double)) (by decide) (by decide)))
  have F_s_q17 := F_s_q6.other W13 (Or.inr (slot_ne (Or.inr (hw _ (List.mem_of_getElem? (i := 32) rfl))) (Or.inr (hw _ (List.mem_of_getElem? (i := 22) rfl))) (by decide) (t := (.array .double)) (t' := (.array .double)) (by decide) (by decide)))
  have E_1_q18 := E_1_q7.wr W13
  have E_2_q19 := E_2_q8.wr W13
  have V_1_q20 := V_1_q9.other W13 ne1
  have V_2_q21 := V_2_q10.other W13 ne2
  have EA2_q22 := EA2.wr W13
  have V_b2_q23 := V_b2.other W13 (Ne.symm ne_a0__b2)
  have K24 := K11.wr W13 (Or.inl (List.mem_of_getElem? (i := 0) rfl))
  have N13 := Fr.snoc X13 N0 g_a0_
  refine gs (fun t k => st13 _ k) ?_
  show G (T13.setTop (mkF m 15 #[.val (.ref a0_), .val (.ref a1_), .val (.ref a2_)] []))
  refine gs (fun t k => XS.aloadN X13.here hx rfl (hb hby d1_15) rfl rfl k) ?_
  show G (T13.setTop (mkF m 16 #[.val (.ref a0_), .val (.ref a1_), .val (.ref a2_)] [(.ref a0_)]))
  refine gs (fun t k => XS.aloadN X13.here hx rfl (hb hby d1_16) rfl rfl k) ?_
  show G (T13.setTop (mkF m 17 #[.val (.ref a0_), .val (.ref a1_), .val (.ref a2_)] [(.ref a2_), (.ref a0_)]))
  obtain ⟨vc25, vA25, vq25, vS25, vN25, vH25, vG25⟩ := id V_2_q21
  have FC25 : FitC Z vc25 := fitC_of vA25 (fun i hi v hv => by rw [vH25 i hi] at hv; cases hv; exact vG25 i hi)
  obtain ⟨T25, h25, X25, e25, E25, A25, EA25, st25⟩ := cloneA X13 hx hZ hown (hw _ (List.mem_of_getElem? (i := 23) rfl)) (hw _ (List.mem_of_getElem? (i := 24) rfl)) (hw _ (List.mem_of_getElem? (i := 17) rfl)) (hw _ (List.mem_of_getElem? (i := 15) rfl)) (hw _ (List.mem_of_getElem? (i := 25) rfl)) (hw _ (List.mem_of_getElem? (i := 26) rfl)) e13 vA25 E_2_q19 FC25 (g := (mkF m 17 #[.val (.ref a0_), .val (.ref a1_), .val (.ref a2_)] [(.ref a2_), (.ref a0_)])) rfl (by rw [hml]; rfl) rfl (hb hby d1_17) (by decide) (W := 1) (by show 2 * 0 + _ ≤ _; exact Nat.le_of_eq rfl) (by decide) (cap := 3) (by rw [vS25]; decide) (by decide) (by decide)
  obtain ⟨b25, g25⟩ : ∃ z, z = h13.size := ⟨_, rfl⟩
  rw [← g25] at A25 EA25 st25
  have sz_b25 : h0.size ≤ b25 := Nat.le_trans K24.1 (Nat.le_of_eq g25.symm)
  have g_b25 : n0 ≤ b25 := Nat.le_trans Z0 sz_b25
  have ne_a0__b25 : a0_ ≠ b25 := Nat.ne_of_lt (Nat.lt_of_lt_of_le E_a_q14.lt (Nat.le_of_eq g25.symm))
  have ne_a1__b25 : a1_ ≠ b25 := Nat.ne_of_lt (Nat.lt_of_lt_of_le E_1_q18.lt (Nat.le_of_eq g25.symm))
  have ne_a2__b25 : a2_ ≠ b25 := Nat.ne_of_lt (Nat.lt_of_lt_of_le E_2_q19.lt (Nat.le_of_eq g25.symm))
  have ne_b2_b25 : b2 ≠ b25 := Nat.ne_of_lt (Nat.lt_of_lt_of_le EA2_q22.lt (Nat.le_of_eq g25.symm))
  have E_a_q26 := E_a_q14.ext E25
  have F_w_q27 := F_w_q15.ext E25
  have F_p_q28 := F_p_q16.ext E25
  have F_s_q29 := F_s_q17.ext E25
  have E_1_q30 := E_1_q18.ext E25
  have E_2_q31 := E_2_q19.ext E25
  have V_1_q32 := V_1_q20.ext E25
  have V_2_q33 := V_2_q21.ext E25
  have EA2_q34 := EA2_q22.ext E25
  have V_b2_q35 := V_b2_q23.ext E25
  have K36 := K24.ext E25
  have V_b25 : Arv Z h25 b25 _ .int (3 : Int32) [(.int (0 : Int32)), (.int (1 : Int32)), (.int (2 : Int32))] _ := ⟨cloneOf vc25, A25, vq25, vS25, vN25, vH25, vG25⟩
  refine gs (fun t k => st25 _ k) ?_
  show G (T25.setTop (mkF m 20 #[.val (.ref a0_), .val (.ref a1_), .val (.ref a2_)] [(.ref b25), (.ref a0_)]))
  obtain ⟨T37, X37, e37, st37⟩ := castY X25 hx hZ hown (hw _ (List.mem_of_getElem? (i := 27) rfl)) e25 (Ins.self EA25) (g := (mkF m 20 #[.val (.ref a0_), .val (.ref a1_), .val (.ref a2_)] [(.ref b25), (.ref a0_)])) rfl rfl (hb hby d1_20)
  refine gs (fun t k => st37 _ k) ?_
  show G (T37.setTop (mkF m 23 #[.val (.ref a0_), .val (.ref a1_), .val (.ref a2_)] [(.ref b25), (.ref a0_)]))
  obtain ⟨T38, h38, X38, e38, W38, st38⟩ := putF X37 hx hZ hown (host := "") (Or.inl (hw _ (List.mem_of_getElem? (i := 29) rfl))) Via.refl e37 F_p_q28 E_a_q26 (Or.inr ⟨(hw _ (List.mem_of_getElem? (i := 30) rfl)), rfl, hnm⟩) (hw _ (List.mem_of_getElem? (i := 4) rfl)) (ty := (.array .int)) (by decide) rfl rfl (g := (mkF m 23 #[.val (.ref a0_), .val (.ref a1_), .val (.ref a2_)] [(.ref b25), (.ref a0_)])) rfl rfl (hb hby d1_23)
  have E_a_q39 := E_a_q26.wr W38
  have F_w_q40 := F_w_q27.other W38 (Or.inr (slot_ne (Or.inr (hw _ (List.mem_of_getElem? (i := 22) rfl))) (Or.inr (hw _ (List.mem_of_getElem? (i := 30) rfl))) (by decide) (t := (.array .double)) (t' := (.array .int)) (by decide) (by decide)))
  have F_p_q41 := F_p_q28.same W38
  have F_s_q42 := F_s_q29.other W38 (Or.inr (slot_ne (Or.inr (hw _ (List.mem_of_getElem? (i := 32) rfl))) (Or.inr (hw _ (List.mem_of_getElem? (i := 30) rfl))) (by decide) (t := (.array .double)) (t' := (.array .int)) (by decide) (by decide)))
  have E_1_q43 := E_1_q30.wr W38
  have E_2_q44 := E_2_q31.wr W38
  have V_1_q45 := V_1_q32.other W38 ne1
  have V_2_q46 := V_2_q33.other W38 ne2
  have EA2_q47 := EA2_q34.wr W38
  have V_b2_q48 := V_b2_q35.other W38 (Ne.symm ne_a0__b2)
  have EA25_q49 := EA25.wr W38
  have V_b25_q50 := V_b25.other W38 (Ne.symm ne_a0__b25)
  have K51 := K36.wr W38 (Or.inl (List.mem_of_getElem? (i := 0) rfl))
  have N38 := Fr.snoc X38 N13 g_a0_
  refine gs (fun t k => st38 _ k) ?_
  show G (T38.setTop (mkF m 26 #[.val (.ref a0_), .val (.ref a1_), .val (.ref a2_)] []))
  refine gs (fun t k => XS.aloadN X38.here hx rfl (hb hby d1_26) rfl rfl k) ?_
  show G (T38.setTop (mkF m 27 #[.val (.ref a0_), .val (.ref a1_), .val (.ref a2_)] [(.ref a0_)]))
  refine gs (fun t k => XS.aloadN X38.here hx rfl (hb hby d1_27) rfl rfl k) ?_
  show G (T38.setTop (mkF m 28 #[.val (.ref a0_), .val (.ref a1_), .val (.ref a2_)] [(.ref a1_), (.ref a0_)]))
  obtain ⟨lc52, lA52, -, lS52, lN52, -, -⟩ := id V_1_q45
  refine gs (fun t k => X38.arraylength hx (by rw [e38]; exact lA52.1) (State.isArrayOf_alike hZ.alike lA52.2.1) (g := (mkF m 28 #[.val (.ref a0_), .val (.ref a1_), .val (.ref a2_)] [(.ref a1_), (.ref a0_)])) rfl rfl (hb hby d1_28) _ k) ?_
  rw [len_of lS52 lN52]
  show G (T38.setTop (mkF m 29 #[.val (.ref a0_), .val (.ref a1_), .val (.ref a2_)] [(.int (3 : Int32)), (.ref a0_)]))
  obtain ⟨T53, h53, k53, X53, e53, E53, A53, st53⟩ := newP X38 hx hZ (hw _ (List.mem_of_getElem? (i := 1) rfl)) e38 (g := (mkF m 29 #[.val (.ref a0_), .val (.ref a1_), .val (.ref a2_)] [(.int (3 : Int32)), (.ref a0_)])) rfl (hb hby d1_29) rfl (by decide) (cap := 3) (by decide) (by decide) (by decide) (by decide)
  obtain ⟨b53, g53⟩ : ∃ z, z = h38.size := ⟨_, rfl⟩
  rw [← g53] at A53 st53
  have sz_b53 : h0.size ≤ b53 := Nat.le_trans K51.1 (Nat.le_of_eq g53.symm)
  have g_b53 : n0 ≤ b53 := Nat.le_trans Z0 sz_b53
  have ne_a0__b53 : a0_ ≠ b53 := Nat.ne_of_lt (Nat.lt_of_lt_of_le E_a_q39.lt (Nat.le_of_eq g53.symm))
  have ne_a1__b53 : a1_ ≠ b53 := Nat.ne_of_lt (Nat.lt_of_lt_of_le E_1_q43.lt (Nat.le_of_eq g53.symm))
  have ne_a2__b53 : a2_ ≠ b53 := Nat.ne_of_lt (Nat.lt_of_lt_of_le E_2_q44.lt (Nat.le_of_eq g53.symm))
  have ne_b2_b53 : b2 ≠ b53 := Nat.ne_of_lt (Nat.lt_of_lt_of_le EA2_q47.lt (Nat.le_of_eq g53.symm))
  have ne_b25_b53 : b25 ≠ b53 := Nat.ne_of_lt (Nat.lt_of_lt_of_le EA25_q49.lt (Nat.le_of_eq g53.symm))
  have E_a_q54 := E_a_q39.ext E53
  have F_w_q55 := F_w_q40.ext E53
  have F_p_q56 := F_p_q41.ext E53
  have F_s_q57 := F_s_q42.ext E53
  have E_1_q58 := E_1_q43.ext E53
  have E_2_q59 := E_2_q44.ext E53
  have V_1_q60 := V_1_q45.ext E53
  have V_2_q61 := V_2_q46.ext E53
  have EA2_q62 := EA2_q47.ext E53
  have V_b2_q63 := V_b2_q48.ext E53
  have EA25_q64 := EA25_q49.ext E53
  have V_b25_q65 := V_b25_q50.ext E53
  have K66 := K51.ext E53
  have V_b53 : Arv Z h53 b53 k53 .double (3 : Int32) [(.double (0 : UInt64)), (.double (0 : UInt64)), (.double (0 : UInt64))] (.double (0 : UInt64)) := (Arv.new A53 (by decide)).pad (pad_rep [] (.double (0 : UInt64)) 3)
  refine gs (fun t k => st53 _ k) ?_
  show G (T53.setTop (mkF m 31 #[.val (.ref a0_), .val (.ref a1_), .val (.ref a2_)] [(.ref b53), (.ref a0_)]))
  obtain ⟨T67, h67, X67, e67, W67, st67⟩ := putF X53 hx hZ hown (host := "") (Or.inl (hw _ (List.mem_of_getElem? (i := 31) rfl))) Via.refl e53 F_s_q57 E_a_q54 (Or.inr ⟨(hw _ (List.mem_of_getElem? (i := 32) rfl)), rfl, hnm⟩) (hw _ (List.mem_of_getElem? (i := 4) rfl)) (ty := (.array .double)) (by decide) rfl rfl (g := (mkF m 31 #[.val (.ref a0_), .val (.ref a1_), .val (.ref a2_)] [(.ref b53), (.ref a0_)])) rfl rfl (hb hby d1_31)
  have E_a_q68 := E_a_q54.wr W67
  have F_w_q69 := F_w_q55.other W67 (Or.inr (slot_ne (Or.inr (hw _ (List.mem_of_getElem? (i := 22) rfl))) (Or.inr (hw _ (List.mem_of_getElem? (i := 32) rfl))) (by decide) (t := (.array .double)) (t' := (.array .double)) (by decide) (by decide)))
  have F_p_q70 := F_p_q56.other W67 (Or.inr (slot_ne (Or.inr (hw _ (List.mem_of_getElem? (i := 30) rfl))) (Or.inr (hw _ (List.mem_of_getElem? (i := 32) rfl))) (by decide) (t := (.array .int)) (t' := (.array .double)) (by decide) (by decide)))
  have F_s_q71 := F_s_q57.same W67
  have E_1_q72 := E_1_q58.wr W67
  have E_2_q73 := E_2_q59.wr W67
  have V_1_q74 := V_1_q60.other W67 ne1
  have V_2_q75 := V_2_q61.other W67 ne2
  have EA2_q76 := EA2_q62.wr W67
  have V_b2_q77 := V_b2_q63.other W67 (Ne.symm ne_a0__b2)
  have EA25_q78 := EA25_q64.wr W67
  have V_b25_q79 := V_b25_q65.other W67 (Ne.symm ne_a0__b25)
  have V_b53_q80 := V_b53.other W67 (Ne.symm ne_a0__b53)
  have K81 := K66.wr W67 (Or.inl (List.mem_of_getElem? (i := 0) rfl))
  have N67 := Fr.snoc X67 N38 g_a0_
  refine gs (fun t k => st67 _ k) ?_
  show G (T67.setTop (mkF m 34 #[.val (.ref a0_), .val (.ref a1_), .val (.ref a2_)] []))
  obtain ⟨fs, hr, hrun, hended, hW, hsame⟩ := X67.leave (v := none) (fun _ => rfl)
  refine gl _ ⟨_, _, X67.returnOut hx Bd.returns (hb hby d1_34) hr, hrun, hended, _, _, rfl, ?_, ⟨_, rfl⟩, hW, hsame.mono (by decide) (by decide)⟩
  show Q1 Z a0_ x0 x1 x2 h0 n0 _ T67.heap _
  rw [e67]
  exact ⟨rfl, N67, K81, E_a_q68, _, _, _, _, sz_b2, sz_b53, ne_b2_b53, F_w_q69, F_s_q71, V_b2_q77, V_b53_q80⟩
theorem d3_0 : decode prog_41_method_6_code 0 = .ok (.aload_n 0, 1) := by decide +kernel
theorem d3_1 : decode prog_41_method_6_code 1 = .ok (.getfield 24, 3) := by decide +kernel
theorem d3_4 : decode prog_41_method_6_code 4 = .ok (.iload_n 1, 1) := by decide +kernel
theorem d3_5 : decode prog_41_method_6_code 5 = .ok (.dup2, 1) := by decide +kernel
theorem d3_6 : decode prog_41_method_6_code 6 = .ok (.daload, 1) := by decide +kernel
theorem d3_7 : decode prog_41_method_6_code 7 = .ok (.dload_n 2, 1) := by decide +kernel
theorem d3_8 : decode prog_41_method_6_code 8 = .ok (.dadd, 1) := by decide +kernel
theorem d3_9 : decode prog_41_method_6_code 9 = .ok (.dastore, 1) := by decide +kernel
theorem d3_10 : decode prog_41_method_6_code 10 = .ok (.return_, 1) := by decide +kernel
theorem ef_3 (m : MethodId) (a0_ : Addr) (p1 : Int32) (dd : UInt64) : entryFrame m #[(.ref a0_), (.int p1), (.double dd)] 4 = mkF m 0 #[.val (.ref a0_), .val (.int p1), .val (.double dd), .second] [] := by first | (simp [entryFrame, mkF, argsToLocals, Value.category]; done) | rfl
theorem ef_3a0 (m : MethodId) (a0_ : Addr) (dd : UInt64) : entryFrame m #[(.ref a0_), (.int (0 : Int32)), (.double dd)] 4 = mkF m 0 #[.val (.ref a0_), .val (.int (0 : Int32)), .val (.double dd), .second] [] := by first | (simp [entryFrame, mkF, argsToLocals, Value.category]; done) | rfl
theorem ef_3a1 (m : MethodId) (a0_ : Addr) (dd : UInt64) : entryFrame m #[(.ref a0_), (.int (1 : Int32)), (.double dd)] 4 = mkF m 0 #[.val (.ref a0_), .val (.int (1 : Int32)), .val (.double dd), .second] [] := by first | (simp [entryFrame, mkF, argsToLocals, Value.category]; done) | rfl
def Q3a0 (Z : State) (bs : Addr) (ks : ClassId) (y0 y1 y2 zz : UInt64) (h0 : Heap) (n0 : Nat) (v : Option Value) (h : Heap) (L : List Loc) : Prop := v = none ∧ Fr n0 L ∧ Keep h0 h [bs] ∧ Arv Z h bs ks .double (3 : Int32) [.double zz, .double y1, .double y2] (.double (0 : UInt64))
def Q3a1 (Z : State) (bs : Addr) (ks : ClassId) (y0 y1 y2 zz : UInt64) (h0 : Heap) (n0 : Nat) (v : Option Value) (h : Heap) (L : List Loc) : Prop := v = none ∧ Fr n0 L ∧ Keep h0 h [bs] ∧ Arv Z h bs ks .double (3 : Int32) [.double y0, .double zz, .double y2] (.double (0 : UInt64))
set_option maxRecDepth 65536 in
set_option maxHeartbeats 40000000 in
theorem rm3a0 (l : Launch) (Z : State) (a0 : Array Value) (hw : ∀ d ∈ tables_1, d.before a0 Z = true) (ws : List Jvm.Cond) (a0_ : Addr) (dd : UInt64) (bs : Addr) (ks : ClassId) (y0 y1 y2 zz : UInt64) (h0 : Heap) (n0 : Nat) (Z0 : n0 ≤ h0.size) (F : Fld Z h0 a0_ "com/example/consensus_to_coverage/consensustocoverage/reranking/ProportionalSeats" "seats" "[D" (.ref bs)) (V : Arv Z h0 bs ks .double (3 : Int32) [.double y0, .double y1, .double y2] (.double (0 : UInt64))) (g_bs : n0 ≤ bs) (hz : FP.dadd y0 dd = zz) (hn : Jvm.Free.Fl.NoNaN64 zz) :
    MetFree l (⟨"com/example/consensus_to_coverage/consensustocoverage/reranking/ProportionalSeats", "add", "(ID)V"⟩ : MethodName) (head1 (Jvm.Cond.code (⟨"com/example/consensus_to_coverage/consensustocoverage/reranking/ProportionalSeats", "add", "(ID)V"⟩ : MethodName) prog_41_method_6_code 4 none :: ws) ({ frames := 0, cells := 0, slots := 0, locals := 0 } : Room)) (fun a U => a = #[(.ref a0_), (.int (0 : Int32)), (.double dd)] ∧ Z.Warmed39 U.vm ∧ U.heap = h0) (fun _ _ _ _ _ => True) (fun _ U o U' => ∃ v L, o = .returned v ∧ Q3a0 Z bs ks y0 y1 y2 zz h0 n0 v U'.heap L ∧ FrameEnd U o U' L ({ frames := 0, cells := 0, slots := 0, locals := 0 } : Room).cells ({ frames := 0, cells := 0, slots := 0, locals := 0 } : Room).slots) := by
  refine MetFree.of_bodySF (plainFor_of_name pn_com_example_consensus_to_coverage_consensustocoverage_reranking_ProportionalSeats) hisR ?_
  intro p e s m args below meth c s₁ Bd hml0 hP hK
  obtain ⟨rfl, hZ, hh⟩ := hP
  have hx := Bd.exec
  have hby := Bd.bytes
  have hml : c.maxLocals = 4 := hml0
  have hown : s.vm.findClass "com/example/consensus_to_coverage/consensustocoverage/reranking/ProportionalSeats" = some m.cls := findClass_of_methodNamed Bd.named
  have hnm := (name_of_methodNamed Bd.named Bd.method).1
  have X0 : Stand p l e ({ frames := 0, cells := 0, slots := 0, locals := 0 } : Room) s m #[(.ref a0_), (.int (0 : Int32)), (.double dd)] below meth c s₁ [] 0 0 := Stand.of_body Bd
  have e0 : s₁.heap = h0 := by rw [← hh, Bd.state]; rfl
  have N0 := Fr.nil n0
  have pre0 : ∀ t, Steps p.tables e below (s₁.setTop (mkF m 0 #[.val (.ref a0_), .val (.int (0 : Int32)), .val (.double dd), .second] [])) t → Steps p.tables e below (s₁.setTop (entryFrame m #[(.ref a0_), (.int (0 : Int32)), (.double dd)] 4)) t := fun t k => castTop (ef_3a0 m a0_ dd) k
  have K0 := Keep.refl h0 [bs]
  refine own_start pre0 fun G gs gl => ?_
  show G (s₁.setTop (mkF m 0 #[.val (.ref a0_), .val (.int (0 : Int32)), .val (.double dd), .second] []))
  refine gs (fun t k => XS.aloadN X0.here hx rfl (hb hby d3_0) rfl rfl k) ?_
  show G (s₁.setTop (mkF m 1 #[.val (.ref a0_), .val (.int (0 : Int32)), .val (.double dd), .second] [(.ref a0_)]))
  obtain ⟨T1, X1, e1, st1⟩ := getF X0 hx hZ hown (host := "") (Or.inl (hw _ (List.mem_of_getElem? (i := 31) rfl))) Via.refl e0 F (g := (mkF m 1 #[.val (.ref a0_), .val (.int (0 : Int32)), .val (.double dd), .second] [(.ref a0_)])) rfl rfl (hb hby d3_1)
  refine gs (fun t k => st1 _ k) ?_
  show G (T1.setTop (mkF m 4 #[.val (.ref a0_), .val (.int (0 : Int32)), .val (.double dd), .second] [(.ref bs)]))
  refine gs (fun t k => XS.iloadN X1.here hx rfl (hb hby d3_4) rfl k) ?_
  show G (T1.setTop (mkF m 5 #[.val (.ref a0_), .val (.int (0 : Int32)), .val (.double dd), .second] [(.int (0 : Int32)), (.ref bs)]))
  refine gs (fun t k => Jvm.Free.XT.dup2 X1.here hx rfl (hb hby d3_5) rfl rfl rfl k) ?_
  show G (T1.setTop (mkF m 6 #[.val (.ref a0_), .val (.int (0 : Int32)), .val (.double dd), .second] [(.int (0 : Int32)), (.ref bs), (.int (0 : Int32)), (.ref bs)]))
  obtain ⟨lc2, lA2, -, lS2, lN2, lH2, -⟩ := id V
  have lin2 : ¬ ((0 : Int32) < 0 ∨ lc2.slots.size ≤ ((0 : Int32)).toNatClampNeg) := inb_of lS2 ⟨by decide, by decide⟩
  have lat2 : lc2.slots[((0 : Int32)).toNatClampNeg]? = some (.double y0) := lH2 0 (by rw [lS2]; decide)
  refine gs (fun t k => X1.daload hx (j := (0 : Int32)) (v := (.double y0)) (by rw [e1]; exact lA2.1) (State.isArrayOf_alike hZ.alike lA2.2.1) lA2.2.2 lin2 lat2 (g := (mkF m 6 #[.val (.ref a0_), .val (.int (0 : Int32)), .val (.double dd), .second] [(.int (0 : Int32)), (.ref bs), (.int (0 : Int32)), (.ref bs)])) rfl rfl (hb hby d3_6) _ k) ?_
  show G (T1.setTop (mkF m 7 #[.val (.ref a0_), .val (.int (0 : Int32)), .val (.double dd), .second] [(.double y0), (.int (0 : Int32)), (.ref bs)]))
  refine gs (fun t k => XS.dloadN X1.here hx rfl (hb hby d3_7) rfl k) ?_
  show G (T1.setTop (mkF m 8 #[.val (.ref a0_), .val (.int (0 : Int32)), .val (.double dd), .second] [(.double dd), (.double y0), (.int (0 : Int32)), (.ref bs)]))
  refine gs (fun t k => XS.daddS X1.here hx rfl (hb hby d3_8) rfl (by rw [hz]; exact hn) hz k) ?_
  show G (T1.setTop (mkF m 9 #[.val (.ref a0_), .val (.int (0 : Int32)), .val (.double dd), .second] [(.double zz), (.int (0 : Int32)), (.ref bs)]))
  obtain ⟨vc3, vA3, vq3, vS3, vN3, vH3, vG3⟩ := V
  have hin3 : ¬ ((0 : Int32) < 0 ∨ vc3.slots.size ≤ ((0 : Int32)).toNatClampNeg) := inb_of vS3 ⟨by decide, by decide⟩
  obtain ⟨T3, h3, X3, e3, W3, st3⟩ := stD X1 hx hZ e1 vA3 (j := (0 : Int32)) hin3 (g := (mkF m 9 #[.val (.ref a0_), .val (.int (0 : Int32)), .val (.double dd), .second] [(.double zz), (.int (0 : Int32)), (.ref bs)])) rfl rfl (hb hby d3_9)
  have K4 := K0.wr W3 (Or.inl (List.mem_of_getElem? (i := 0) rfl))
  have V_bs_q3 := Arv.set vA3 vq3 vS3 vN3 vH3 vG3 rfl W3 0 rfl (Nat.le_of_ble_eq_true rfl)
  have N3 := Fr.snoc X3 N0 g_bs
  refine gs (fun t k => st3 _ k) ?_
  show G (T3.setTop (mkF m 10 #[.val (.ref a0_), .val (.int (0 : Int32)), .val (.double dd), .second] []))
  obtain ⟨fs, hr, hrun, hended, hW, hsame⟩ := X3.leave (v := none) (fun _ => rfl)
  refine gl _ ⟨_, _, X3.returnOut hx Bd.returns (hb hby d3_10) hr, hrun, hended, _, _, rfl, ?_, ⟨_, rfl⟩, hW, hsame.mono (by decide) (by decide)⟩
  show Q3a0 Z bs ks y0 y1 y2 zz h0 n0 _ T3.heap _
  rw [e3]
  exact ⟨rfl, N3, K4, V_bs_q3⟩
set_option maxRecDepth 65536 in
set_option maxHeartbeats 40000000 in
theorem rm3a1 (l : Launch) (Z : State) (a0 : Array Value) (hw : ∀ d ∈ tables_1, d.before a0 Z = true) (ws : List Jvm.Cond) (a0_ : Addr) (dd : UInt64) (bs : Addr) (ks : ClassId) (y0 y1 y2 zz : UInt64) (h0 : Heap) (n0 : Nat) (Z0 : n0 ≤ h0.size) (F : Fld Z h0 a0_ "com/example/consensus_to_coverage/consensustocoverage/reranking/ProportionalSeats" "seats" "[D" (.ref bs)) (V : Arv Z h0 bs ks .double (3 : Int32) [.double y0, .double y1, .double y2] (.double (0 : UInt64))) (g_bs : n0 ≤ bs) (hz : FP.dadd y1 dd = zz) (hn : Jvm.Free.Fl.NoNaN64 zz) :
    MetFree l (⟨"com/example/consensus_to_coverage/consensustocoverage/reranking/ProportionalSeats", "add", "(ID)V"⟩ : MethodName) (head1 (Jvm.Cond.code (⟨"com/example/consensus_to_coverage/consensustocoverage/reranking/ProportionalSeats", "add", "(ID)V"⟩ : MethodName) prog_41_method_6_code 4 none :: ws) ({ frames := 0, cells := 0, slots := 0, locals := 0 } : Room)) (fun a U => a = #[(.ref a0_), (.int (1 : Int32)), (.double dd)] ∧ Z.Warmed39 U.vm ∧ U.heap = h0) (fun _ _ _ _ _ => True) (fun _ U o U' => ∃ v L, o = .returned v ∧ Q3a1 Z bs ks y0 y1 y2 zz h0 n0 v U'.heap L ∧ FrameEnd U o U' L ({ frames := 0, cells := 0, slots := 0, locals := 0 } : Room).cells ({ frames := 0, cells := 0, slots := 0, locals := 0 } : Room).slots) := by
  refine MetFree.of_bodySF (plainFor_of_name pn_com_example_consensus_to_coverage_consensustocoverage_reranking_ProportionalSeats) hisR ?_
  intro p e s m args below meth c s₁ Bd hml0 hP hK
  obtain ⟨rfl, hZ, hh⟩ := hP
  have hx := Bd.exec
  have hby := Bd.bytes
  have hml : c.maxLocals = 4 := hml0
  have hown : s.vm.findClass "com/example/consensus_to_coverage/consensustocoverage/reranking/ProportionalSeats" = some m.cls := findClass_of_methodNamed Bd.named
  have hnm := (name_of_methodNamed Bd.named Bd.method).1
  have X0 : Stand p l e ({ frames := 0, cells := 0, slots := 0, locals := 0 } : Room) s m #[(.ref a0_), (.int (1 : Int32)), (.double dd)] below meth c s₁ [] 0 0 := Stand.of_body Bd
  have e0 : s₁.heap = h0 := by rw [← hh, Bd.state]; rfl
  have N0 := Fr.nil n0
  have pre0 : ∀ t, Steps p.tables e below (s₁.setTop (mkF m 0 #[.val (.ref a0_), .val (.int (1 : Int32)), .val (.double dd), .second] [])) t → Steps p.tables e below (s₁.setTop (entryFrame m #[(.ref a0_), (.int (1 : Int32)), (.double dd)] 4)) t := fun t k => castTop (ef_3a1 m a0_ dd) k
  have K0 := Keep.refl h0 [bs]
  refine own_start pre0 fun G gs gl => ?_
  show G (s₁.setTop (mkF m 0 #[.val (.ref a0_), .val (.int (1 : Int32)), .val (.double dd), .second] []))
  refine gs (fun t k => XS.aloadN X0.here hx rfl (hb hby d3_0) rfl rfl k) ?_
  show G (s₁.setTop (mkF m 1 #[.val (.ref a0_), .val (.int (1 : Int32)), .val (.double dd), .second] [(.ref a0_)]))
  obtain ⟨T1, X1, e1, st1⟩ := getF X0 hx hZ hown (host := "") (Or.inl (hw _ (List.mem_of_getElem? (i := 31) rfl))) Via.refl e0 F (g := (mkF m 1 #[.val (.ref a0_), .val (.int (1 : Int32)), .val (.double dd), .second] [(.ref a0_)])) rfl rfl (hb hby d3_1)
  refine gs (fun t k => st1 _ k) ?_
  show G (T1.setTop (mkF m 4 #[.val (.ref a0_), .val (.int (1 : Int32)), .val (.double dd), .second] [(.ref bs)]))
  refine gs (fun t k => XS.iloadN X1.here hx rfl (hb hby d3_4) rfl k) ?_
  show G (T1.setTop (mkF m 5 #[.val (.ref a0_), .val (.int (1 : Int32)), .val (.double dd), .second] [(.int (1 : Int32)), (.ref bs)]))
  refine gs (fun t k => Jvm.Free.XT.dup2 X1.here hx rfl (hb hby d3_5) rfl rfl rfl k) ?_
  show G (T1.setTop (mkF m 6 #[.val (.ref a0_), .val (.int (1 : Int32)), .val (.double dd), .second] [(.int (1 : Int32)), (.ref bs), (.int (1 : Int32)), (.ref bs)]))
  obtain ⟨lc2, lA2, -, lS2, lN2, lH2, -⟩ := id V
  have lin2 : ¬ ((1 : Int32) < 0 ∨ lc2.slots.size ≤ ((1 : Int32)).toNatClampNeg) := inb_of lS2 ⟨by decide, by decide⟩
  have lat2 : lc2.slots[((1 : Int32)).toNatClampNeg]? = some (.double y1) := lH2 1 (by rw [lS2]; decide)
  refine gs (fun t k => X1.daload hx (j := (1 : Int32)) (v := (.double y1)) (by rw [e1]; exact lA2.1) (State.isArrayOf_alike hZ.alike lA2.2.1) lA2.2.2 lin2 lat2 (g := (mkF m 6 #[.val (.ref a0_), .val (.int (1 : Int32)), .val (.double dd), .second] [(.int (1 : Int32)), (.ref bs), (.int (1 : Int32)), (.ref bs)])) rfl rfl (hb hby d3_6) _ k) ?_
  show G (T1.setTop (mkF m 7 #[.val (.ref a0_), .val (.int (1 : Int32)), .val (.double dd), .second] [(.double y1), (.int (1 : Int32)), (.ref bs)]))
  refine gs (fun t k => XS.dloadN X1.here hx rfl (hb hby d3_7) rfl k) ?_
  show G (T1.setTop (mkF m 8 #[.val (.ref a0_), .val (.int (1 : Int32)), .val (.double dd), .second] [(.double dd), (.double y1), (.int (1 : Int32)), (.ref bs)]))
  refine gs (fun t k => XS.daddS X1.here hx rfl (hb hby d3_8) rfl (by rw [hz]; exact hn) hz k) ?_
  show G (T1.setTop (mkF m 9 #[.val (.ref a0_), .val (.int (1 : Int32)), .val (.double dd), .second] [(.double zz), (.int (1 : Int32)), (.ref bs)]))
  obtain ⟨vc3, vA3, vq3, vS3, vN3, vH3, vG3⟩ := V
  have hin3 : ¬ ((1 : Int32) < 0 ∨ vc3.slots.size ≤ ((1 : Int32)).toNatClampNeg) := inb_of vS3 ⟨by decide, by decide⟩
  obtain ⟨T3, h3, X3, e3, W3, st3⟩ := stD X1 hx hZ e1 vA3 (j := (1 : Int32)) hin3 (g := (mkF m 9 #[.val (.ref a0_), .val (.int (1 : Int32)), .val (.double dd), .second] [(.double zz), (.int (1 : Int32)), (.ref bs)])) rfl rfl (hb hby d3_9)
  have K4 := K0.wr W3 (Or.inl (List.mem_of_getElem? (i := 0) rfl))
  have V_bs_q3 := Arv.set vA3 vq3 vS3 vN3 vH3 vG3 rfl W3 1 rfl (Nat.le_of_ble_eq_true rfl)
  have N3 := Fr.snoc X3 N0 g_bs
  refine gs (fun t k => st3 _ k) ?_
  show G (T3.setTop (mkF m 10 #[.val (.ref a0_), .val (.int (1 : Int32)), .val (.double dd), .second] []))
  obtain ⟨fs, hr, hrun, hended, hW, hsame⟩ := X3.leave (v := none) (fun _ => rfl)
  refine gl _ ⟨_, _, X3.returnOut hx Bd.returns (hb hby d3_10) hr, hrun, hended, _, _, rfl, ?_, ⟨_, rfl⟩, hW, hsame.mono (by decide) (by decide)⟩
  show Q3a1 Z bs ks y0 y1 y2 zz h0 n0 _ T3.heap _
  rw [e3]
  exact ⟨rfl, N3, K4, V_bs_q3⟩
theorem d4_0 : decode prog_41_method_4_code 0 = .ok (.aload_n 0, 1) := by decide +kernel
theorem d4_1 : decode prog_41_method_4_code 1 = .ok (.getfield 24, 3) := by decide +kernel
theorem d4_4 : decode prog_41_method_4_code 4 = .ok (.arraylength, 1) := by decide +kernel
theorem d4_5 : decode prog_41_method_4_code 5 = .ok (.newarray .double, 2) := by decide +kernel
theorem d4_7 : decode prog_41_method_4_code 7 = .ok (.astore_n 1, 1) := by decide +kernel
theorem d4_8 : decode prog_41_method_4_code 8 = .ok (.iconst 0, 1) := by decide +kernel
theorem d4_9 : decode prog_41_method_4_code 9 = .ok (.istore_n 2, 1) := by decide +kernel
theorem d4_10 : decode prog_41_method_4_code 10 = .ok (.iload_n 2, 1) := by decide +kernel
theorem d4_11 : decode prog_41_method_4_code 11 = .ok (.aload_n 0, 1) := by decide +kernel
theorem d4_12 : decode prog_41_method_4_code 12 = .ok (.getfield 24, 3) := by decide +kernel
theorem d4_15 : decode prog_41_method_4_code 15 = .ok (.arraylength, 1) := by decide +kernel
theorem d4_16 : decode prog_41_method_4_code 16 = .ok (.if_icmp .ge 31, 3) := by decide +kernel
theorem d4_19 : decode prog_41_method_4_code 19 = .ok (.aload_n 1, 1) := by decide +kernel
theorem d4_20 : decode prog_41_method_4_code 20 = .ok (.iload_n 2, 1) := by decide +kernel
theorem d4_21 : decode prog_41_method_4_code 21 = .ok (.aload_n 0, 1) := by decide +kernel
theorem d4_22 : decode prog_41_method_4_code 22 = .ok (.getfield 13, 3) := by decide +kernel
theorem d4_25 : decode prog_41_method_4_code 25 = .ok (.iload_n 2, 1) := by decide +kernel
theorem d4_26 : decode prog_41_method_4_code 26 = .ok (.daload, 1) := by decide +kernel
theorem d4_27 : decode prog_41_method_4_code 27 = .ok (.ldc2_w 66, 3) := by decide +kernel
theorem d4_30 : decode prog_41_method_4_code 30 = .ok (.aload_n 0, 1) := by decide +kernel
theorem d4_31 : decode prog_41_method_4_code 31 = .ok (.getfield 24, 3) := by decide +kernel
theorem d4_34 : decode prog_41_method_4_code 34 = .ok (.iload_n 2, 1) := by decide +kernel
theorem d4_35 : decode prog_41_method_4_code 35 = .ok (.daload, 1) := by decide +kernel
theorem d4_36 : decode prog_41_method_4_code 36 = .ok (.dmul, 1) := by decide +kernel
theorem d4_37 : decode prog_41_method_4_code 37 = .ok (.dconst 1, 1) := by decide +kernel
theorem d4_38 : decode prog_41_method_4_code 38 = .ok (.dadd, 1) := by decide +kernel
theorem d4_39 : decode prog_41_method_4_code 39 = .ok (.ddiv, 1) := by decide +kernel
theorem d4_40 : decode prog_41_method_4_code 40 = .ok (.dastore, 1) := by decide +kernel
theorem d4_41 : decode prog_41_method_4_code 41 = .ok (.iinc 2 1, 3) := by decide +kernel
theorem d4_44 : decode prog_41_method_4_code 44 = .ok (.goto (-34), 3) := by decide +kernel
theorem d4_47 : decode prog_41_method_4_code 47 = .ok (.aload_n 1, 1) := by decide +kernel
theorem d4_48 : decode prog_41_method_4_code 48 = .ok (.areturn, 1) := by decide +kernel
theorem ef_4 (m : MethodId) (a0_ : Addr) : entryFrame m #[(.ref a0_)] 3 = mkF m 0 #[.val (.ref a0_), .unset, .unset] [] := by first | (simp [entryFrame, mkF, argsToLocals, Value.category]; done) | rfl
def Q4 (Z : State) (q0 q1 q2 : UInt64) (h0 : Heap) (n0 : Nat) (v : Option Value) (h : Heap) (L : List Loc) : Prop := ∃ (bq : Addr) (kq : ClassId), v = some (.ref bq) ∧ Fr n0 L ∧ Keep h0 h [] ∧ Arv Z h bq kq .double (3 : Int32) [.double q0, .double q1, .double q2] (.double (0 : UInt64))
set_option maxRecDepth 65536 in
set_option maxHeartbeats 40000000 in
theorem rm4 (l : Launch) (Z : State) (a0 : Array Value) (hw : ∀ d ∈ tables_1, d.before a0 Z = true) (ws : List Jvm.Cond) (a0_ : Addr) (bw bs : Addr) (kw ks : ClassId) (x0 x1 x2 y0 y1 y2 m0 m1 m2 t0 t1 t2 q0 q1 q2 : UInt64) (h0 : Heap) (n0 : Nat) (Z0 : n0 ≤ h0.size) (F_w : Fld Z h0 a0_ "com/example/consensus_to_coverage/consensustocoverage/reranking/ProportionalSeats" "weights" "[D" (.ref bw)) (F_s : Fld Z h0 a0_ "com/example/consensus_to_coverage/consensustocoverage/reranking/ProportionalSeats" "seats" "[D" (.ref bs)) (V_w : Arv Z h0 bw kw .double (3 : Int32) [.double x0, .double x1, .double x2] (.double (0 : UInt64))) (V_s : Arv Z h0 bs ks .double (3 : Int32) [.double y0, .double y1, .double y2] (.double (0 : UInt64))) (hm0 : FP.dmul (4611686018427387904 : UInt64) y0 = m0) (nm0 : Jvm.Free.Fl.NoNaN64 m0) (ht0 : FP.dadd m0 FP.dconst1 = t0) (nt0 : Jvm.Free.Fl.NoNaN64 t0) (hq0 : FP.ddiv x0 t0 = q0) (nq0 : Jvm.Free.Fl.NoNaN64 q0) (hm1 : FP.dmul (4611686018427387904 : UInt64) y1 = m1) (nm1 : Jvm.Free.Fl.NoNaN64 m1) (ht1 : FP.dadd m1 FP.dconst1 = t1) (nt1 : Jvm.Free.Fl.NoNaN64 t1) (hq1 : FP.ddiv x1 t1 = q1) (nq1 : Jvm.Free.Fl.NoNaN64 q1) (hm2 : FP.dmul (4611686018427387904 : UInt64) y2 = m2) (nm2 : Jvm.Free.Fl.NoNaN64 m2) (ht2 : FP.dadd m2 FP.dconst1 = t2) (nt2 : Jvm.Free.Fl.NoNaN64 t2) (hq2 : FP.ddiv x2 t2 = q2) (nq2 : Jvm.Free.Fl.NoNaN64 q2) :
    MetFree l (⟨"com/example/consensus_to_coverage/consensustocoverage/reranking/ProportionalSeats", "quotients", "()[D"⟩ : MethodName) (head1 (Jvm.Cond.code (⟨"com/example/consensus_to_coverage/consensustocoverage/reranking/ProportionalSeats", "quotients", "()[D"⟩ : MethodName) prog_41_method_4_code 3 (some (.array .double)) :: ws) ({ frames := 0, cells := 1, slots := 3, locals := 0 } : Room)) (fun a U => a = #[(.ref a0_)] ∧ Z.Warmed39 U.vm ∧ U.heap = h0) (fun _ _ _ _ _ => True) (fun _ U o U' => ∃ v L, o = .returned v ∧ Q4 Z q0 q1 q2 h0 n0 v U'.heap L ∧ FrameEnd U o U' L ({ frames := 0, cells := 1, slots := 3, locals := 0 } : Room).cells ({ frames := 0, cells := 1, slots := 3, locals := 0 } : Room).slots) := by
  refine MetFree.of_bodySF (plainFor_of_name pn_com_example_consensus_to_coverage_consensustocoverage_reranking_ProportionalSeats) hisR ?_
  intro p e s m args below meth c s₁ Bd hml0 hP hK
  obtain ⟨rfl, hZ, hh⟩ := hP
  have hx := Bd.exec
  have hby := Bd.bytes
  have hml : c.maxLocals = 3 := hml0
  have hown : s.vm.findClass "com/example/consensus_to_coverage/consensustocoverage/reranking/ProportionalSeats" = some m.cls := findClass_of_methodNamed Bd.named
  have hnm := (name_of_methodNamed Bd.named Bd.method).1
  have X0 : Stand p l e ({ frames := 0, cells := 1, slots := 3, locals := 0 } : Room) s m #[(.ref a0_)] below meth c s₁ [] 0 0 := Stand.of_body Bd
  have e0 : s₁.heap = h0 := by rw [← hh, Bd.state]; rfl
  have N0 := Fr.nil n0
  have pre0 : ∀ t, Steps p.tables e below (s₁.setTop (mkF m 0 #[.val (.ref a0_), .unset, .unset] [])) t → Steps p.tables e below (s₁.setTop (entryFrame m #[(.ref a0_)] 3)) t := fun t k => castTop (ef_4 m a0_) k
  have K0 := Keep.refl h0 []
  refine own_start pre0 fun G gs gl => ?_
  show G (s₁.setTop (mkF m 0 #[.val (.ref a0_), .unset, .unset] []))
  refine gs (fun t k => XS.aloadN X0.here hx rfl (hb hby d4_0) rfl rfl k) ?_
  show G (s₁.setTop (mkF m 1 #[.val (.ref a0_), .unset, .unset] [(.ref a0_)]))
  obtain ⟨T1, X1, e1, st1⟩ := getF X0 hx hZ hown (host := "") (Or.inl (hw _ (List.mem_of_getElem? (i := 31) rfl))) Via.refl e0 F_s (g := (mkF m 1 #[.val (.ref a0_), .unset, .unset] [(.ref a0_)])) rfl rfl (hb hby d4_1)
  refine gs (fun t k => st1 _ k) ?_
  show G (T1.setTop (mkF m 4 #[.val (.ref a0_), .unset, .unset] [(.ref bs)]))
  obtain ⟨lc2, lA2, -, lS2, lN2, -, -⟩ := id V_s
  refine gs (fun t k => X1.arraylength hx (by rw [e1]; exact lA2.1) (State.isArrayOf_alike hZ.alike lA2.2.1) (g := (mkF m 4 #[.val (.ref a0_), .unset, .unset] [(.ref bs)])) rfl rfl (hb hby d4_4) _ k) ?_
  rw [len_of lS2 lN2]
  show G (T1.setTop (mkF m 5 #[.val (.ref a0_), .unset, .unset] [(.int (3 : Int32))]))
  obtain ⟨T3, h3, k3, X3, e3, E3, A3, st3⟩ := newP X1 hx hZ (hw _ (List.mem_of_getElem? (i := 1) rfl)) e1 (g := (mkF m 5 #[.val (.ref a0_), .unset, .unset] [(.int (3 : Int32))])) rfl (hb hby d4_5) rfl (by decide) (cap := 3) (by decide) (by decide) (by decide) (by decide)
  obtain ⟨b3, g3⟩ : ∃ z, z = h0.size := ⟨_, rfl⟩
  rw [← g3] at A3 st3
  have sz_b3 : h0.size ≤ b3 := Nat.le_trans K0.1 (Nat.le_of_eq g3.symm)
  have g_b3 : n0 ≤ b3 := Nat.le_trans Z0 sz_b3
  have ne_a0__b3 : a0_ ≠ b3 := Nat.ne_of_lt (Nat.lt_of_lt_of_le F_w.lt (Nat.le_of_eq g3.symm))
  have ne_bw_b3 : bw ≠ b3 := Nat.ne_of_lt (Nat.lt_of_lt_of_le V_w.lt (Nat.le_of_eq g3.symm))
  have ne_bs_b3 : bs ≠ b3 := Nat.ne_of_lt (Nat.lt_of_lt_of_le V_s.lt (Nat.le_of_eq g3.symm))
  have F_w_q4 := F_w.ext E3
  have F_s_q5 := F_s.ext E3
  have V_w_q6 := V_w.ext E3
  have V_s_q7 := V_s.ext E3
  have K8 := K0.ext E3
  have V_b3 : Arv Z h3 b3 k3 .double (3 : Int32) [(.double (0 : UInt64)), (.double (0 : UInt64)), (.double (0 : UInt64))] (.double (0 : UInt64)) := (Arv.new A3 (by decide)).pad (pad_rep [] (.double (0 : UInt64)) 3)
  refine gs (fun t k => st3 _ k) ?_
  show G (T3.setTop (mkF m 7 #[.val (.ref a0_), .unset, .unset] [(.ref b3)]))
  refine gs (fun t k => XS.astoreN X3.here hx rfl (hb hby d4_7) rfl rfl (l' := #[.val (.ref a0_), .val (.ref b3), .unset]) rfl k) ?_
  show G (T3.setTop (mkF m 8 #[.val (.ref a0_), .val (.ref b3), .unset] []))
  refine gs (fun t k => XS.iconst X3.here hx rfl (hb hby d4_8) k) ?_
  show G (T3.setTop (mkF m 9 #[.val (.ref a0_), .val (.ref b3), .unset] [(.int (0 : Int32))]))
  refine gs (fun t k => XS.istoreN X3.here hx rfl (hb hby d4_9) rfl (l' := #[.val (.ref a0_), .val (.ref b3), .val (.int (0 : Int32))]) rfl k) ?_
  show G (T3.setTop (mkF m 10 #[.val (.ref a0_), .val (.ref b3), .val (.int (0 : Int32))] []))
  refine gs (fun t k => XS.iloadN X3.here hx rfl (hb hby d4_10) rfl k) ?_
  show G (T3.setTop (mkF m 11 #[.val (.ref a0_), .val (.ref b3), .val (.int (0 : Int32))] [(.int (0 : Int32))]))
  refine gs (fun t k => XS.aloadN X3.here hx rfl (hb hby d4_11) rfl rfl k) ?_
  show G (T3.setTop (mkF m 12 #[.val (.ref a0_), .val (.ref b3), .val (.int (0 : Int32))] [(.ref a0_), (.int (0 : Int32))]))
  obtain ⟨T9, X9, e9, st9⟩ := getF X3 hx hZ hown (host := "") (Or.inl (hw _ (List.mem_of_getElem? (i := 31) rfl))) Via.refl e3 F_s_q5 (g := (mkF m 12 #[.val (.ref a0_), .val (.ref b3), .val (.int (0 : Int32))] [(.ref a0_), (.int (0 : Int32))])) rfl rfl (hb hby d4_12)
  refine gs (fun t k => st9 _ k) ?_
  show G (T9.setTop (mkF m 15 #[.val (.ref a0_), .val (.ref b3), .val (.int (0 : Int32))] [(.ref bs), (.int (0 : Int32))]))
  obtain ⟨lc10, lA10, -, lS10, lN10, -, -⟩ := id V_s_q7
  refine gs (fun t k => X9.arraylength hx (by rw [e9]; exact lA10.1) (State.isArrayOf_alike hZ.alike lA10.2.1) (g := (mkF m 15 #[.val (.ref a0_), .val (.ref b3), .val (.int (0 : Int32))] [(.ref bs), (.int (0 : Int32))])) rfl rfl (hb hby d4_15) _ k) ?_
  rw [len_of lS10 lN10]
  show G (T9.setTop (mkF m 16 #[.val (.ref a0_), .val (.ref b3), .val (.int (0 : Int32))] [(.int (3 : Int32)), (.int (0 : Int32))]))
  refine gs (fun t k => XS.icmpNo X9.here hx rfl (hb hby d4_16) rfl (tlt (by decide : (0 : Int32) < (3 : Int32))).2.1 k) ?_
  show G (T9.setTop (mkF m 19 #[.val (.ref a0_), .val (.ref b3), .val (.int (0 : Int32))] []))
  refine gs (fun t k => XS.aloadN X9.here hx rfl (hb hby d4_19) rfl rfl k) ?_
  show G (T9.setTop (mkF m 20 #[.val (.ref a0_), .val (.ref b3), .val (.int (0 : Int32))] [(.ref b3)]))
  refine gs (fun t k => XS.iloadN X9.here hx rfl (hb hby d4_20) rfl k) ?_
  show G (T9.setTop (mkF m 21 #[.val (.ref a0_), .val (.ref b3), .val (.int (0 : Int32))] [(.int (0 : Int32)), (.ref b3)]))
  refine gs (fun t k => XS.aloadN X9.here hx rfl (hb hby d4_21) rfl rfl k) ?_
  show G (T9.setTop (mkF m 22 #[.val (.ref a0_), .val (.ref b3), .val (.int (0 : Int32))] [(.ref a0_), (.int (0 : Int32)), (.ref b3)]))
  obtain ⟨T11, X11, e11, st11⟩ := getF X9 hx hZ hown (host := "") (Or.inl (hw _ (List.mem_of_getElem? (i := 21) rfl))) Via.refl e9 F_w_q4 (g := (mkF m 22 #[.val (.ref a0_), .val (.ref b3), .val (.int (0 : Int32))] [(.ref a0_), (.int (0 : Int32)), (.ref b3)])) rfl rfl (hb hby d4_22)
  refine gs (fun t k => st11 _ k) ?_
  show G (T11.setTop (mkF m 25 #[.val (.ref a0_), .val (.ref b3), .val (.int (0 : Int32))] [(.ref bw), (.int (0 : Int32)), (.ref b3)]))
  refine gs (fun t k => XS.iloadN X11.here hx rfl (hb hby d4_25) rfl k) ?_
  show G (T11.setTop (mkF m 26 #[.val (.ref a0_), .val (.ref b3), .val (.int (0 : Int32))] [(.int (0 : Int32)), (.ref bw), (.int (0 : Int32)), (.ref b3)]))
  obtain ⟨lc12, lA12, -, lS12, lN12, lH12, -⟩ := id V_w_q6
  have lin12 : ¬ ((0 : Int32) < 0 ∨ lc12.slots.size ≤ ((0 : Int32)).toNatClampNeg) := inb_of lS12 ⟨by decide, by decide⟩
  have lat12 : lc12.slots[((0 : Int32)).toNatClampNeg]? = some (.double x0) := lH12 0 (by rw [lS12]; decide)
  refine gs (fun t k => X11.daload hx (j := (0 : Int32)) (v := (.double x0)) (by rw [e11]; exact lA12.1) (State.isArrayOf_alike hZ.alike lA12.2.1) lA12.2.2 lin12 lat12 (g := (mkF m 26 #[.val (.ref a0_), .val (.ref b3), .val (.int (0 : Int32))] [(.int (0 : Int32)), (.ref bw), (.int (0 : Int32)), (.ref b3)])) rfl rfl (hb hby d4_26) _ k) ?_
  show G (T11.setTop (mkF m 27 #[.val (.ref a0_), .val (.ref b3), .val (.int (0 : Int32))] [(.double x0), (.int (0 : Int32)), (.ref b3)]))
  refine gs (fun t k => X11.ldc2DoubleC hx hown (mvT hZ (hw _ (List.mem_of_getElem? (i := 44) rfl))) (g := (mkF m 27 #[.val (.ref a0_), .val (.ref b3), .val (.int (0 : Int32))] [(.double x0), (.int (0 : Int32)), (.ref b3)])) rfl (hb hby d4_27) _ k) ?_
  show G (T11.setTop (mkF m 30 #[.val (.ref a0_), .val (.ref b3), .val (.int (0 : Int32))] [(.double (4611686018427387904 : UInt64)), (.double x0), (.int (0 : Int32)), (.ref b3)]))
  refine gs (fun t k => XS.aloadN X11.here hx rfl (hb hby d4_30) rfl rfl k) ?_
  show G (T11.setTop (mkF m 31 #[.val (.ref a0_), .val (.ref b3), .val (.int (0 : Int32))] [(.ref a0_), (.double (4611686018427387904 : UInt64)), (.double x0), (.int (0 : Int32)), (.ref b3)]))
  obtain ⟨T13, X13, e13, st13⟩ := getF X11 hx hZ hown (host := "") (Or.inl (hw _ (List.mem_of_getElem? (i := 31) rfl))) Via.refl e11 F_s_q5 (g := (mkF m 31 #[.val (.ref a0_), .val (.ref b3), .val (.int (0 : Int32))] [(.ref a0_), (.double (4611686018427387904 : UInt64)), (.double x0), (.int (0 : Int32)), (.ref b3)])) rfl rfl (hb hby d4_31)
  refine gs (fun t k => st13 _ k) ?_
  show G (T13.setTop (mkF m 34 #[.val (.ref a0_), .val (.ref b3), .val (.int (0 : Int32))] [(.ref bs), (.double (4611686018427387904 : UInt64)), (.double x0), (.int (0 : Int32)), (.ref b3)]))
  refine gs (fun t k => XS.iloadN X13.here hx rfl (hb hby d4_34) rfl k) ?_
  show G (T13.setTop (mkF m 35 #[.val (.ref a0_), .val (.ref b3), .val (.int (0 : Int32))] [(.int (0 : Int32)), (.ref bs), (.double (4611686018427387904 : UInt64)), (.double x0), (.int (0 : Int32)), (.ref b3)]))
  obtain ⟨lc14, lA14, -, lS14, lN14, lH14, -⟩ := id V_s_q7
  have lin14 : ¬ ((0 : Int32) < 0 ∨ lc14.slots.size ≤ ((0 : Int32)).toNatClampNeg) := inb_of lS14 ⟨by decide, by decide⟩
  have lat14 : lc14.slots[((0 : Int32)).toNatClampNeg]? = some (.double y0) := lH14 0 (by rw [lS14]; decide)
  refine gs (fun t k => X13.daload hx (j := (0 : Int32)) (v := (.double y0)) (by rw [e13]; exact lA14.1) (State.isArrayOf_alike hZ.alike lA14.2.1) lA14.2.2 lin14 lat14 (g := (mkF m 35 #[.val (.ref a0_), .val (.ref b3), .val (.int (0 : Int32))] [(.int (0 : Int32)), (.ref bs), (.double (4611686018427387904 : UInt64)), (.double x0), (.int (0 : Int32)), (.ref b3)])) rfl rfl (hb hby d4_35) _ k) ?_
  show G (T13.setTop (mkF m 36 #[.val (.ref a0_), .val (.ref b3), .val (.int (0 : Int32))] [(.double y0), (.double (4611686018427387904 : UInt64)), (.double x0), (.int (0 : Int32)), (.ref b3)]))
  refine gs (fun t k => XS.dmulS X13.here hx rfl (hb hby d4_36) rfl (by rw [hm0]; exact nm0) hm0 k) ?_
  show G (T13.setTop (mkF m 37 #[.val (.ref a0_), .val (.ref b3), .val (.int (0 : Int32))] [(.double m0), (.double x0), (.int (0 : Int32)), (.ref b3)]))
  refine gs (fun t k => XS.dconst1 X13.here hx rfl (hb hby d4_37) rfl k) ?_
  show G (T13.setTop (mkF m 38 #[.val (.ref a0_), .val (.ref b3), .val (.int (0 : Int32))] [(.double FP.dconst1), (.double m0), (.double x0), (.int (0 : Int32)), (.ref b3)]))
  refine gs (fun t k => XS.daddS X13.here hx rfl (hb hby d4_38) rfl (by rw [ht0]; exact nt0) ht0 k) ?_
  show G (T13.setTop (mkF m 39 #[.val (.ref a0_), .val (.ref b3), .val (.int (0 : Int32))] [(.double t0), (.double x0), (.int (0 : Int32)), (.ref b3)]))
  refine gs (fun t k => XS.ddivS X13.here hx rfl (hb hby d4_39) rfl (by rw [hq0]; exact nq0) hq0 k) ?_
  show G (T13.setTop (mkF m 40 #[.val (.ref a0_), .val (.ref b3), .val (.int (0 : Int32))] [(.double q0), (.int (0 : Int32)), (.ref b3)]))
  obtain ⟨vc15, vA15, vq15, vS15, vN15, vH15, vG15⟩ := V_b3
  have hin15 : ¬ ((0 : Int32) < 0 ∨ vc15.slots.size ≤ ((0 : Int32)).toNatClampNeg) := inb_of vS15 ⟨by decide, by decide⟩
  obtain ⟨T15, h15, X15, e15, W15, st15⟩ := stD X13 hx hZ e13 vA15 (j := (0 : Int32)) hin15 (g := (mkF m 40 #[.val (.ref a0_), .val (.ref b3), .val (.int (0 : Int32))] [(.double q0), (.int (0 : Int32)), (.ref b3)])) rfl rfl (hb hby d4_40)
  have F_w_q16 := F_w_q4.other W15 (Or.inl ne_a0__b3)
  have F_s_q17 := F_s_q5.other W15 (Or.inl ne_a0__b3)
  have V_w_q18 := V_w_q6.other W15 ne_bw_b3
  have V_s_q19 := V_s_q7.other W15 ne_bs_b3
  have K20 := K8.wr W15 (Or.inr sz_b3)
  have V_b3_q15 := Arv.set vA15 vq15 vS15 vN15 vH15 vG15 rfl W15 0 rfl (Nat.le_of_ble_eq_true rfl)
  have N15 := Fr.snoc X15 N0 g_b3
  refine gs (fun t k => st15 _ k) ?_
  show G (T15.setTop (mkF m 41 #[.val (.ref a0_), .val (.ref b3), .val (.int (0 : Int32))] []))
  refine gs (fun t k => XS.iinc X15.here hx rfl (hb hby d4_41) rfl (l' := #[.val (.ref a0_), .val (.ref b3), .val (.int (1 : Int32))]) rfl k) ?_
  show G (T15.setTop (mkF m 44 #[.val (.ref a0_), .val (.ref b3), .val (.int (1 : Int32))] []))
  refine gs (fun t k => XS.goto X15.here hx rfl (pc0 := 44) (pc' := 10) rfl (hb hby d4_44) (by decide) (by decide) k) ?_
  show G (T15.setTop (mkF m 10 #[.val (.ref a0_), .val (.ref b3), .val (.int (1 : Int32))] []))
  refine gs (fun t k => XS.iloadN X15.here hx rfl (hb hby d4_10) rfl k) ?_
  show G (T15.setTop (mkF m 11 #[.val (.ref a0_), .val (.ref b3), .val (.int (1 : Int32))] [(.int (1 : Int32))]))
  refine gs (fun t k => XS.aloadN X15.here hx rfl (hb hby d4_11) rfl rfl k) ?_
  show G (T15.setTop (mkF m 12 #[.val (.ref a0_), .val (.ref b3), .val (.int (1 : Int32))] [(.ref a0_), (.int (1 : Int32))]))
  obtain ⟨T21, X21, e21, st21⟩ := getF X15 hx hZ hown (host := "") (Or.inl (hw _ (List.mem_of_getElem? (i := 31) rfl))) Via.refl e15 F_s_q17 (g := (mkF m 12 #[.val (.ref a0_), .val (.ref b3), .val (.int (1 : Int32))] [(.ref a0_), (.int (1 : Int32))])) rfl rfl (hb hby d4_12)
  refine gs (fun t k => st21 _ k) ?_
  show G (T21.setTop (mkF m 15 #[.val (.ref a0_), .val (.ref b3), .val (.int (1 : Int32))] [(.ref bs), (.int (1 : Int32))]))
  obtain ⟨lc22, lA22, -, lS22, lN22, -, -⟩ := id V_s_q19
  refine gs (fun t k => X21.arraylength hx (by rw [e21]; exact lA22.1) (State.isArrayOf_alike hZ.alike lA22.2.1) (g := (mkF m 15 #[.val (.ref a0_), .val (.ref b3), .val (.int (1 : Int32))] [(.ref bs), (.int (1 : Int32))])) rfl rfl (hb hby d4_15) _ k) ?_
  rw [len_of lS22 lN22]
  show G (T21.setTop (mkF m 16 #[.val (.ref a0_), .val (.ref b3), .val (.int (1 : Int32))] [(.int (3 : Int32)), (.int (1 : Int32))]))
  refine gs (fun t k => XS.icmpNo X21.here hx rfl (hb hby d4_16) rfl (tlt (by decide : (1 : Int32) < (3 : Int32))).2.1 k) ?_
  show G (T21.setTop (mkF m 19 #[.val (.ref a0_), .val (.ref b3), .val (.int (1 : Int32))] []))
  refine gs (fun t k => XS.aloadN X21.here hx rfl (hb hby d4_19) rfl rfl k) ?_
  show G (T21.setTop (mkF m 20 #[.val (.ref a0_), .val (.ref b3), .val (.int (1 : Int32))] [(.ref b3)]))
  refine gs (fun t k => XS.iloadN X21.here hx rfl (hb hby d4_20) rfl k) ?_
  show G (T21.setTop (mkF m 21 #[.val (.ref a0_), .val (.ref b3), .val (.int (1 : Int32))] [(.int (1 : Int32)), (.ref b3)]))
  refine gs (fun t k => XS.aloadN X21.here hx rfl (hb hby d4_21) rfl rfl k) ?_
  show G (T21.setTop (mkF m 22 #[.val (.ref a0_), .val (.ref b3), .val (.int (1 : Int32))] [(.ref a0_), (.int (1 : Int32)), (.ref b3)]))
  obtain ⟨T23, X23, e23, st23⟩ := getF X21 hx hZ hown (host := "") (Or.inl (hw _ (List.mem_of_getElem? (i := 21) rfl))) Via.refl e21 F_w_q16 (g := (mkF m 22 #[.val (.ref a0_), .val (.ref b3), .val (.int (1 : Int32))] [(.ref a0_), (.int (1 : Int32)), (.ref b3)])) rfl rfl (hb hby d4_22)
  refine gs (fun t k => st23 _ k) ?_
  show G (T23.setTop (mkF m 25 #[.val (.ref a0_), .val (.ref b3), .val (.int (1 : Int32))] [(.ref bw), (.int (1 : Int32)), (.ref b3)]))
  refine gs (fun t k => XS.iloadN X23.here hx rfl (hb hby d4_25) rfl k) ?_
  show G (T23.setTop (mkF m 26 #[.val (.ref a0_), .val (.ref b3), .val (.int (1 : Int32))] [(.int (1 : Int32)), (.ref bw), (.int (1 : Int32)), (.ref b3)]))
  obtain ⟨lc24, lA24, -, lS24, lN24, lH24, -⟩ := id V_w_q18
  have lin24 : ¬ ((1 : Int32) < 0 ∨ lc24.slots.size ≤ ((1 : Int32)).toNatClampNeg) := inb_of lS24 ⟨by decide, by decide⟩
  have lat24 : lc24.slots[((1 : Int32)).toNatClampNeg]? = some (.double x1) := lH24 1 (by rw [lS24]; decide)
  refine gs (fun t k => X23.daload hx (j := (1 : Int32)) (v := (.double x1)) (by rw [e23]; exact lA24.1) (State.isArrayOf_alike hZ.alike lA24.2.1) lA24.2.2 lin24 lat24 (g := (mkF m 26 #[.val (.ref a0_), .val (.ref b3), .val (.int (1 : Int32))] [(.int (1 : Int32)), (.ref bw), (.int (1 : Int32)), (.ref b3)])) rfl rfl (hb hby d4_26) _ k) ?_
  show G (T23.setTop (mkF m 27 #[.val (.ref a0_), .val (.ref b3), .val (.int (1 : Int32))] [(.double x1), (.int (1 : Int32)), (.ref b3)]))
  refine gs (fun t k => X23.ldc2DoubleC hx hown (mvT hZ (hw _ (List.mem_of_getElem? (i := 44) rfl))) (g := (mkF m 27 #[.val (.ref a0_), .val (.ref b3), .val (.int (1 : Int32))] [(.double x1), (.int (1 : Int32)), (.ref b3)])) rfl (hb hby d4_27) _ k) ?_
  show G (T23.setTop (mkF m 30 #[.val (.ref a0_), .val (.ref b3), .val (.int (1 : Int32))] [(.double (4611686018427387904 : UInt64)), (.double x1), (.int (1 : Int32)), (.ref b3)]))
  refine gs (fun t k => XS.aloadN X23.here hx rfl (hb hby d4_30) rfl rfl k) ?_
  show G (T23.setTop (mkF m 31 #[.val (.ref a0_), .val (.ref b3), .val (.int (1 : Int32))] [(.ref a0_), (.double (4611686018427387904 : UInt64)), (.double x1), (.int (1 : Int32)), (.ref b3)]))
  obtain ⟨T25, X25, e25, st25⟩ := getF X23 hx hZ hown (host := "") (Or.inl (hw _ (List.mem_of_getElem? (i := 31) rfl))) Via.refl e23 F_s_q17 (g := (mkF m 31 #[.val (.ref a0_), .val (.ref b3), .val (.int (1 : Int32))] [(.ref a0_), (.double (4611686018427387904 : UInt64)), (.double x1), (.int (1 : Int32)), (.ref b3)])) rfl rfl (hb hby d4_31)
  refine gs (fun t k => st25 _ k) ?_
  show G (T25.setTop (mkF m 34 #[.val (.ref a0_), .val (.ref b3), .val (.int (1 : Int32))] [(.ref bs), (.double (4611686018427387904 : UInt64)), (.double x1), (.int (1 : Int32)), (.ref b3)]))
  refine gs (fun t k => XS.iloadN X25.here hx rfl (hb hby d4_34) rfl k) ?_
  show G (T25.setTop (mkF m 35 #[.val (.ref a0_), .val (.ref b3), .val (.int (1 : Int32))] [(.int (1 : Int32)), (.ref bs), (.double (4611686018427387904 : UInt64)), (.double x1), (.int (1 : Int32)), (.ref b3)]))
  obtain ⟨lc26, lA26, -, lS26, lN26, lH26, -⟩ := id V_s_q19
  have lin26 : ¬ ((1 : Int32) < 0 ∨ lc26.slots.size ≤ ((1 : Int32)).toNatClampNeg) := inb_of lS26 ⟨by decide, by decide⟩
  have lat26 : lc26.slots[((1 : Int32)).toNatClampNeg]? = some (.double y1) := lH26 1 (by rw [lS26]; decide)
  refine gs (fun t k => X25.daload hx (j := (1 : Int32)) (v := (.double y1)) (by rw [e25]; exact lA26.1) (State.isArrayOf_alike hZ.alike lA26.2.1) lA26.2.2 lin26 lat26 (g := (mkF m 35 #[.val (.ref a0_), .val (.ref b3), .val (.int (1 : Int32))] [(.int (1 : Int32)), (.ref bs), (.double (4611686018427387904 : UInt64)), (.double x1), (.int (1 : Int32)), (.ref b3)])) rfl rfl (hb hby d4_35) _ k) ?_
  show G (T25.setTop (mkF m 36 #[.val (.ref a0_), .val (.ref b3), .val (.int (1 : Int32))] [(.double y1), (.double (4611686018427387904 : UInt64)), (.double x1), (.int (1 : Int32)), (.ref b3)]))
  refine gs (fun t k => XS.dmulS X25.here hx rfl (hb hby d4_36) rfl (by rw [hm1]; exact nm1) hm1 k) ?_
  show G (T25.setTop (mkF m 37 #[.val (.ref a0_), .val (.ref b3), .val (.int (1 : Int32))] [(.double m1), (.double x1), (.int (1 : Int32)), (.ref b3)]))
  refine gs (fun t k => XS.dconst1 X25.here hx rfl (hb hby d4_37) rfl k) ?_
  show G (T25.setTop (mkF m 38 #[.val (.ref a0_), .val (.ref b3), .val (.int (1 : Int32))] [(.double FP.dconst1), (.double m1), (.double x1), (.int (1 : Int32)), (.ref b3)]))
  refine gs (fun t k => XS.daddS X25.here hx rfl (hb hby d4_38) rfl (by rw [ht1]; exact nt1) ht1 k) ?_
  show G (T25.setTop (mkF m 39 #[.val (.ref a0_), .val (.ref b3), .val (.int (1 : Int32))] [(.double t1), (.double x1), (.int (1 : Int32)), (.ref b3)]))
  refine gs (fun t k => XS.ddivS X25.here hx rfl (hb hby d4_39) rfl (by rw [hq1]; exact nq1) hq1 k) ?_
  show G (T25.setTop (mkF m 40 #[.val (.ref a0_), .val (.ref b3), .val (.int (1 : Int32))] [(.double q1), (.int (1 : Int32)), (.ref b3)]))
  obtain ⟨vc27, vA27, vq27, vS27, vN27, vH27, vG27⟩ := V_b3_q15
  have hin27 : ¬ ((1 : Int32) < 0 ∨ vc27.slots.size ≤ ((1 : Int32)).toNatClampNeg) := inb_of vS27 ⟨by decide, by decide⟩
  obtain ⟨T27, h27, X27, e27, W27, st27⟩ := stD X25 hx hZ e25 vA27 (j := (1 : Int32)) hin27 (g := (mkF m 40 #[.val (.ref a0_), .val (.ref b3), .val (.int (1 : Int32))] [(.double q1), (.int (1 : Int32)), (.ref b3)])) rfl rfl (hb hby d4_40)
  have F_w_q28 := F_w_q16.other W27 (Or.inl ne_a0__b3)
  have F_s_q29 := F_s_q17.other W27 (Or.inl ne_a0__b3)
  have V_w_q30 := V_w_q18.other W27 ne_bw_b3
  have V_s_q31 := V_s_q19.other W27 ne_bs_b3
  have K32 := K20.wr W27 (Or.inr sz_b3)
  have V_b3_q27 := Arv.set vA27 vq27 vS27 vN27 vH27 vG27 rfl W27 1 rfl (Nat.le_of_ble_eq_true rfl)
  have N27 := Fr.snoc X27 N15 g_b3
  refine gs (fun t k => st27 _ k) ?_
  show G (T27.setTop (mkF m 41 #[.val (.ref a0_), .val (.ref b3), .val (.int (1 : Int32))] []))
  refine gs (fun t k => XS.iinc X27.here hx rfl (hb hby d4_41) rfl (l' := #[.val (.ref a0_), .val (.ref b3), .val (.int (2 : Int32))]) rfl k) ?_
  show G (T27.setTop (mkF m 44 #[.val (.ref a0_), .val (.ref b3), .val (.int (2 : Int32))] []))
  refine gs (fun t k => XS.goto X27.here hx rfl (pc0 := 44) (pc' := 10) rfl (hb hby d4_44) (by decide) (by decide) k) ?_
  show G (T27.setTop (mkF m 10 #[.val (.ref a0_), .val (.ref b3), .val (.int (2 : Int32))] []))
  refine gs (fun t k => XS.iloadN X27.here hx rfl (hb hby d4_10) rfl k) ?_
  show G (T27.setTop (mkF m 11 #[.val (.ref a0_), .val (.ref b3), .val (.int (2 : Int32))] [(.int (2 : Int32))]))
  refine gs (fun t k => XS.aloadN X27.here hx rfl (hb hby d4_11) rfl rfl k) ?_
  show G (T27.setTop (mkF m 12 #[.val (.ref a0_), .val (.ref b3), .val (.int (2 : Int32))] [(.ref a0_), (.int (2 : Int32))]))
  obtain ⟨T33, X33, e33, st33⟩ := getF X27 hx hZ hown (host := "") (Or.inl (hw _ (List.mem_of_getElem? (i := 31) rfl))) Via.refl e27 F_s_q29 (g := (mkF m 12 #[.val (.ref a0_), .val (.ref b3), .val (.int (2 : Int32))] [(.ref a0_), (.int (2 : Int32))])) rfl rfl (hb hby d4_12)
  refine gs (fun t k => st33 _ k) ?_
  show G (T33.setTop (mkF m 15 #[.val (.ref a0_), .val (.ref b3), .val (.int (2 : Int32))] [(.ref bs), (.int (2 : Int32))]))
  obtain ⟨lc34, lA34, -, lS34, lN34, -, -⟩ := id V_s_q31
  refine gs (fun t k => X33.arraylength hx (by rw [e33]; exact lA34.1) (State.isArrayOf_alike hZ.alike lA34.2.1) (g := (mkF m 15 #[.val (.ref a0_), .val (.ref b3), .val (.int (2 : Int32))] [(.ref bs), (.int (2 : Int32))])) rfl rfl (hb hby d4_15) _ k) ?_
  rw [len_of lS34 lN34]
  show G (T33.setTop (mkF m 16 #[.val (.ref a0_), .val (.ref b3), .val (.int (2 : Int32))] [(.int (3 : Int32)), (.int (2 : Int32))]))
  refine gs (fun t k => XS.icmpNo X33.here hx rfl (hb hby d4_16) rfl (tlt (by decide : (2 : Int32) < (3 : Int32))).2.1 k) ?_
  show G (T33.setTop (mkF m 19 #[.val (.ref a0_), .val (.ref b3), .val (.int (2 : Int32))] []))
  refine gs (fun t k => XS.aloadN X33.here hx rfl (hb hby d4_19) rfl rfl k) ?_
  show G (T33.setTop (mkF m 20 #[.val (.ref a0_), .val (.ref b3), .val (.int (2 : Int32))] [(.ref b3)]))
  refine gs (fun t k => XS.iloadN X33.here hx rfl (hb hby d4_20) rfl k) ?_
  show G (T33.setTop (mkF m 21 #[.val (.ref a0_), .val (.ref b3), .val (.int (2 : Int32))] [(.int (2 : Int32)), (.ref b3)]))
  refine gs (fun t k => XS.aloadN X33.here hx rfl (hb hby d4_21) rfl rfl k) ?_
  show G (T33.setTop (mkF m 22 #[.val (.ref a0_), .val (.ref b3), .val (.int (2 : Int32))] [(.ref a0_), (.int (2 : Int32)), (.ref b3)]))
  obtain ⟨T35, X35, e35, st35⟩ := getF X33 hx hZ hown (host := "") (Or.inl (hw _ (List.mem_of_getElem? (i := 21) rfl))) Via.refl e33 F_w_q28 (g := (mkF m 22 #[.val (.ref a0_), .val (.ref b3), .val (.int (2 : Int32))] [(.ref a0_), (.int (2 : Int32)), (.ref b3)])) rfl rfl (hb hby d4_22)
  refine gs (fun t k => st35 _ k) ?_
  show G (T35.setTop (mkF m 25 #[.val (.ref a0_), .val (.ref b3), .val (.int (2 : Int32))] [(.ref bw), (.int (2 : Int32)), (.ref b3)]))
  refine gs (fun t k => XS.iloadN X35.here hx rfl (hb hby d4_25) rfl k) ?_
  show G (T35.setTop (mkF m 26 #[.val (.ref a0_), .val (.ref b3), .val (.int (2 : Int32))] [(.int (2 : Int32)), (.ref bw), (.int (2 : Int32)), (.ref b3)]))
  obtain ⟨lc36, lA36, -, lS36, lN36, lH36, -⟩ := id V_w_q30
  have lin36 : ¬ ((2 : Int32) < 0 ∨ lc36.slots.size ≤ ((2 : Int32)).toNatClampNeg) := inb_of lS36 ⟨by decide, by decide⟩
  have lat36 : lc36.slots[((2 : Int32)).toNatClampNeg]? = some (.double x2) := lH36 2 (by rw [lS36]; decide)
  refine gs (fun t k => X35.daload hx (j := (2 : Int32)) (v := (.double x2)) (by rw [e35]; exact lA36.1) (State.isArrayOf_alike hZ.alike lA36.2.1) lA36.2.2 lin36 lat36 (g := (mkF m 26 #[.val (.ref a0_), .val (.ref b3), .val (.int (2 : Int32))] [(.int (2 : Int32)), (.ref bw), (.int (2 : Int32)), (.ref b3)])) rfl rfl (hb hby d4_26) _ k) ?_
  show G (T35.setTop (mkF m 27 #[.val (.ref a0_), .val (.ref b3), .val (.int (2 : Int32))] [(.double x2), (.int (2 : Int32)), (.ref b3)]))
  refine gs (fun t k => X35.ldc2DoubleC hx hown (mvT hZ (hw _ (List.mem_of_getElem? (i := 44) rfl))) (g := (mkF m 27 #[.val (.ref a0_), .val (.ref b3), .val (.int (2 : Int32))] [(.double x2), (.int (2 : Int32)), (.ref b3)])) rfl (hb hby d4_27) _ k) ?_
  show G (T35.setTop (mkF m 30 #[.val (.ref a0_), .val (.ref b3), .val (.int (2 : Int32))] [(.double (4611686018427387904 : UInt64)), (.double x2), (.int (2 : Int32)), (.ref b3)]))
  refine gs (fun t k => XS.aloadN X35.here hx rfl (hb hby d4_30) rfl rfl k) ?_
  show G (T35.setTop (mkF m 31 #[.val (.ref a0_), .val (.ref b3), .val (.int (2 : Int32))] [(.ref a0_), (.double (4611686018427387904 : UInt64)), (.double x2), (.int (2 : Int32)), (.ref b3)]))
  obtain ⟨T37, X37, e37, st37⟩ := getF X35 hx hZ hown (host := "") (Or.inl (hw _ (List.mem_of_getElem? (i := 31) rfl))) Via.refl e35 F_s_q29 (g := (mkF m 31 #[.val (.ref a0_), .val (.ref b3), .val (.int (2 : Int32))] [(.ref a0_), (.double (4611686018427387904 : UInt64)), (.double x2), (.int (2 : Int32)), (.ref b3)])) rfl rfl (hb hby d4_31)
  refine gs (fun t k => st37 _ k) ?_
  show G (T37.setTop (mkF m 34 #[.val (.ref a0_), .val (.ref b3), .val (.int (2 : Int32))] [(.ref bs), (.double (4611686018427387904 : UInt64)), (.double x2), (.int (2 : Int32)), (.ref b3)]))
  refine gs (fun t k => XS.iloadN X37.here hx rfl (hb hby d4_34) rfl k) ?_
  show G (T37.setTop (mkF m 35 #[.val (.ref a0_), .val (.ref b3), .val (.int (2 : Int32))] [(.int (2 : Int32)), (.ref bs), (.double (4611686018427387904 : UInt64)), (.double x2), (.int (2 : Int32)), (.ref b3)]))
  obtain ⟨lc38, lA38, -, lS38, lN38, lH38, -⟩ := id V_s_q31
  have lin38 : ¬ ((2 : Int32) < 0 ∨ lc38.slots.size ≤ ((2 : Int32)).toNatClampNeg) := inb_of lS38 ⟨by decide, by decide⟩
  have lat38 : lc38.slots[((2 : Int32)).toNatClampNeg]? = some (.double y2) := lH38 2 (by rw [lS38]; decide)
  refine gs (fun t k => X37.daload hx (j := (2 : Int32)) (v := (.double y2)) (by rw [e37]; exact lA38.1) (State.isArrayOf_alike hZ.alike lA38.2.1) lA38.2.2 lin38 lat38 (g := (mkF m 35 #[.val (.ref a0_), .val (.ref b3), .val (.int (2 : Int32))] [(.int (2 : Int32)), (.ref bs), (.double (4611686018427387904 : UInt64)), (.double x2), (.int (2 : Int32)), (.ref b3)])) rfl rfl (hb hby d4_35) _ k) ?_
  show G (T37.setTop (mkF m 36 #[.val (.ref a0_), .val (.ref b3), .val (.int (2 : Int32))] [(.double y2), (.double (4611686018427387904 : UInt64)), (.double x2), (.int (2 : Int32)), (.ref b3)]))
  refine gs (fun t k => XS.dmulS X37.here hx rfl (hb hby d4_36) rfl (by rw [hm2]; exact nm2) hm2 k) ?_
  show G (T37.setTop (mkF m 37 #[.val (.ref a0_), .val (.ref b3), .val (.int (2 : Int32))] [(.double m2), (.double x2), (.int (2 : Int32)), (.ref b3)]))
  refine gs (fun t k => XS.dconst1 X37.here hx rfl (hb hby d4_37) rfl k) ?_
  show G (T37.setTop (mkF m 38 #[.val (.ref a0_), .val (.ref b3), .val (.int (2 : Int32))] [(.double FP.dconst1), (.double m2), (.double x2), (.int (2 : Int32)), (.ref b3)]))
  refine gs (fun t k => XS.daddS X37.here hx rfl (hb hby d4_38) rfl (by rw [ht2]; exact nt2) ht2 k) ?_
  show G (T37.setTop (mkF m 39 #[.val (.ref a0_), .val (.ref b3), .val (.int (2 : Int32))] [(.double t2), (.double x2), (.int (2 : Int32)), (.ref b3)]))
  refine gs (fun t k => XS.ddivS X37.here hx rfl (hb hby d4_39) rfl (by rw [hq2]; exact nq2) hq2 k) ?_
  show G (T37.setTop (mkF m 40 #[.val (.ref a0_), .val (.ref b3), .val (.int (2 : Int32))] [(.double q2), (.int (2 : Int32)), (.ref b3)]))
  obtain ⟨vc39, vA39, vq39, vS39, vN39, vH39, vG39⟩ := V_b3_q27
  have hin39 : ¬ ((2 : Int32) < 0 ∨ vc39.slots.size ≤ ((2 : Int32)).toNatClampNeg) := inb_of vS39 ⟨by decide, by decide⟩
  obtain ⟨T39, h39, X39, e39, W39, st39⟩ := stD X37 hx hZ e37 vA39 (j := (2 : Int32)) hin39 (g := (mkF m 40 #[.val (.ref a0_), .val (.ref b3), .val (.int (2 : Int32))] [(.double q2), (.int (2 : Int32)), (.ref b3)])) rfl rfl (hb hby d4_40)
  have F_w_q40 := F_w_q28.other W39 (Or.inl ne_a0__b3)
  have F_s_q41 := F_s_q29.other W39 (Or.inl ne_a0__b3)
  have V_w_q42 := V_w_q30.other W39 ne_bw_b3
  have V_s_q43 := V_s_q31.other W39 ne_bs_b3
  have K44 := K32.wr W39 (Or.inr sz_b3)
  have V_b3_q39 := Arv.set vA39 vq39 vS39 vN39 vH39 vG39 rfl W39 2 rfl (Nat.le_of_ble_eq_true rfl)
  have N39 := Fr.snoc X39 N27 g_b3
  refine gs (fun t k => st39 _ k) ?_
  show G (T39.setTop (mkF m 41 #[.val (.ref a0_), .val (.ref b3), .val (.int (2 : Int32))] []))
  refine gs (fun t k => XS.iinc X39.here hx rfl (hb hby d4_41) rfl (l' := #[.val (.ref a0_), .val (.ref b3), .val (.int (3 : Int32))]) rfl k) ?_
  show G (T39.setTop (mkF m 44 #[.val (.ref a0_), .val (.ref b3), .val (.int (3 : Int32))] []))
  refine gs (fun t k => XS.goto X39.here hx rfl (pc0 := 44) (pc' := 10) rfl (hb hby d4_44) (by decide) (by decide) k) ?_
  show G (T39.setTop (mkF m 10 #[.val (.ref a0_), .val (.ref b3), .val (.int (3 : Int32))] []))
  refine gs (fun t k => XS.iloadN X39.here hx rfl (hb hby d4_10) rfl k) ?_
  show G (T39.setTop (mkF m 11 #[.val (.ref a0_), .val (.ref b3), .val (.int (3 : Int32))] [(.int (3 : Int32))]))
  refine gs (fun t k => XS.aloadN X39.here hx rfl (hb hby d4_11) rfl rfl k) ?_
  show G (T39.setTop (mkF m 12 #[.val (.ref a0_), .val (.ref b3), .val (.int (3 : Int32))] [(.ref a0_), (.int (3 : Int32))]))
  obtain ⟨T45, X45, e45, st45⟩ := getF X39 hx hZ hown (host := "") (Or.inl (hw _ (List.mem_of_getElem? (i := 31) rfl))) Via.refl e39 F_s_q41 (g := (mkF m 12 #[.val (.ref a0_), .val (.ref b3), .val (.int (3 : Int32))] [(.ref a0_), (.int (3 : Int32))])) rfl rfl (hb hby d4_12)
  refine gs (fun t k => st45 _ k) ?_
  show G (T45.setTop (mkF m 15 #[.val (.ref a0_), .val (.ref b3), .val (.int (3 : Int32))] [(.ref bs), (.int (3 : Int32))]))
  obtain ⟨lc46, lA46, -, lS46, lN46, -, -⟩ := id V_s_q43
  refine gs (fun t k => X45.arraylength hx (by rw [e45]; exact lA46.1) (State.isArrayOf_alike hZ.alike lA46.2.1) (g := (mkF m 15 #[.val (.ref a0_), .val (.ref b3), .val (.int (3 : Int32))] [(.ref bs), (.int (3 : Int32))])) rfl rfl (hb hby d4_15) _ k) ?_
  rw [len_of lS46 lN46]
  show G (T45.setTop (mkF m 16 #[.val (.ref a0_), .val (.ref b3), .val (.int (3 : Int32))] [(.int (3 : Int32)), (.int (3 : Int32))]))
  refine gs (fun t k => XS.icmpYes X45.here hx rfl (pc0 := 16) (pc' := 47) rfl (hb hby d4_16) rfl (flt (by decide : ¬ ((3 : Int32) < (3 : Int32)))).2.1 (by decide) (by decide) k) ?_
  show G (T45.setTop (mkF m 47 #[.val (.ref a0_), .val (.ref b3), .val (.int (3 : Int32))] []))
  refine gs (fun t k => XS.aloadN X45.here hx rfl (hb hby d4_47) rfl rfl k) ?_
  show G (T45.setTop (mkF m 48 #[.val (.ref a0_), .val (.ref b3), .val (.int (3 : Int32))] [(.ref b3)]))
  obtain ⟨fs, hr, hrun, hended, hW, hsame⟩ := X45.leave (v := some (.ref b3)) (fun h => by rw [Bd.returns] at h; cases h)
  refine gl _ ⟨_, _, retOut X45 hx Bd.returns rfl (Or.inr (Or.inr (Or.inr (Or.inr ⟨rfl, rfl, rfl⟩)))) (hb hby d4_48) hr, hrun, hended, _, _, rfl, ?_, ⟨_, rfl⟩, hW, hsame.mono (by decide) (by decide)⟩
  show Q4 Z q0 q1 q2 h0 n0 _ T45.heap _
  rw [e45]
  exact ⟨_, _, rfl, N39, K44, V_b3_q39⟩
theorem pd_0 : parseMethodDescriptor "([D[I)V" = some ⟨[(.array .double), (.array .int)], none⟩ := by decide +kernel
theorem pd_1 : parseMethodDescriptor "(ID)V" = some ⟨[.int, .double], none⟩ := by decide +kernel
theorem pd_2 : parseMethodDescriptor "()[D" = some ⟨[], some (.array .double)⟩ := by decide +kernel
theorem pn_com_example_consensus_to_coverage_consensustocoverage_reranking_ProportionalSeatsQuotientsPinLaw : plainName "com/example/consensus_to_coverage/consensustocoverage/reranking/ProportionalSeatsQuotientsPinLaw" = true := by first | (simp [plainName, overriddenIn]; done) | decide +kernel
theorem ef_0 (m : MethodId) (p0 : Int32) (p1 : Int32) (p2 : Int32) (p3 : Int32) (p4 : Int32) (p5 : Int32) : entryFrame m #[(.int p0), (.int p1), (.int p2), (.int p3), (.int p4), (.int p5)] maxLocals = mkF m 0 #[.val (.int p0), .val (.int p1), .val (.int p2), .val (.int p3), .val (.int p4), .val (.int p5), .unset, .unset, .unset, .unset, .unset, .unset, .unset, .unset, .unset, .unset, .unset, .unset, .unset, .unset, .unset, .unset, .unset, .unset] [] := by first | (simp [entryFrame, mkF, argsToLocals, Value.category, maxLocals]; done) | rfl
def Q0 (h0 : Heap) (n0 : Nat) (v : Option Value) (h : Heap) (L : List Loc) : Prop := v = some (.int 1) ∧ Fr n0 L
set_option maxRecDepth 65536 in
set_option maxHeartbeats 40000000 in
theorem rm0 (l : Launch) (Z : State) (a0 : Array Value) (hw : ∀ d ∈ tables_1, d.before a0 Z = true) (ws : List Jvm.Cond) (p0 : Int32) (p1 : Int32) (p2 : Int32) (p3 : Int32) (p4 : Int32) (p5 : Int32)  (h0 : Heap) (n0 : Nat) (Z0 : n0 ≤ h0.size)  :
    MetFree l x (head1 (Jvm.Cond.code x code maxLocals ret :: ws) room_1) (fun a U => a = #[(.int p0), (.int p1), (.int p2), (.int p3), (.int p4), (.int p5)] ∧ Z.Warmed39 U.vm ∧ U.heap = h0) (fun _ _ _ _ _ => True) (fun _ U o U' => ∃ v L, o = .returned v ∧ Q0 h0 n0 v U'.heap L ∧ FrameEnd U o U' L room_1.cells room_1.slots) := by
  refine MetFree.of_bodySF (plainFor_of_name pn_com_example_consensus_to_coverage_consensustocoverage_reranking_ProportionalSeatsQuotientsPinLaw) hisR ?_
  intro p e s m args below meth c s₁ Bd hml0 hP hK
  obtain ⟨rfl, hZ, hh⟩ := hP
  have hx := Bd.exec
  have hby := Bd.bytes
  have hml : c.maxLocals = 24 := hml0
  have hown : s.vm.findClass "com/example/consensus_to_coverage/consensustocoverage/reranking/ProportionalSeatsQuotientsPinLaw" = some m.cls := findClass_of_methodNamed Bd.named
  have hnm := (name_of_methodNamed Bd.named Bd.method).1
  have X0 : Stand p l e room_1 s m #[(.int p0), (.int p1), (.int p2), (.int p3), (.int p4), (.int p5)] below meth c s₁ [] 0 0 := Stand.of_body Bd
  have e0 : s₁.heap = h0 := by rw [← hh, Bd.state]; rfl
  have N0 := Fr.nil n0
  have pre0 : ∀ t, Steps p.tables e below (s₁.setTop (mkF m 0 #[.val (.int p0), .val (.int p1), .val (.int p2), .val (.int p3), .val (.int p4), .val (.int p5), .unset, .unset, .unset, .unset, .unset, .unset, .unset, .unset, .unset, .unset, .unset, .unset, .unset, .unset, .unset, .unset, .unset, .unset] [])) t → Steps p.tables e below (s₁.setTop (entryFrame m #[(.int p0), (.int p1), (.int p2), (.int p3), (.int p4), (.int p5)] maxLocals)) t := fun t k => castTop (ef_0 m p0 p1 p2 p3 p4 p5) k
  have K0 := Keep.refl h0 []
  refine own_start pre0 fun G gs gl => ?_
  show G (s₁.setTop (mkF m 0 #[.val (.int p0), .val (.int p1), .val (.int p2), .val (.int p3), .val (.int p4), .val (.int p5), .unset, .unset, .unset, .unset, .unset, .unset, .unset, .unset, .unset, .unset, .unset, .unset, .unset, .unset, .unset, .unset, .unset, .unset] []))
  refine gs (fun t k => XS.iloadN X0.here hx rfl (hb hby at_0) rfl k) ?_
  show G (s₁.setTop (mkF m 1 #[.val (.int p0), .val (.int p1), .val (.int p2), .val (.int p3), .val (.int p4), .val (.int p5), .unset, .unset, .unset, .unset, .unset, .unset, .unset, .unset, .unset, .unset, .unset, .unset, .unset, .unset, .unset, .unset, .unset, .unset] [(.int p3)]))
  refine gs (fun t k => XS.sipush X0.here hx rfl (hb hby at_1) k) ?_
  show G (s₁.setTop (mkF m 4 #[.val (.int p0), .val (.int p1), .val (.int p2), .val (.int p3), .val (.int p4), .val (.int p5), .unset, .unset, .unset, .unset, .unset, .unset, .unset, .unset, .unset, .unset, .unset, .unset, .unset, .unset, .unset, .unset, .unset, .unset] [(.int (1023 : Int32)), (.int p3)]))
  refine gs (fun t k => XS.iand X0.here hx rfl (hb hby at_4) rfl k) ?_
  show G (s₁.setTop (mkF m 5 #[.val (.int p0), .val (.int p1), .val (.int p2), .val (.int p3), .val (.int p4), .val (.int p5), .unset, .unset, .unset, .unset, .unset, .unset, .unset, .unset, .unset, .unset, .unset, .unset, .unset, .unset, .unset, .unset, .unset, .unset] [(.int (p3 &&& (1023 : Int32)))]))
  refine gs (fun t k => XS.i2l X0.here hx rfl (hb hby at_5) rfl k) ?_
  show G (s₁.setTop (mkF m 6 #[.val (.int p0), .val (.int p1), .val (.int p2), .val (.int p3), .val (.int p4), .val (.int p5), .unset, .unset, .unset, .unset, .unset, .unset, .unset, .unset, .unset, .unset, .unset, .unset, .unset, .unset, .unset, .unset, .unset, .unset] [(.long ((p3 &&& (1023 : Int32)).toInt64))]))
  obtain ⟨s0, hs0⟩ : ∃ z : Int64, z = ((p3 &&& (1023 : Int32)).toInt64) := ⟨_, rfl⟩
  rw [← hs0]
  show G (s₁.setTop (mkF m 6 #[.val (.int p0), .val (.int p1), .val (.int p2), .val (.int p3), .val (.int p4), .val (.int p5), .unset, .unset, .unset, .unset, .unset, .unset, .unset, .unset, .unset, .unset, .unset, .unset, .unset, .unset, .unset, .unset, .unset, .unset] [(.long s0)]))
  obtain ⟨S0, nn0, hnn0⟩ := own_fin hs0
  refine gs (fun t k => XS.lstore X0.here hx rfl (hb hby at_6) rfl (l' := #[.val (.int p0), .val (.int p1), .val (.int p2), .val (.int p3), .val (.int p4), .val (.int p5), .val (.long s0), .second, .unset, .unset, .unset, .unset, .unset, .unset, .unset, .unset, .unset, .unset, .unset, .unset, .unset, .unset, .unset, .unset]) rfl k) ?_
  show G (s₁.setTop (mkF m 8 #[.val (.int p0), .val (.int p1), .val (.int p2), .val (.int p3), .val (.int p4), .val (.int p5), .val (.long s0), .second, .unset, .unset, .unset, .unset, .unset, .unset, .unset, .unset, .unset, .unset, .unset, .unset, .unset, .unset, .unset, .unset] []))
  refine gs (fun t k => XS.iload X0.here hx rfl (hb hby at_8) rfl k) ?_
  show G (s₁.setTop (mkF m 10 #[.val (.int p0), .val (.int p1), .val (.int p2), .val (.int p3), .val (.int p4), .val (.int p5), .val (.long s0), .second, .unset, .unset, .unset, .unset, .unset, .unset, .unset, .unset, .unset, .unset, .unset, .unset, .unset, .unset, .unset, .unset] [(.int p4)]))
  refine gs (fun t k => XS.sipush X0.here hx rfl (hb hby at_10) k) ?_
  show G (s₁.setTop (mkF m 13 #[.val (.int p0), .val (.int p1), .val (.int p2), .val (.int p3), .val (.int p4), .val (.int p5), .val (.long s0), .second, .unset, .unset, .unset, .unset, .unset, .unset, .unset, .unset, .unset, .unset, .unset, .unset, .unset, .unset, .unset, .unset] [(.int (1023 : Int32)), (.int p4)]))
  refine gs (fun t k => XS.iand X0.here hx rfl (hb hby at_13) rfl k) ?_
  show G (s₁.setTop (mkF m 14 #[.val (.int p0), .val (.int p1), .val (.int p2), .val (.int p3), .val (.int p4), .val (.int p5), .val (.long s0), .second, .unset, .unset, .unset, .unset, .unset, .unset, .unset, .unset, .unset, .unset, .unset, .unset, .unset, .unset, .unset, .unset] [(.int (p4 &&& (1023 : Int32)))]))
  refine gs (fun t k => XS.i2l X0.here hx rfl (hb hby at_14) rfl k) ?_
  show G (s₁.setTop (mkF m 15 #[.val (.int p0), .val (.int p1), .val (.int p2), .val (.int p3), .val (.int p4), .val (.int p5), .val (.long s0), .second, .unset, .unset, .unset, .unset, .unset, .unset, .unset, .unset, .unset, .unset, .unset, .unset, .unset, .unset, .unset, .unset] [(.long ((p4 &&& (1023 : Int32)).toInt64))]))
  obtain ⟨s1, hs1⟩ : ∃ z : Int64, z = ((p4 &&& (1023 : Int32)).toInt64) := ⟨_, rfl⟩
  rw [← hs1]
  show G (s₁.setTop (mkF m 15 #[.val (.int p0), .val (.int p1), .val (.int p2), .val (.int p3), .val (.int p4), .val (.int p5), .val (.long s0), .second, .unset, .unset, .unset, .unset, .unset, .unset, .unset, .unset, .unset, .unset, .unset, .unset, .unset, .unset, .unset, .unset] [(.long s1)]))
  obtain ⟨S1, nn1, hnn1⟩ := own_fin hs1
  refine gs (fun t k => XS.lstore X0.here hx rfl (hb hby at_15) rfl (l' := #[.val (.int p0), .val (.int p1), .val (.int p2), .val (.int p3), .val (.int p4), .val (.int p5), .val (.long s0), .second, .val (.long s1), .second, .unset, .unset, .unset, .unset, .unset, .unset, .unset, .unset, .unset, .unset, .unset, .unset, .unset, .unset]) rfl k) ?_
  show G (s₁.setTop (mkF m 17 #[.val (.int p0), .val (.int p1), .val (.int p2), .val (.int p3), .val (.int p4), .val (.int p5), .val (.long s0), .second, .val (.long s1), .second, .unset, .unset, .unset, .unset, .unset, .unset, .unset, .unset, .unset, .unset, .unset, .unset, .unset, .unset] []))
  refine gs (fun t k => XS.iload X0.here hx rfl (hb hby at_17) rfl k) ?_
  show G (s₁.setTop (mkF m 19 #[.val (.int p0), .val (.int p1), .val (.int p2), .val (.int p3), .val (.int p4), .val (.int p5), .val (.long s0), .second, .val (.long s1), .second, .unset, .unset, .unset, .unset, .unset, .unset, .unset, .unset, .unset, .unset, .unset, .unset, .unset, .unset] [(.int p5)]))
  refine gs (fun t k => XS.iconst X0.here hx rfl (hb hby at_19) k) ?_
  show G (s₁.setTop (mkF m 20 #[.val (.int p0), .val (.int p1), .val (.int p2), .val (.int p3), .val (.int p4), .val (.int p5), .val (.long s0), .second, .val (.long s1), .second, .unset, .unset, .unset, .unset, .unset, .unset, .unset, .unset, .unset, .unset, .unset, .unset, .unset, .unset] [(.int (1 : Int32)), (.int p5)]))
  refine gs (fun t k => XS.iand X0.here hx rfl (hb hby at_20) rfl k) ?_
  show G (s₁.setTop (mkF m 21 #[.val (.int p0), .val (.int p1), .val (.int p2), .val (.int p3), .val (.int p4), .val (.int p5), .val (.long s0), .second, .val (.long s1), .second, .unset, .unset, .unset, .unset, .unset, .unset, .unset, .unset, .unset, .unset, .unset, .unset, .unset, .unset] [(.int (p5 &&& (1 : Int32)))]))
  by_cases hc21 : (p5 &&& (1 : Int32)) = (0 : Int32)
  · refine gs (fun t k => XS.ifYes X0.here hx rfl (pc0 := 21) (pc' := 28) rfl (hb hby at_21) rfl ((if0 _ _).trans (teq hc21).1) (by decide) (by decide) k) ?_
    show G (s₁.setTop (mkF m 28 #[.val (.int p0), .val (.int p1), .val (.int p2), .val (.int p3), .val (.int p4), .val (.int p5), .val (.long s0), .second, .val (.long s1), .second, .unset, .unset, .unset, .unset, .unset, .unset, .unset, .unset, .unset, .unset, .unset, .unset, .unset, .unset] []))
    refine gs (fun t k => XS.iconst X0.here hx rfl (hb hby at_28) k) ?_
    show G (s₁.setTop (mkF m 29 #[.val (.int p0), .val (.int p1), .val (.int p2), .val (.int p3), .val (.int p4), .val (.int p5), .val (.long s0), .second, .val (.long s1), .second, .unset, .unset, .unset, .unset, .unset, .unset, .unset, .unset, .unset, .unset, .unset, .unset, .unset, .unset] [(.int (0 : Int32))]))
    refine gs (fun t k => XS.istore X0.here hx rfl (hb hby at_29) rfl (l' := #[.val (.int p0), .val (.int p1), .val (.int p2), .val (.int p3), .val (.int p4), .val (.int p5), .val (.long s0), .second, .val (.long s1), .second, .val (.int (0 : Int32)), .unset, .unset, .unset, .unset, .unset, .unset, .unset, .unset, .unset, .unset, .unset, .unset, .unset]) rfl k) ?_
    show G (s₁.setTop (mkF m 31 #[.val (.int p0), .val (.int p1), .val (.int p2), .val (.int p3), .val (.int p4), .val (.int p5), .val (.long s0), .second, .val (.long s1), .second, .val (.int (0 : Int32)), .unset, .unset, .unset, .unset, .unset, .unset, .unset, .unset, .unset, .unset, .unset, .unset, .unset] []))
    refine gs (fun t k => X0.ldc2Long hx hown (mvT hZ (hw _ (List.mem_of_getElem? (i := 0) rfl))) (g := (mkF m 31 #[.val (.int p0), .val (.int p1), .val (.int p2), .val (.int p3), .val (.int p4), .val (.int p5), .val (.long s0), .second, .val (.long s1), .second, .val (.int (0 : Int32)), .unset, .unset, .unset, .unset, .unset, .unset, .unset, .unset, .unset, .unset, .unset, .unset, .unset] [])) rfl (hb hby at_31) _ k) ?_
    show G (s₁.setTop (mkF m 34 #[.val (.int p0), .val (.int p1), .val (.int p2), .val (.int p3), .val (.int p4), .val (.int p5), .val (.long s0), .second, .val (.long s1), .second, .val (.int (0 : Int32)), .unset, .unset, .unset, .unset, .unset, .unset, .unset, .unset, .unset, .unset, .unset, .unset, .unset] [(.long (2 : Int64))]))
    refine gs (fun t k => XS.lload X0.here hx rfl (hb hby at_34) rfl k) ?_
    show G (s₁.setTop (mkF m 36 #[.val (.int p0), .val (.int p1), .val (.int p2), .val (.int p3), .val (.int p4), .val (.int p5), .val (.long s0), .second, .val (.long s1), .second, .val (.int (0 : Int32)), .unset, .unset, .unset, .unset, .unset, .unset, .unset, .unset, .unset, .unset, .unset, .unset, .unset] [(.long s0), (.long (2 : Int64))]))
    refine gs (fun t k => XS.lmul X0.here hx rfl (hb hby at_36) rfl k) ?_
    show G (s₁.setTop (mkF m 37 #[.val (.int p0), .val (.int p1), .val (.int p2), .val (.int p3), .val (.int p4), .val (.int p5), .val (.long s0), .second, .val (.long s1), .second, .val (.int (0 : Int32)), .unset, .unset, .unset, .unset, .unset, .unset, .unset, .unset, .unset, .unset, .unset, .unset, .unset] [(.long ((2 : Int64) * s0))]))
    refine gs (fun t k => XS.lconst X0.here hx rfl (hb hby at_37) k) ?_
    show G (s₁.setTop (mkF m 38 #[.val (.int p0), .val (.int p1), .val (.int p2), .val (.int p3), .val (.int p4), .val (.int p5), .val (.long s0), .second, .val (.long s1), .second, .val (.int (0 : Int32)), .unset, .unset, .unset, .unset, .unset, .unset, .unset, .unset, .unset, .unset, .unset, .unset, .unset] [(.long (1 : Int64)), (.long ((2 : Int64) * s0))]))
    refine gs (fun t k => XS.ladd X0.here hx rfl (hb hby at_38) rfl k) ?_
    show G (s₁.setTop (mkF m 39 #[.val (.int p0), .val (.int p1), .val (.int p2), .val (.int p3), .val (.int p4), .val (.int p5), .val (.long s0), .second, .val (.long s1), .second, .val (.int (0 : Int32)), .unset, .unset, .unset, .unset, .unset, .unset, .unset, .unset, .unset, .unset, .unset, .unset, .unset] [(.long (((2 : Int64) * s0) + (1 : Int64)))]))
    refine gs (fun t k => XS.lstore X0.here hx rfl (hb hby at_39) rfl (l' := #[.val (.int p0), .val (.int p1), .val (.int p2), .val (.int p3), .val (.int p4), .val (.int p5), .val (.long s0), .second, .val (.long s1), .second, .val (.int (0 : Int32)), .val (.long (((2 : Int64) * s0) + (1 : Int64))), .second, .unset, .unset, .unset, .unset, .unset, .unset, .unset, .unset, .unset, .unset, .unset]) rfl k) ?_
    show G (s₁.setTop (mkF m 41 #[.val (.int p0), .val (.int p1), .val (.int p2), .val (.int p3), .val (.int p4), .val (.int p5), .val (.long s0), .second, .val (.long s1), .second, .val (.int (0 : Int32)), .val (.long (((2 : Int64) * s0) + (1 : Int64))), .second, .unset, .unset, .unset, .unset, .unset, .unset, .unset, .unset, .unset, .unset, .unset] []))
    refine gs (fun t k => X0.ldc2Long hx hown (mvT hZ (hw _ (List.mem_of_getElem? (i := 0) rfl))) (g := (mkF m 41 #[.val (.int p0), .val (.int p1), .val (.int p2), .val (.int p3), .val (.int p4), .val (.int p5), .val (.long s0), .second, .val (.long s1), .second, .val (.int (0 : Int32)), .val (.long (((2 : Int64) * s0) + (1 : Int64))), .second, .unset, .unset, .unset, .unset, .unset, .unset, .unset, .unset, .unset, .unset, .unset] [])) rfl (hb hby at_41) _ k) ?_
    show G (s₁.setTop (mkF m 44 #[.val (.int p0), .val (.int p1), .val (.int p2), .val (.int p3), .val (.int p4), .val (.int p5), .val (.long s0), .second, .val (.long s1), .second, .val (.int (0 : Int32)), .val (.long (((2 : Int64) * s0) + (1 : Int64))), .second, .unset, .unset, .unset, .unset, .unset, .unset, .unset, .unset, .unset, .unset, .unset] [(.long (2 : Int64))]))
    refine gs (fun t k => XS.lload X0.here hx rfl (hb hby at_44) rfl k) ?_
    show G (s₁.setTop (mkF m 46 #[.val (.int p0), .val (.int p1), .val (.int p2), .val (.int p3), .val (.int p4), .val (.int p5), .val (.long s0), .second, .val (.long s1), .second, .val (.int (0 : Int32)), .val (.long (((2 : Int64) * s0) + (1 : Int64))), .second, .unset, .unset, .unset, .unset, .unset, .unset, .unset, .unset, .unset, .unset, .unset] [(.long s1), (.long (2 : Int64))]))
    refine gs (fun t k => XS.lmul X0.here hx rfl (hb hby at_46) rfl k) ?_
    show G (s₁.setTop (mkF m 47 #[.val (.int p0), .val (.int p1), .val (.int p2), .val (.int p3), .val (.int p4), .val (.int p5), .val (.long s0), .second, .val (.long s1), .second, .val (.int (0 : Int32)), .val (.long (((2 : Int64) * s0) + (1 : Int64))), .second, .unset, .unset, .unset, .unset, .unset, .unset, .unset, .unset, .unset, .unset, .unset] [(.long ((2 : Int64) * s1))]))
    refine gs (fun t k => XS.lconst X0.here hx rfl (hb hby at_47) k) ?_
    show G (s₁.setTop (mkF m 48 #[.val (.int p0), .val (.int p1), .val (.int p2), .val (.int p3), .val (.int p4), .val (.int p5), .val (.long s0), .second, .val (.long s1), .second, .val (.int (0 : Int32)), .val (.long (((2 : Int64) * s0) + (1 : Int64))), .second, .unset, .unset, .unset, .unset, .unset, .unset, .unset, .unset, .unset, .unset, .unset] [(.long (1 : Int64)), (.long ((2 : Int64) * s1))]))
    refine gs (fun t k => XS.ladd X0.here hx rfl (hb hby at_48) rfl k) ?_
    show G (s₁.setTop (mkF m 49 #[.val (.int p0), .val (.int p1), .val (.int p2), .val (.int p3), .val (.int p4), .val (.int p5), .val (.long s0), .second, .val (.long s1), .second, .val (.int (0 : Int32)), .val (.long (((2 : Int64) * s0) + (1 : Int64))), .second, .unset, .unset, .unset, .unset, .unset, .unset, .unset, .unset, .unset, .unset, .unset] [(.long (((2 : Int64) * s1) + (1 : Int64)))]))
    refine gs (fun t k => XS.iload X0.here hx rfl (hb hby at_49) rfl k) ?_
    show G (s₁.setTop (mkF m 51 #[.val (.int p0), .val (.int p1), .val (.int p2), .val (.int p3), .val (.int p4), .val (.int p5), .val (.long s0), .second, .val (.long s1), .second, .val (.int (0 : Int32)), .val (.long (((2 : Int64) * s0) + (1 : Int64))), .second, .unset, .unset, .unset, .unset, .unset, .unset, .unset, .unset, .unset, .unset, .unset] [(.int (0 : Int32)), (.long (((2 : Int64) * s1) + (1 : Int64)))]))
    refine gs (fun t k => XS.ifYes X0.here hx rfl (pc0 := 51) (pc' := 58) rfl (hb hby at_51) rfl ((if0 _ _).trans (teq (by decide : (0 : Int32) = (0 : Int32))).1) (by decide) (by decide) k) ?_
    show G (s₁.setTop (mkF m 58 #[.val (.int p0), .val (.int p1), .val (.int p2), .val (.int p3), .val (.int p4), .val (.int p5), .val (.long s0), .second, .val (.long s1), .second, .val (.int (0 : Int32)), .val (.long (((2 : Int64) * s0) + (1 : Int64))), .second, .unset, .unset, .unset, .unset, .unset, .unset, .unset, .unset, .unset, .unset, .unset] [(.long (((2 : Int64) * s1) + (1 : Int64)))]))
    refine gs (fun t k => XS.iconst X0.here hx rfl (hb hby at_58) k) ?_
    show G (s₁.setTop (mkF m 59 #[.val (.int p0), .val (.int p1), .val (.int p2), .val (.int p3), .val (.int p4), .val (.int p5), .val (.long s0), .second, .val (.long s1), .second, .val (.int (0 : Int32)), .val (.long (((2 : Int64) * s0) + (1 : Int64))), .second, .unset, .unset, .unset, .unset, .unset, .unset, .unset, .unset, .unset, .unset, .unset] [(.int (0 : Int32)), (.long (((2 : Int64) * s1) + (1 : Int64)))]))
    refine gs (fun t k => XS.i2l X0.here hx rfl (hb hby at_59) rfl k) ?_
    show G (s₁.setTop (mkF m 60 #[.val (.int p0), .val (.int p1), .val (.int p2), .val (.int p3), .val (.int p4), .val (.int p5), .val (.long s0), .second, .val (.long s1), .second, .val (.int (0 : Int32)), .val (.long (((2 : Int64) * s0) + (1 : Int64))), .second, .unset, .unset, .unset, .unset, .unset, .unset, .unset, .unset, .unset, .unset, .unset] [(.long ((0 : Int32).toInt64)), (.long (((2 : Int64) * s1) + (1 : Int64)))]))
    refine gs (fun t k => XS.ladd X0.here hx rfl (hb hby at_60) rfl k) ?_
    show G (s₁.setTop (mkF m 61 #[.val (.int p0), .val (.int p1), .val (.int p2), .val (.int p3), .val (.int p4), .val (.int p5), .val (.long s0), .second, .val (.long s1), .second, .val (.int (0 : Int32)), .val (.long (((2 : Int64) * s0) + (1 : Int64))), .second, .unset, .unset, .unset, .unset, .unset, .unset, .unset, .unset, .unset, .unset, .unset] [(.long ((((2 : Int64) * s1) + (1 : Int64)) + ((0 : Int32).toInt64)))]))
    obtain ⟨D1, hD1⟩ : ∃ z : Int64, z = ((((2 : Int64) * s1) + (1 : Int64)) + ((0 : Int32).toInt64)) := ⟨_, rfl⟩
    rw [← hD1]
    show G (s₁.setTop (mkF m 61 #[.val (.int p0), .val (.int p1), .val (.int p2), .val (.int p3), .val (.int p4), .val (.int p5), .val (.long s0), .second, .val (.long s1), .second, .val (.int (0 : Int32)), .val (.long (((2 : Int64) * s0) + (1 : Int64))), .second, .unset, .unset, .unset, .unset, .unset, .unset, .unset, .unset, .unset, .unset, .unset] [(.long D1)]))
    have hD1' : D1 = 2 * s1 + 1 := by rw [hD1]; exact Int64.add_zero _
    have D1i : D1.toInt = 2 * s1.toInt + 1 := by rw [hD1']; exact own_i21 S1
    have D0i := own_i21 S0
    have z0a := S0.1
    have z0b := S0.2
    have z1a := S1.1
    have z1b := S1.2
    have D0p : 0 < (((2 : Int64) * s0) + (1 : Int64)).toInt := by omega
    have D0q : (((2 : Int64) * s0) + (1 : Int64)).toInt ≤ 2048 := by omega
    have D1p : 0 < D1.toInt := by omega
    have D1q : D1.toInt ≤ 2048 := by omega
    refine gs (fun t k => XS.lstore X0.here hx rfl (hb hby at_61) rfl (l' := #[.val (.int p0), .val (.int p1), .val (.int p2), .val (.int p3), .val (.int p4), .val (.int p5), .val (.long s0), .second, .val (.long s1), .second, .val (.int (0 : Int32)), .val (.long (((2 : Int64) * s0) + (1 : Int64))), .second, .val (.long D1), .second, .unset, .unset, .unset, .unset, .unset, .unset, .unset, .unset, .unset]) rfl k) ?_
    show G (s₁.setTop (mkF m 63 #[.val (.int p0), .val (.int p1), .val (.int p2), .val (.int p3), .val (.int p4), .val (.int p5), .val (.long s0), .second, .val (.long s1), .second, .val (.int (0 : Int32)), .val (.long (((2 : Int64) * s0) + (1 : Int64))), .second, .val (.long D1), .second, .unset, .unset, .unset, .unset, .unset, .unset, .unset, .unset, .unset] []))
    refine gs (fun t k => XS.iconst X0.here hx rfl (hb hby at_63) k) ?_
    show G (s₁.setTop (mkF m 64 #[.val (.int p0), .val (.int p1), .val (.int p2), .val (.int p3), .val (.int p4), .val (.int p5), .val (.long s0), .second, .val (.long s1), .second, .val (.int (0 : Int32)), .val (.long (((2 : Int64) * s0) + (1 : Int64))), .second, .val (.long D1), .second, .unset, .unset, .unset, .unset, .unset, .unset, .unset, .unset, .unset] [(.int (3 : Int32))]))
    obtain ⟨T1, h1, k1, X1, e1, E1, A1, EA1, st1⟩ := newPE X0 hx hZ (hw _ (List.mem_of_getElem? (i := 1) rfl)) e0 (g := (mkF m 64 #[.val (.int p0), .val (.int p1), .val (.int p2), .val (.int p3), .val (.int p4), .val (.int p5), .val (.long s0), .second, .val (.long s1), .second, .val (.int (0 : Int32)), .val (.long (((2 : Int64) * s0) + (1 : Int64))), .second, .val (.long D1), .second, .unset, .unset, .unset, .unset, .unset, .unset, .unset, .unset, .unset] [(.int (3 : Int32))])) rfl (hb hby at_64) rfl (by decide) (cap := 3) (by decide) (by decide) (by decide) (by decide) (ad := "[D") rfl
    obtain ⟨b1, g1⟩ : ∃ z, z = h0.size := ⟨_, rfl⟩
    rw [← g1] at A1 EA1 st1
    have sz_b1 : h0.size ≤ b1 := Nat.le_trans K0.1 (Nat.le_of_eq g1.symm)
    have g_b1 : n0 ≤ b1 := Nat.le_trans Z0 sz_b1
    have K2 := K0.ext E1
    have V_b1 : Arv Z h1 b1 k1 .double (3 : Int32) [(.double (0 : UInt64)), (.double (0 : UInt64)), (.double (0 : UInt64))] (.double (0 : UInt64)) := (Arv.new A1 (by decide)).pad (pad_rep [] (.double (0 : UInt64)) 3)
    refine gs (fun t k => st1 _ k) ?_
    show G (T1.setTop (mkF m 66 #[.val (.int p0), .val (.int p1), .val (.int p2), .val (.int p3), .val (.int p4), .val (.int p5), .val (.long s0), .second, .val (.long s1), .second, .val (.int (0 : Int32)), .val (.long (((2 : Int64) * s0) + (1 : Int64))), .second, .val (.long D1), .second, .unset, .unset, .unset, .unset, .unset, .unset, .unset, .unset, .unset] [(.ref b1)]))
    refine gs (fun t k => XS.dup X1.here hx rfl (hb hby at_66) rfl rfl k) ?_
    show G (T1.setTop (mkF m 67 #[.val (.int p0), .val (.int p1), .val (.int p2), .val (.int p3), .val (.int p4), .val (.int p5), .val (.long s0), .second, .val (.long s1), .second, .val (.int (0 : Int32)), .val (.long (((2 : Int64) * s0) + (1 : Int64))), .second, .val (.long D1), .second, .unset, .unset, .unset, .unset, .unset, .unset, .unset, .unset, .unset] [(.ref b1), (.ref b1)]))
    refine gs (fun t k => XS.iconst X1.here hx rfl (hb hby at_67) k) ?_
    show G (T1.setTop (mkF m 68 #[.val (.int p0), .val (.int p1), .val (.int p2), .val (.int p3), .val (.int p4), .val (.int p5), .val (.long s0), .second, .val (.long s1), .second, .val (.int (0 : Int32)), .val (.long (((2 : Int64) * s0) + (1 : Int64))), .second, .val (.long D1), .second, .unset, .unset, .unset, .unset, .unset, .unset, .unset, .unset, .unset] [(.int (0 : Int32)), (.ref b1), (.ref b1)]))
    refine gs (fun t k => XS.iloadN X1.here hx rfl (hb hby at_68) rfl k) ?_
    show G (T1.setTop (mkF m 69 #[.val (.int p0), .val (.int p1), .val (.int p2), .val (.int p3), .val (.int p4), .val (.int p5), .val (.long s0), .second, .val (.long s1), .second, .val (.int (0 : Int32)), .val (.long (((2 : Int64) * s0) + (1 : Int64))), .second, .val (.long D1), .second, .unset, .unset, .unset, .unset, .unset, .unset, .unset, .unset, .unset] [(.int p0), (.int (0 : Int32)), (.ref b1), (.ref b1)]))
    refine gs (fun t k => XS.i2l X1.here hx rfl (hb hby at_69) rfl k) ?_
    show G (T1.setTop (mkF m 70 #[.val (.int p0), .val (.int p1), .val (.int p2), .val (.int p3), .val (.int p4), .val (.int p5), .val (.long s0), .second, .val (.long s1), .second, .val (.int (0 : Int32)), .val (.long (((2 : Int64) * s0) + (1 : Int64))), .second, .val (.long D1), .second, .unset, .unset, .unset, .unset, .unset, .unset, .unset, .unset, .unset] [(.long (p0.toInt64)), (.int (0 : Int32)), (.ref b1), (.ref b1)]))
    refine gs (fun t k => XS.lload X1.here hx rfl (hb hby at_70) rfl k) ?_
    show G (T1.setTop (mkF m 72 #[.val (.int p0), .val (.int p1), .val (.int p2), .val (.int p3), .val (.int p4), .val (.int p5), .val (.long s0), .second, .val (.long s1), .second, .val (.int (0 : Int32)), .val (.long (((2 : Int64) * s0) + (1 : Int64))), .second, .val (.long D1), .second, .unset, .unset, .unset, .unset, .unset, .unset, .unset, .unset, .unset] [(.long (((2 : Int64) * s0) + (1 : Int64))), (.long (p0.toInt64)), (.int (0 : Int32)), (.ref b1), (.ref b1)]))
    refine gs (fun t k => XS.lmul X1.here hx rfl (hb hby at_72) rfl k) ?_
    show G (T1.setTop (mkF m 73 #[.val (.int p0), .val (.int p1), .val (.int p2), .val (.int p3), .val (.int p4), .val (.int p5), .val (.long s0), .second, .val (.long s1), .second, .val (.int (0 : Int32)), .val (.long (((2 : Int64) * s0) + (1 : Int64))), .second, .val (.long D1), .second, .unset, .unset, .unset, .unset, .unset, .unset, .unset, .unset, .unset] [(.long ((p0.toInt64) * (((2 : Int64) * s0) + (1 : Int64)))), (.int (0 : Int32)), (.ref b1), (.ref b1)]))
    refine gs (fun t k => XS.l2dS X1.here hx rfl (hb hby at_73) rfl rfl k) ?_
    show G (T1.setTop (mkF m 74 #[.val (.int p0), .val (.int p1), .val (.int p2), .val (.int p3), .val (.int p4), .val (.int p5), .val (.long s0), .second, .val (.long s1), .second, .val (.int (0 : Int32)), .val (.long (((2 : Int64) * s0) + (1 : Int64))), .second, .val (.long D1), .second, .unset, .unset, .unset, .unset, .unset, .unset, .unset, .unset, .unset] [(.double (FP.l2d ((p0.toInt64) * (((2 : Int64) * s0) + (1 : Int64))))), (.int (0 : Int32)), (.ref b1), (.ref b1)]))
    obtain ⟨x0, hx0⟩ : ∃ z : UInt64, z = (FP.l2d ((p0.toInt64) * (((2 : Int64) * s0) + (1 : Int64)))) := ⟨_, rfl⟩
    rw [← hx0]
    show G (T1.setTop (mkF m 74 #[.val (.int p0), .val (.int p1), .val (.int p2), .val (.int p3), .val (.int p4), .val (.int p5), .val (.long s0), .second, .val (.long s1), .second, .val (.int (0 : Int32)), .val (.long (((2 : Int64) * s0) + (1 : Int64))), .second, .val (.long D1), .second, .unset, .unset, .unset, .unset, .unset, .unset, .unset, .unset, .unset] [(.double x0), (.int (0 : Int32)), (.ref b1), (.ref b1)]))
    obtain ⟨vc3, vA3, vq3, vS3, vN3, vH3, vG3⟩ := V_b1
    have hin3 : ¬ ((0 : Int32) < 0 ∨ vc3.slots.size ≤ ((0 : Int32)).toNatClampNeg) := inb_of vS3 ⟨by decide, by decide⟩
    obtain ⟨T3, h3, X3, e3, W3, st3⟩ := stD X1 hx hZ e1 vA3 (j := (0 : Int32)) hin3 (g := (mkF m 74 #[.val (.int p0), .val (.int p1), .val (.int p2), .val (.int p3), .val (.int p4), .val (.int p5), .val (.long s0), .second, .val (.long s1), .second, .val (.int (0 : Int32)), .val (.long (((2 : Int64) * s0) + (1 : Int64))), .second, .val (.long D1), .second, .unset, .unset, .unset, .unset, .unset, .unset, .unset, .unset, .unset] [(.double x0), (.int (0 : Int32)), (.ref b1), (.ref b1)])) rfl rfl (hb hby at_74)
    have EA1_q4 := EA1.wr W3
    have K5 := K2.wr W3 (Or.inr sz_b1)
    have V_b1_q3 := Arv.set vA3 vq3 vS3 vN3 vH3 vG3 rfl W3 0 rfl (Nat.le_of_ble_eq_true rfl)
    have N3 := Fr.snoc X3 N0 g_b1
    refine gs (fun t k => st3 _ k) ?_
    show G (T3.setTop (mkF m 75 #[.val (.int p0), .val (.int p1), .val (.int p2), .val (.int p3), .val (.int p4), .val (.int p5), .val (.long s0), .second, .val (.long s1), .second, .val (.int (0 : Int32)), .val (.long (((2 : Int64) * s0) + (1 : Int64))), .second, .val (.long D1), .second, .unset, .unset, .unset, .unset, .unset, .unset, .unset, .unset, .unset] [(.ref b1)]))
    refine gs (fun t k => XS.dup X3.here hx rfl (hb hby at_75) rfl rfl k) ?_
    show G (T3.setTop (mkF m 76 #[.val (.int p0), .val (.int p1), .val (.int p2), .val (.int p3), .val (.int p4), .val (.int p5), .val (.long s0), .second, .val (.long s1), .second, .val (.int (0 : Int32)), .val (.long (((2 : Int64) * s0) + (1 : Int64))), .second, .val (.long D1), .second, .unset, .unset, .unset, .unset, .unset, .unset, .unset, .unset, .unset] [(.ref b1), (.ref b1)]))
    refine gs (fun t k => XS.iconst X3.here hx rfl (hb hby at_76) k) ?_
    show G (T3.setTop (mkF m 77 #[.val (.int p0), .val (.int p1), .val (.int p2), .val (.int p3), .val (.int p4), .val (.int p5), .val (.long s0), .second, .val (.long s1), .second, .val (.int (0 : Int32)), .val (.long (((2 : Int64) * s0) + (1 : Int64))), .second, .val (.long D1), .second, .unset, .unset, .unset, .unset, .unset, .unset, .unset, .unset, .unset] [(.int (1 : Int32)), (.ref b1), (.ref b1)]))
    refine gs (fun t k => XS.iloadN X3.here hx rfl (hb hby at_77) rfl k) ?_
    show G (T3.setTop (mkF m 78 #[.val (.int p0), .val (.int p1), .val (.int p2), .val (.int p3), .val (.int p4), .val (.int p5), .val (.long s0), .second, .val (.long s1), .second, .val (.int (0 : Int32)), .val (.long (((2 : Int64) * s0) + (1 : Int64))), .second, .val (.long D1), .second, .unset, .unset, .unset, .unset, .unset, .unset, .unset, .unset, .unset] [(.int p1), (.int (1 : Int32)), (.ref b1), (.ref b1)]))
    refine gs (fun t k => XS.i2l X3.here hx rfl (hb hby at_78) rfl k) ?_
    show G (T3.setTop (mkF m 79 #[.val (.int p0), .val (.int p1), .val (.int p2), .val (.int p3), .val (.int p4), .val (.int p5), .val (.long s0), .second, .val (.long s1), .second, .val (.int (0 : Int32)), .val (.long (((2 : Int64) * s0) + (1 : Int64))), .second, .val (.long D1), .second, .unset, .unset, .unset, .unset, .unset, .unset, .unset, .unset, .unset] [(.long (p1.toInt64)), (.int (1 : Int32)), (.ref b1), (.ref b1)]))
    refine gs (fun t k => XS.lload X3.here hx rfl (hb hby at_79) rfl k) ?_
    show G (T3.setTop (mkF m 81 #[.val (.int p0), .val (.int p1), .val (.int p2), .val (.int p3), .val (.int p4), .val (.int p5), .val (.long s0), .second, .val (.long s1), .second, .val (.int (0 : Int32)), .val (.long (((2 : Int64) * s0) + (1 : Int64))), .second, .val (.long D1), .second, .unset, .unset, .unset, .unset, .unset, .unset, .unset, .unset, .unset] [(.long D1), (.long (p1.toInt64)), (.int (1 : Int32)), (.ref b1), (.ref b1)]))
    refine gs (fun t k => XS.lmul X3.here hx rfl (hb hby at_81) rfl k) ?_
    show G (T3.setTop (mkF m 82 #[.val (.int p0), .val (.int p1), .val (.int p2), .val (.int p3), .val (.int p4), .val (.int p5), .val (.long s0), .second, .val (.long s1), .second, .val (.int (0 : Int32)), .val (.long (((2 : Int64) * s0) + (1 : Int64))), .second, .val (.long D1), .second, .unset, .unset, .unset, .unset, .unset, .unset, .unset, .unset, .unset] [(.long ((p1.toInt64) * D1)), (.int (1 : Int32)), (.ref b1), (.ref b1)]))
    refine gs (fun t k => XS.l2dS X3.here hx rfl (hb hby at_82) rfl rfl k) ?_
    show G (T3.setTop (mkF m 83 #[.val (.int p0), .val (.int p1), .val (.int p2), .val (.int p3), .val (.int p4), .val (.int p5), .val (.long s0), .second, .val (.long s1), .second, .val (.int (0 : Int32)), .val (.long (((2 : Int64) * s0) + (1 : Int64))), .second, .val (.long D1), .second, .unset, .unset, .unset, .unset, .unset, .unset, .unset, .unset, .unset] [(.double (FP.l2d ((p1.toInt64) * D1))), (.int (1 : Int32)), (.ref b1), (.ref b1)]))
    obtain ⟨x1, hx1⟩ : ∃ z : UInt64, z = (FP.l2d ((p1.toInt64) * D1)) := ⟨_, rfl⟩
    rw [← hx1]
    show G (T3.setTop (mkF m 83 #[.val (.int p0), .val (.int p1), .val (.int p2), .val (.int p3), .val (.int p4), .val (.int p5), .val (.long s0), .second, .val (.long s1), .second, .val (.int (0 : Int32)), .val (.long (((2 : Int64) * s0) + (1 : Int64))), .second, .val (.long D1), .second, .unset, .unset, .unset, .unset, .unset, .unset, .unset, .unset, .unset] [(.double x1), (.int (1 : Int32)), (.ref b1), (.ref b1)]))
    obtain ⟨vc6, vA6, vq6, vS6, vN6, vH6, vG6⟩ := V_b1_q3
    have hin6 : ¬ ((1 : Int32) < 0 ∨ vc6.slots.size ≤ ((1 : Int32)).toNatClampNeg) := inb_of vS6 ⟨by decide, by decide⟩
    obtain ⟨T6, h6, X6, e6, W6, st6⟩ := stD X3 hx hZ e3 vA6 (j := (1 : Int32)) hin6 (g := (mkF m 83 #[.val (.int p0), .val (.int p1), .val (.int p2), .val (.int p3), .val (.int p4), .val (.int p5), .val (.long s0), .second, .val (.long s1), .second, .val (.int (0 : Int32)), .val (.long (((2 : Int64) * s0) + (1 : Int64))), .second, .val (.long D1), .second, .unset, .unset, .unset, .unset, .unset, .unset, .unset, .unset, .unset] [(.double x1), (.int (1 : Int32)), (.ref b1), (.ref b1)])) rfl rfl (hb hby at_83)
    have EA1_q7 := EA1_q4.wr W6
    have K8 := K5.wr W6 (Or.inr sz_b1)
    have V_b1_q6 := Arv.set vA6 vq6 vS6 vN6 vH6 vG6 rfl W6 1 rfl (Nat.le_of_ble_eq_true rfl)
    have N6 := Fr.snoc X6 N3 g_b1
    refine gs (fun t k => st6 _ k) ?_
    show G (T6.setTop (mkF m 84 #[.val (.int p0), .val (.int p1), .val (.int p2), .val (.int p3), .val (.int p4), .val (.int p5), .val (.long s0), .second, .val (.long s1), .second, .val (.int (0 : Int32)), .val (.long (((2 : Int64) * s0) + (1 : Int64))), .second, .val (.long D1), .second, .unset, .unset, .unset, .unset, .unset, .unset, .unset, .unset, .unset] [(.ref b1)]))
    refine gs (fun t k => XS.dup X6.here hx rfl (hb hby at_84) rfl rfl k) ?_
    show G (T6.setTop (mkF m 85 #[.val (.int p0), .val (.int p1), .val (.int p2), .val (.int p3), .val (.int p4), .val (.int p5), .val (.long s0), .second, .val (.long s1), .second, .val (.int (0 : Int32)), .val (.long (((2 : Int64) * s0) + (1 : Int64))), .second, .val (.long D1), .second, .unset, .unset, .unset, .unset, .unset, .unset, .unset, .unset, .unset] [(.ref b1), (.ref b1)]))
    refine gs (fun t k => XS.iconst X6.here hx rfl (hb hby at_85) k) ?_
    show G (T6.setTop (mkF m 86 #[.val (.int p0), .val (.int p1), .val (.int p2), .val (.int p3), .val (.int p4), .val (.int p5), .val (.long s0), .second, .val (.long s1), .second, .val (.int (0 : Int32)), .val (.long (((2 : Int64) * s0) + (1 : Int64))), .second, .val (.long D1), .second, .unset, .unset, .unset, .unset, .unset, .unset, .unset, .unset, .unset] [(.int (2 : Int32)), (.ref b1), (.ref b1)]))
    refine gs (fun t k => XS.iloadN X6.here hx rfl (hb hby at_86) rfl k) ?_
    show G (T6.setTop (mkF m 87 #[.val (.int p0), .val (.int p1), .val (.int p2), .val (.int p3), .val (.int p4), .val (.int p5), .val (.long s0), .second, .val (.long s1), .second, .val (.int (0 : Int32)), .val (.long (((2 : Int64) * s0) + (1 : Int64))), .second, .val (.long D1), .second, .unset, .unset, .unset, .unset, .unset, .unset, .unset, .unset, .unset] [(.int p2), (.int (2 : Int32)), (.ref b1), (.ref b1)]))
    refine gs (fun t k => XS.i2dS X6.here hx rfl (hb hby at_87) rfl rfl k) ?_
    show G (T6.setTop (mkF m 88 #[.val (.int p0), .val (.int p1), .val (.int p2), .val (.int p3), .val (.int p4), .val (.int p5), .val (.long s0), .second, .val (.long s1), .second, .val (.int (0 : Int32)), .val (.long (((2 : Int64) * s0) + (1 : Int64))), .second, .val (.long D1), .second, .unset, .unset, .unset, .unset, .unset, .unset, .unset, .unset, .unset] [(.double (FP.i2d p2)), (.int (2 : Int32)), (.ref b1), (.ref b1)]))
    obtain ⟨x2, hx2⟩ : ∃ z : UInt64, z = (FP.i2d p2) := ⟨_, rfl⟩
    rw [← hx2]
    show G (T6.setTop (mkF m 88 #[.val (.int p0), .val (.int p1), .val (.int p2), .val (.int p3), .val (.int p4), .val (.int p5), .val (.long s0), .second, .val (.long s1), .second, .val (.int (0 : Int32)), .val (.long (((2 : Int64) * s0) + (1 : Int64))), .second, .val (.long D1), .second, .unset, .unset, .unset, .unset, .unset, .unset, .unset, .unset, .unset] [(.double x2), (.int (2 : Int32)), (.ref b1), (.ref b1)]))
    obtain ⟨vc9, vA9, vq9, vS9, vN9, vH9, vG9⟩ := V_b1_q6
    have hin9 : ¬ ((2 : Int32) < 0 ∨ vc9.slots.size ≤ ((2 : Int32)).toNatClampNeg) := inb_of vS9 ⟨by decide, by decide⟩
    obtain ⟨T9, h9, X9, e9, W9, st9⟩ := stD X6 hx hZ e6 vA9 (j := (2 : Int32)) hin9 (g := (mkF m 88 #[.val (.int p0), .val (.int p1), .val (.int p2), .val (.int p3), .val (.int p4), .val (.int p5), .val (.long s0), .second, .val (.long s1), .second, .val (.int (0 : Int32)), .val (.long (((2 : Int64) * s0) + (1 : Int64))), .second, .val (.long D1), .second, .unset, .unset, .unset, .unset, .unset, .unset, .unset, .unset, .unset] [(.double x2), (.int (2 : Int32)), (.ref b1), (.ref b1)])) rfl rfl (hb hby at_88)
    have EA1_q10 := EA1_q7.wr W9
    have K11 := K8.wr W9 (Or.inr sz_b1)
    have V_b1_q9 := Arv.set vA9 vq9 vS9 vN9 vH9 vG9 rfl W9 2 rfl (Nat.le_of_ble_eq_true rfl)
    have N9 := Fr.snoc X9 N6 g_b1
    refine gs (fun t k => st9 _ k) ?_
    show G (T9.setTop (mkF m 89 #[.val (.int p0), .val (.int p1), .val (.int p2), .val (.int p3), .val (.int p4), .val (.int p5), .val (.long s0), .second, .val (.long s1), .second, .val (.int (0 : Int32)), .val (.long (((2 : Int64) * s0) + (1 : Int64))), .second, .val (.long D1), .second, .unset, .unset, .unset, .unset, .unset, .unset, .unset, .unset, .unset] [(.ref b1)]))
    refine gs (fun t k => XS.astore X9.here hx rfl (hb hby at_89) rfl rfl (l' := #[.val (.int p0), .val (.int p1), .val (.int p2), .val (.int p3), .val (.int p4), .val (.int p5), .val (.long s0), .second, .val (.long s1), .second, .val (.int (0 : Int32)), .val (.long (((2 : Int64) * s0) + (1 : Int64))), .second, .val (.long D1), .second, .val (.ref b1), .unset, .unset, .unset, .unset, .unset, .unset, .unset, .unset]) rfl k) ?_
    show G (T9.setTop (mkF m 91 #[.val (.int p0), .val (.int p1), .val (.int p2), .val (.int p3), .val (.int p4), .val (.int p5), .val (.long s0), .second, .val (.long s1), .second, .val (.int (0 : Int32)), .val (.long (((2 : Int64) * s0) + (1 : Int64))), .second, .val (.long D1), .second, .val (.ref b1), .unset, .unset, .unset, .unset, .unset, .unset, .unset, .unset] []))
    refine gs (fun t k => XS.iconst X9.here hx rfl (hb hby at_91) k) ?_
    show G (T9.setTop (mkF m 92 #[.val (.int p0), .val (.int p1), .val (.int p2), .val (.int p3), .val (.int p4), .val (.int p5), .val (.long s0), .second, .val (.long s1), .second, .val (.int (0 : Int32)), .val (.long (((2 : Int64) * s0) + (1 : Int64))), .second, .val (.long D1), .second, .val (.ref b1), .unset, .unset, .unset, .unset, .unset, .unset, .unset, .unset] [(.int (3 : Int32))]))
    obtain ⟨T12, h12, k12, X12, e12, E12, A12, EA12, st12⟩ := newPE X9 hx hZ (hw _ (List.mem_of_getElem? (i := 2) rfl)) e9 (g := (mkF m 92 #[.val (.int p0), .val (.int p1), .val (.int p2), .val (.int p3), .val (.int p4), .val (.int p5), .val (.long s0), .second, .val (.long s1), .second, .val (.int (0 : Int32)), .val (.long (((2 : Int64) * s0) + (1 : Int64))), .second, .val (.long D1), .second, .val (.ref b1), .unset, .unset, .unset, .unset, .unset, .unset, .unset, .unset] [(.int (3 : Int32))])) rfl (hb hby at_92) rfl (by decide) (cap := 3) (by decide) (by decide) (by decide) (by decide) (ad := "[I") rfl
    obtain ⟨b12, g12⟩ : ∃ z, z = h9.size := ⟨_, rfl⟩
    rw [← g12] at A12 EA12 st12
    have sz_b12 : h0.size ≤ b12 := Nat.le_trans K11.1 (Nat.le_of_eq g12.symm)
    have g_b12 : n0 ≤ b12 := Nat.le_trans Z0 sz_b12
    have ne_b1_b12 : b1 ≠ b12 := Nat.ne_of_lt (Nat.lt_of_lt_of_le EA1_q10.lt (Nat.le_of_eq g12.symm))
    have EA1_q13 := EA1_q10.ext E12
    have V_b1_q14 := V_b1_q9.ext E12
    have K15 := K11.ext E12
    have V_b12 : Arv Z h12 b12 k12 .int (3 : Int32) [(.int (0 : Int32)), (.int (0 : Int32)), (.int (0 : Int32))] (.int (0 : Int32)) := (Arv.new A12 (by decide)).pad (pad_rep [] (.int (0 : Int32)) 3)
    refine gs (fun t k => st12 _ k) ?_
    show G (T12.setTop (mkF m 94 #[.val (.int p0), .val (.int p1), .val (.int p2), .val (.int p3), .val (.int p4), .val (.int p5), .val (.long s0), .second, .val (.long s1), .second, .val (.int (0 : Int32)), .val (.long (((2 : Int64) * s0) + (1 : Int64))), .second, .val (.long D1), .second, .val (.ref b1), .unset, .unset, .unset, .unset, .unset, .unset, .unset, .unset] [(.ref b12)]))
    refine gs (fun t k => XS.dup X12.here hx rfl (hb hby at_94) rfl rfl k) ?_
    show G (T12.setTop (mkF m 95 #[.val (.int p0), .val (.int p1), .val (.int p2), .val (.int p3), .val (.int p4), .val (.int p5), .val (.long s0), .second, .val (.long s1), .second, .val (.int (0 : Int32)), .val (.long (((2 : Int64) * s0) + (1 : Int64))), .second, .val (.long D1), .second, .val (.ref b1), .unset, .unset, .unset, .unset, .unset, .unset, .unset, .unset] [(.ref b12), (.ref b12)]))
    refine gs (fun t k => XS.iconst X12.here hx rfl (hb hby at_95) k) ?_
    show G (T12.setTop (mkF m 96 #[.val (.int p0), .val (.int p1), .val (.int p2), .val (.int p3), .val (.int p4), .val (.int p5), .val (.long s0), .second, .val (.long s1), .second, .val (.int (0 : Int32)), .val (.long (((2 : Int64) * s0) + (1 : Int64))), .second, .val (.long D1), .second, .val (.ref b1), .unset, .unset, .unset, .unset, .unset, .unset, .unset, .unset] [(.int (0 : Int32)), (.ref b12), (.ref b12)]))
    refine gs (fun t k => XS.iconst X12.here hx rfl (hb hby at_96) k) ?_
    show G (T12.setTop (mkF m 97 #[.val (.int p0), .val (.int p1), .val (.int p2), .val (.int p3), .val (.int p4), .val (.int p5), .val (.long s0), .second, .val (.long s1), .second, .val (.int (0 : Int32)), .val (.long (((2 : Int64) * s0) + (1 : Int64))), .second, .val (.long D1), .second, .val (.ref b1), .unset, .unset, .unset, .unset, .unset, .unset, .unset, .unset] [(.int (0 : Int32)), (.int (0 : Int32)), (.ref b12), (.ref b12)]))
    obtain ⟨vc16, vA16, vq16, vS16, vN16, vH16, vG16⟩ := V_b12
    have hin16 : ¬ ((0 : Int32) < 0 ∨ vc16.slots.size ≤ ((0 : Int32)).toNatClampNeg) := inb_of vS16 ⟨by decide, by decide⟩
    obtain ⟨T16, h16, X16, e16, W16, st16⟩ := stI X12 hx hZ e12 vA16 (j := (0 : Int32)) hin16 (g := (mkF m 97 #[.val (.int p0), .val (.int p1), .val (.int p2), .val (.int p3), .val (.int p4), .val (.int p5), .val (.long s0), .second, .val (.long s1), .second, .val (.int (0 : Int32)), .val (.long (((2 : Int64) * s0) + (1 : Int64))), .second, .val (.long D1), .second, .val (.ref b1), .unset, .unset, .unset, .unset, .unset, .unset, .unset, .unset] [(.int (0 : Int32)), (.int (0 : Int32)), (.ref b12), (.ref b12)])) rfl rfl (hb hby at_97)
    have EA1_q17 := EA1_q13.wr W16
    have V_b1_q18 := V_b1_q14.other W16 ne_b1_b12
    have EA12_q19 := EA12.wr W16
    have K20 := K15.wr W16 (Or.inr sz_b12)
    have V_b12_q16 := Arv.set vA16 vq16 vS16 vN16 vH16 vG16 rfl W16 0 rfl (Nat.le_of_ble_eq_true rfl)
    have N16 := Fr.snoc X16 N9 g_b12
    refine gs (fun t k => st16 _ k) ?_
    show G (T16.setTop (mkF m 98 #[.val (.int p0), .val (.int p1), .val (.int p2), .val (.int p3), .val (.int p4), .val (.int p5), .val (.long s0), .second, .val (.long s1), .second, .val (.int (0 : Int32)), .val (.long (((2 : Int64) * s0) + (1 : Int64))), .second, .val (.long D1), .second, .val (.ref b1), .unset, .unset, .unset, .unset, .unset, .unset, .unset, .unset] [(.ref b12)]))
    refine gs (fun t k => XS.dup X16.here hx rfl (hb hby at_98) rfl rfl k) ?_
    show G (T16.setTop (mkF m 99 #[.val (.int p0), .val (.int p1), .val (.int p2), .val (.int p3), .val (.int p4), .val (.int p5), .val (.long s0), .second, .val (.long s1), .second, .val (.int (0 : Int32)), .val (.long (((2 : Int64) * s0) + (1 : Int64))), .second, .val (.long D1), .second, .val (.ref b1), .unset, .unset, .unset, .unset, .unset, .unset, .unset, .unset] [(.ref b12), (.ref b12)]))
    refine gs (fun t k => XS.iconst X16.here hx rfl (hb hby at_99) k) ?_
    show G (T16.setTop (mkF m 100 #[.val (.int p0), .val (.int p1), .val (.int p2), .val (.int p3), .val (.int p4), .val (.int p5), .val (.long s0), .second, .val (.long s1), .second, .val (.int (0 : Int32)), .val (.long (((2 : Int64) * s0) + (1 : Int64))), .second, .val (.long D1), .second, .val (.ref b1), .unset, .unset, .unset, .unset, .unset, .unset, .unset, .unset] [(.int (1 : Int32)), (.ref b12), (.ref b12)]))
    refine gs (fun t k => XS.iconst X16.here hx rfl (hb hby at_100) k) ?_
    show G (T16.setTop (mkF m 101 #[.val (.int p0), .val (.int p1), .val (.int p2), .val (.int p3), .val (.int p4), .val (.int p5), .val (.long s0), .second, .val (.long s1), .second, .val (.int (0 : Int32)), .val (.long (((2 : Int64) * s0) + (1 : Int64))), .second, .val (.long D1), .second, .val (.ref b1), .unset, .unset, .unset, .unset, .unset, .unset, .unset, .unset] [(.int (1 : Int32)), (.int (1 : Int32)), (.ref b12), (.ref b12)]))
    obtain ⟨vc21, vA21, vq21, vS21, vN21, vH21, vG21⟩ := V_b12_q16
    have hin21 : ¬ ((1 : Int32) < 0 ∨ vc21.slots.size ≤ ((1 : Int32)).toNatClampNeg) := inb_of vS21 ⟨by decide, by decide⟩
    obtain ⟨T21, h21, X21, e21, W21, st21⟩ := stI X16 hx hZ e16 vA21 (j := (1 : Int32)) hin21 (g := (mkF m 101 #[.val (.int p0), .val (.int p1), .val (.int p2), .val (.int p3), .val (.int p4), .val (.int p5), .val (.long s0), .second, .val (.long s1), .second, .val (.int (0 : Int32)), .val (.long (((2 : Int64) * s0) + (1 : Int64))), .second, .val (.long D1), .second, .val (.ref b1), .unset, .unset, .unset, .unset, .unset, .unset, .unset, .unset] [(.int (1 : Int32)), (.int (1 : Int32)), (.ref b12), (.ref b12)])) rfl rfl (hb hby at_101)
    have EA1_q22 := EA1_q17.wr W21
    have V_b1_q23 := V_b1_q18.other W21 ne_b1_b12
    have EA12_q24 := EA12_q19.wr W21
    have K25 := K20.wr W21 (Or.inr sz_b12)
    have V_b12_q21 := Arv.set vA21 vq21 vS21 vN21 vH21 vG21 rfl W21 1 rfl (Nat.le_of_ble_eq_true rfl)
    have N21 := Fr.snoc X21 N16 g_b12
    refine gs (fun t k => st21 _ k) ?_
    show G (T21.setTop (mkF m 102 #[.val (.int p0), .val (.int p1), .val (.int p2), .val (.int p3), .val (.int p4), .val (.int p5), .val (.long s0), .second, .val (.long s1), .second, .val (.int (0 : Int32)), .val (.long (((2 : Int64) * s0) + (1 : Int64))), .second, .val (.long D1), .second, .val (.ref b1), .unset, .unset, .unset, .unset, .unset, .unset, .unset, .unset] [(.ref b12)]))
    refine gs (fun t k => XS.dup X21.here hx rfl (hb hby at_102) rfl rfl k) ?_
    show G (T21.setTop (mkF m 103 #[.val (.int p0), .val (.int p1), .val (.int p2), .val (.int p3), .val (.int p4), .val (.int p5), .val (.long s0), .second, .val (.long s1), .second, .val (.int (0 : Int32)), .val (.long (((2 : Int64) * s0) + (1 : Int64))), .second, .val (.long D1), .second, .val (.ref b1), .unset, .unset, .unset, .unset, .unset, .unset, .unset, .unset] [(.ref b12), (.ref b12)]))
    refine gs (fun t k => XS.iconst X21.here hx rfl (hb hby at_103) k) ?_
    show G (T21.setTop (mkF m 104 #[.val (.int p0), .val (.int p1), .val (.int p2), .val (.int p3), .val (.int p4), .val (.int p5), .val (.long s0), .second, .val (.long s1), .second, .val (.int (0 : Int32)), .val (.long (((2 : Int64) * s0) + (1 : Int64))), .second, .val (.long D1), .second, .val (.ref b1), .unset, .unset, .unset, .unset, .unset, .unset, .unset, .unset] [(.int (2 : Int32)), (.ref b12), (.ref b12)]))
    refine gs (fun t k => XS.iconst X21.here hx rfl (hb hby at_104) k) ?_
    show G (T21.setTop (mkF m 105 #[.val (.int p0), .val (.int p1), .val (.int p2), .val (.int p3), .val (.int p4), .val (.int p5), .val (.long s0), .second, .val (.long s1), .second, .val (.int (0 : Int32)), .val (.long (((2 : Int64) * s0) + (1 : Int64))), .second, .val (.long D1), .second, .val (.ref b1), .unset, .unset, .unset, .unset, .unset, .unset, .unset, .unset] [(.int (2 : Int32)), (.int (2 : Int32)), (.ref b12), (.ref b12)]))
    obtain ⟨vc26, vA26, vq26, vS26, vN26, vH26, vG26⟩ := V_b12_q21
    have hin26 : ¬ ((2 : Int32) < 0 ∨ vc26.slots.size ≤ ((2 : Int32)).toNatClampNeg) := inb_of vS26 ⟨by decide, by decide⟩
    obtain ⟨T26, h26, X26, e26, W26, st26⟩ := stI X21 hx hZ e21 vA26 (j := (2 : Int32)) hin26 (g := (mkF m 105 #[.val (.int p0), .val (.int p1), .val (.int p2), .val (.int p3), .val (.int p4), .val (.int p5), .val (.long s0), .second, .val (.long s1), .second, .val (.int (0 : Int32)), .val (.long (((2 : Int64) * s0) + (1 : Int64))), .second, .val (.long D1), .second, .val (.ref b1), .unset, .unset, .unset, .unset, .unset, .unset, .unset, .unset] [(.int (2 : Int32)), (.int (2 : Int32)), (.ref b12), (.ref b12)])) rfl rfl (hb hby at_105)
    have EA1_q27 := EA1_q22.wr W26
    have V_b1_q28 := V_b1_q23.other W26 ne_b1_b12
    have EA12_q29 := EA12_q24.wr W26
    have K30 := K25.wr W26 (Or.inr sz_b12)
    have V_b12_q26 := Arv.set vA26 vq26 vS26 vN26 vH26 vG26 rfl W26 2 rfl (Nat.le_of_ble_eq_true rfl)
    have N26 := Fr.snoc X26 N21 g_b12
    refine gs (fun t k => st26 _ k) ?_
    show G (T26.setTop (mkF m 106 #[.val (.int p0), .val (.int p1), .val (.int p2), .val (.int p3), .val (.int p4), .val (.int p5), .val (.long s0), .second, .val (.long s1), .second, .val (.int (0 : Int32)), .val (.long (((2 : Int64) * s0) + (1 : Int64))), .second, .val (.long D1), .second, .val (.ref b1), .unset, .unset, .unset, .unset, .unset, .unset, .unset, .unset] [(.ref b12)]))
    refine gs (fun t k => XS.astore X26.here hx rfl (hb hby at_106) rfl rfl (l' := #[.val (.int p0), .val (.int p1), .val (.int p2), .val (.int p3), .val (.int p4), .val (.int p5), .val (.long s0), .second, .val (.long s1), .second, .val (.int (0 : Int32)), .val (.long (((2 : Int64) * s0) + (1 : Int64))), .second, .val (.long D1), .second, .val (.ref b1), .val (.ref b12), .unset, .unset, .unset, .unset, .unset, .unset, .unset]) rfl k) ?_
    show G (T26.setTop (mkF m 108 #[.val (.int p0), .val (.int p1), .val (.int p2), .val (.int p3), .val (.int p4), .val (.int p5), .val (.long s0), .second, .val (.long s1), .second, .val (.int (0 : Int32)), .val (.long (((2 : Int64) * s0) + (1 : Int64))), .second, .val (.long D1), .second, .val (.ref b1), .val (.ref b12), .unset, .unset, .unset, .unset, .unset, .unset, .unset] []))
    obtain ⟨T31, h31, X31, e31, E31, A31, D31, -, st31⟩ := newO X26 hx hZ hown (hw _ (List.mem_of_getElem? (i := 3) rfl)) (hw _ (List.mem_of_getElem? (i := 4) rfl)) (hw _ (List.mem_of_getElem? (i := 5) rfl)) e26 (g := (mkF m 108 #[.val (.int p0), .val (.int p1), .val (.int p2), .val (.int p3), .val (.int p4), .val (.int p5), .val (.long s0), .second, .val (.long s1), .second, .val (.int (0 : Int32)), .val (.long (((2 : Int64) * s0) + (1 : Int64))), .second, .val (.long D1), .second, .val (.ref b1), .val (.ref b12), .unset, .unset, .unset, .unset, .unset, .unset, .unset] [])) rfl (hb hby at_108) (by decide) (by decide)
    obtain ⟨b31, g31⟩ : ∃ z, z = h26.size := ⟨_, rfl⟩
    rw [← g31] at A31 D31 st31
    have sz_b31 : h0.size ≤ b31 := Nat.le_trans K30.1 (Nat.le_of_eq g31.symm)
    have g_b31 : n0 ≤ b31 := Nat.le_trans Z0 sz_b31
    have ne_b1_b31 : b1 ≠ b31 := Nat.ne_of_lt (Nat.lt_of_lt_of_le EA1_q27.lt (Nat.le_of_eq g31.symm))
    have ne_b12_b31 : b12 ≠ b31 := Nat.ne_of_lt (Nat.lt_of_lt_of_le EA12_q29.lt (Nat.le_of_eq g31.symm))
    have EA1_q32 := EA1_q27.ext E31
    have V_b1_q33 := V_b1_q28.ext E31
    have EA12_q34 := EA12_q29.ext E31
    have V_b12_q35 := V_b12_q26.ext E31
    have K36 := K30.ext E31
    have E_b31 := A31
    have F_weights_b31 : Fld Z h31 b31 "com/example/consensus_to_coverage/consensustocoverage/reranking/ProportionalSeats" "weights" "[D" .null := D31 (Or.inr (hw _ (List.mem_of_getElem? (i := 22) rfl))) (ty := (.array .double)) (by decide)
    have F_places_b31 : Fld Z h31 b31 "com/example/consensus_to_coverage/consensustocoverage/reranking/ProportionalSeats" "places" "[I" .null := D31 (Or.inr (hw _ (List.mem_of_getElem? (i := 30) rfl))) (ty := (.array .int)) (by decide)
    have F_seats_b31 : Fld Z h31 b31 "com/example/consensus_to_coverage/consensustocoverage/reranking/ProportionalSeats" "seats" "[D" .null := D31 (Or.inr (hw _ (List.mem_of_getElem? (i := 32) rfl))) (ty := (.array .double)) (by decide)
    refine gs (fun t k => st31 _ k) ?_
    show G (T31.setTop (mkF m 111 #[.val (.int p0), .val (.int p1), .val (.int p2), .val (.int p3), .val (.int p4), .val (.int p5), .val (.long s0), .second, .val (.long s1), .second, .val (.int (0 : Int32)), .val (.long (((2 : Int64) * s0) + (1 : Int64))), .second, .val (.long D1), .second, .val (.ref b1), .val (.ref b12), .unset, .unset, .unset, .unset, .unset, .unset, .unset] [(.ref b31)]))
    refine gs (fun t k => XS.dup X31.here hx rfl (hb hby at_111) rfl rfl k) ?_
    show G (T31.setTop (mkF m 112 #[.val (.int p0), .val (.int p1), .val (.int p2), .val (.int p3), .val (.int p4), .val (.int p5), .val (.long s0), .second, .val (.long s1), .second, .val (.int (0 : Int32)), .val (.long (((2 : Int64) * s0) + (1 : Int64))), .second, .val (.long D1), .second, .val (.ref b1), .val (.ref b12), .unset, .unset, .unset, .unset, .unset, .unset, .unset] [(.ref b31), (.ref b31)]))
    refine gs (fun t k => XS.aload X31.here hx rfl (hb hby at_112) rfl rfl k) ?_
    show G (T31.setTop (mkF m 114 #[.val (.int p0), .val (.int p1), .val (.int p2), .val (.int p3), .val (.int p4), .val (.int p5), .val (.long s0), .second, .val (.long s1), .second, .val (.int (0 : Int32)), .val (.long (((2 : Int64) * s0) + (1 : Int64))), .second, .val (.long D1), .second, .val (.ref b1), .val (.ref b12), .unset, .unset, .unset, .unset, .unset, .unset, .unset] [(.ref b1), (.ref b31), (.ref b31)]))
    refine gs (fun t k => XS.aload X31.here hx rfl (hb hby at_114) rfl rfl k) ?_
    show G (T31.setTop (mkF m 116 #[.val (.int p0), .val (.int p1), .val (.int p2), .val (.int p3), .val (.int p4), .val (.int p5), .val (.long s0), .second, .val (.long s1), .second, .val (.int (0 : Int32)), .val (.long (((2 : Int64) * s0) + (1 : Int64))), .second, .val (.long D1), .second, .val (.ref b1), .val (.ref b12), .unset, .unset, .unset, .unset, .unset, .unset, .unset] [(.ref b12), (.ref b1), (.ref b31), (.ref b31)]))
    obtain ⟨_, _, ⟨T37, L37, k37, n37⟩, -, X37, ⟨Lc37, hQ37, l37, y37, z37⟩, st37⟩ := X31.specialBack hx (y := (⟨"com/example/consensus_to_coverage/consensustocoverage/reranking/ProportionalSeats", "<init>", "([D[I)V"⟩ : MethodName)) rfl hown (mvT hZ (hw _ (List.mem_of_getElem? (i := 6) rfl))) (mvT hZ (hw _ (List.mem_of_getElem? (i := 7) rfl))) (mvT hZ (hw _ (List.mem_of_getElem? (i := 8) rfl))) (by decide) (backOf (W := 1) (rm1 l Z a0 hw [] b31 b1 b12 x0 x1 x2 _ _ h31 n0 (Nat.le_trans Z0 K36.1) E_b31 F_weights_b31 F_places_b31 F_seats_b31 g_b31 EA1_q32 EA12_q34 V_b1_q33 V_b12_q35 ne_b1_b31 ne_b12_b31) hZ (hw _ (List.mem_of_getElem? (i := 8) rfl)) (hw _ (List.mem_of_getElem? (i := 5) rfl)) (by decide) (by decide)) (g := (mkF m 116 #[.val (.int p0), .val (.int p1), .val (.int p2), .val (.int p3), .val (.int p4), .val (.int p5), .val (.long s0), .second, .val (.long s1), .second, .val (.int (0 : Int32)), .val (.long (((2 : Int64) * s0) + (1 : Int64))), .second, .val (.long D1), .second, .val (.ref b1), .val (.ref b12), .unset, .unset, .unset, .unset, .unset, .unset, .unset] [(.ref b12), (.ref b1), (.ref b31), (.ref b31)])) rfl (by rw [hml]; rfl) (Steps.refl _) (a := b31) (argsL := [(.ref b1), (.ref b12)]) (rest := [(.ref b31)]) (lenOf pd_0 rfl) rfl (by show 2 * 0 + _ ≤ _; exact Nat.le_of_eq rfl) (hb hby at_116) (fun _ _ => ⟨rfl, e31, (by decide : 3 + 3 ≤ _), (by decide : 9 + 9 ≤ _)⟩)
    dsimp only [Pt.U, Pt.locs, Pt.cells, Pt.slots] at X37 l37 y37 z37 st37 hQ37
    subst y37 z37
    obtain ⟨rfl, N37q, Kc37, Ex37, rs37⟩ := hQ37
    have N37 : Fr n0 L37 := by rw [l37]; exact Fr.app N26 N37q
    refine gs (fun t k => st37.trans k) ?_
    have EA1_q38 := EA1_q32.keep Kc37
    have V_b1_q39 := V_b1_q33.keep Kc37 (ninS ne_b1_b31 nin0)
    have EA12_q40 := EA12_q34.keep Kc37
    have V_b12_q41 := V_b12_q35.keep Kc37 (ninS ne_b12_b31 nin0)
    have E_b31_q42 := E_b31.keep Kc37
    have K43 := K36.trans Kc37 (allS (Or.inr sz_b31) all0)
    obtain ⟨bw, bs, kw, ks, szw, szs, nws, Fw37, Fs37, Vw37, Vs37⟩ := rs37
    have ne_b1_bw : b1 ≠ bw := Nat.ne_of_lt (Nat.lt_of_lt_of_le V_b1_q33.lt szw)
    have ne_b1_bs : b1 ≠ bs := Nat.ne_of_lt (Nat.lt_of_lt_of_le V_b1_q33.lt szs)
    have ne_b12_bw : b12 ≠ bw := Nat.ne_of_lt (Nat.lt_of_lt_of_le V_b12_q35.lt szw)
    have ne_b12_bs : b12 ≠ bs := Nat.ne_of_lt (Nat.lt_of_lt_of_le V_b12_q35.lt szs)
    have ne_b31_bw : b31 ≠ bw := Nat.ne_of_lt (Nat.lt_of_lt_of_le E_b31.lt szw)
    have ne_b31_bs : b31 ≠ bs := Nat.ne_of_lt (Nat.lt_of_lt_of_le E_b31.lt szs)
    have sz_bs : h0.size ≤ bs := Nat.le_trans K36.1 szs
    have g_bs : n0 ≤ bs := Nat.le_trans Z0 sz_bs
    show G (T37.setTop (mkF m 119 #[.val (.int p0), .val (.int p1), .val (.int p2), .val (.int p3), .val (.int p4), .val (.int p5), .val (.long s0), .second, .val (.long s1), .second, .val (.int (0 : Int32)), .val (.long (((2 : Int64) * s0) + (1 : Int64))), .second, .val (.long D1), .second, .val (.ref b1), .val (.ref b12), .unset, .unset, .unset, .unset, .unset, .unset, .unset] [(.ref b31)]))
    refine gs (fun t k => XS.astore X37.here hx rfl (hb hby at_119) rfl rfl (l' := #[.val (.int p0), .val (.int p1), .val (.int p2), .val (.int p3), .val (.int p4), .val (.int p5), .val (.long s0), .second, .val (.long s1), .second, .val (.int (0 : Int32)), .val (.long (((2 : Int64) * s0) + (1 : Int64))), .second, .val (.long D1), .second, .val (.ref b1), .val (.ref b12), .val (.ref b31), .unset, .unset, .unset, .unset, .unset, .unset]) rfl k) ?_
    show G (T37.setTop (mkF m 121 #[.val (.int p0), .val (.int p1), .val (.int p2), .val (.int p3), .val (.int p4), .val (.int p5), .val (.long s0), .second, .val (.long s1), .second, .val (.int (0 : Int32)), .val (.long (((2 : Int64) * s0) + (1 : Int64))), .second, .val (.long D1), .second, .val (.ref b1), .val (.ref b12), .val (.ref b31), .unset, .unset, .unset, .unset, .unset, .unset] []))
    refine gs (fun t k => XS.aload X37.here hx rfl (hb hby at_121) rfl rfl k) ?_
    show G (T37.setTop (mkF m 123 #[.val (.int p0), .val (.int p1), .val (.int p2), .val (.int p3), .val (.int p4), .val (.int p5), .val (.long s0), .second, .val (.long s1), .second, .val (.int (0 : Int32)), .val (.long (((2 : Int64) * s0) + (1 : Int64))), .second, .val (.long D1), .second, .val (.ref b1), .val (.ref b12), .val (.ref b31), .unset, .unset, .unset, .unset, .unset, .unset] [(.ref b1)]))
    refine gs (fun t k => XS.iconst X37.here hx rfl (hb hby at_123) k) ?_
    show G (T37.setTop (mkF m 124 #[.val (.int p0), .val (.int p1), .val (.int p2), .val (.int p3), .val (.int p4), .val (.int p5), .val (.long s0), .second, .val (.long s1), .second, .val (.int (0 : Int32)), .val (.long (((2 : Int64) * s0) + (1 : Int64))), .second, .val (.long D1), .second, .val (.ref b1), .val (.ref b12), .val (.ref b31), .unset, .unset, .unset, .unset, .unset, .unset] [(.int (0 : Int32)), (.ref b1)]))
    refine gs (fun t k => XS.dconst1 X37.here hx rfl (hb hby at_124) rfl k) ?_
    show G (T37.setTop (mkF m 125 #[.val (.int p0), .val (.int p1), .val (.int p2), .val (.int p3), .val (.int p4), .val (.int p5), .val (.long s0), .second, .val (.long s1), .second, .val (.int (0 : Int32)), .val (.long (((2 : Int64) * s0) + (1 : Int64))), .second, .val (.long D1), .second, .val (.ref b1), .val (.ref b12), .val (.ref b31), .unset, .unset, .unset, .unset, .unset, .unset] [(.double FP.dconst1), (.int (0 : Int32)), (.ref b1)]))
    obtain ⟨vc44, vA44, vq44, vS44, vN44, vH44, vG44⟩ := V_b1_q39
    have hin44 : ¬ ((0 : Int32) < 0 ∨ vc44.slots.size ≤ ((0 : Int32)).toNatClampNeg) := inb_of vS44 ⟨by decide, by decide⟩
    obtain ⟨T44, h44, X44, e44, W44, st44⟩ := stD X37 hx hZ rfl vA44 (j := (0 : Int32)) hin44 (g := (mkF m 125 #[.val (.int p0), .val (.int p1), .val (.int p2), .val (.int p3), .val (.int p4), .val (.int p5), .val (.long s0), .second, .val (.long s1), .second, .val (.int (0 : Int32)), .val (.long (((2 : Int64) * s0) + (1 : Int64))), .second, .val (.long D1), .second, .val (.ref b1), .val (.ref b12), .val (.ref b31), .unset, .unset, .unset, .unset, .unset, .unset] [(.double FP.dconst1), (.int (0 : Int32)), (.ref b1)])) rfl rfl (hb hby at_125)
    have EA1_q45 := EA1_q38.wr W44
    have EA12_q46 := EA12_q40.wr W44
    have V_b12_q47 := V_b12_q41.other W44 (Ne.symm ne_b1_b12)
    have Ex37_q48 := Ex37.wr W44
    have Fw37_q49 := Fw37.other W44 (Or.inl (Ne.symm ne_b1_b31))
    have Fs37_q50 := Fs37.other W44 (Or.inl (Ne.symm ne_b1_b31))
    have Vw37_q51 := Vw37.other W44 (Ne.symm ne_b1_bw)
    have Vs37_q52 := Vs37.other W44 (Ne.symm ne_b1_bs)
    have K53 := K43.wr W44 (Or.inr sz_b1)
    have V_b1_q44 := Arv.set vA44 vq44 vS44 vN44 vH44 vG44 rfl W44 0 rfl (Nat.le_of_ble_eq_true rfl)
    have N44 := Fr.snoc X44 N37 g_b1
    refine gs (fun t k => st44 _ k) ?_
    show G (T44.setTop (mkF m 126 #[.val (.int p0), .val (.int p1), .val (.int p2), .val (.int p3), .val (.int p4), .val (.int p5), .val (.long s0), .second, .val (.long s1), .second, .val (.int (0 : Int32)), .val (.long (((2 : Int64) * s0) + (1 : Int64))), .second, .val (.long D1), .second, .val (.ref b1), .val (.ref b12), .val (.ref b31), .unset, .unset, .unset, .unset, .unset, .unset] []))
    refine gs (fun t k => XS.aload X44.here hx rfl (hb hby at_126) rfl rfl k) ?_
    show G (T44.setTop (mkF m 128 #[.val (.int p0), .val (.int p1), .val (.int p2), .val (.int p3), .val (.int p4), .val (.int p5), .val (.long s0), .second, .val (.long s1), .second, .val (.int (0 : Int32)), .val (.long (((2 : Int64) * s0) + (1 : Int64))), .second, .val (.long D1), .second, .val (.ref b1), .val (.ref b12), .val (.ref b31), .unset, .unset, .unset, .unset, .unset, .unset] [(.ref b1)]))
    refine gs (fun t k => XS.iconst X44.here hx rfl (hb hby at_128) k) ?_
    show G (T44.setTop (mkF m 129 #[.val (.int p0), .val (.int p1), .val (.int p2), .val (.int p3), .val (.int p4), .val (.int p5), .val (.long s0), .second, .val (.long s1), .second, .val (.int (0 : Int32)), .val (.long (((2 : Int64) * s0) + (1 : Int64))), .second, .val (.long D1), .second, .val (.ref b1), .val (.ref b12), .val (.ref b31), .unset, .unset, .unset, .unset, .unset, .unset] [(.int (1 : Int32)), (.ref b1)]))
    refine gs (fun t k => XS.dconst1 X44.here hx rfl (hb hby at_129) rfl k) ?_
    show G (T44.setTop (mkF m 130 #[.val (.int p0), .val (.int p1), .val (.int p2), .val (.int p3), .val (.int p4), .val (.int p5), .val (.long s0), .second, .val (.long s1), .second, .val (.int (0 : Int32)), .val (.long (((2 : Int64) * s0) + (1 : Int64))), .second, .val (.long D1), .second, .val (.ref b1), .val (.ref b12), .val (.ref b31), .unset, .unset, .unset, .unset, .unset, .unset] [(.double FP.dconst1), (.int (1 : Int32)), (.ref b1)]))
    obtain ⟨vc54, vA54, vq54, vS54, vN54, vH54, vG54⟩ := V_b1_q44
    have hin54 : ¬ ((1 : Int32) < 0 ∨ vc54.slots.size ≤ ((1 : Int32)).toNatClampNeg) := inb_of vS54 ⟨by decide, by decide⟩
    obtain ⟨T54, h54, X54, e54, W54, st54⟩ := stD X44 hx hZ e44 vA54 (j := (1 : Int32)) hin54 (g := (mkF m 130 #[.val (.int p0), .val (.int p1), .val (.int p2), .val (.int p3), .val (.int p4), .val (.int p5), .val (.long s0), .second, .val (.long s1), .second, .val (.int (0 : Int32)), .val (.long (((2 : Int64) * s0) + (1 : Int64))), .second, .val (.long D1), .second, .val (.ref b1), .val (.ref b12), .val (.ref b31), .unset, .unset, .unset, .unset, .unset, .unset] [(.double FP.dconst1), (.int (1 : Int32)), (.ref b1)])) rfl rfl (hb hby at_130)
    have EA1_q55 := EA1_q45.wr W54
    have EA12_q56 := EA12_q46.wr W54
    have V_b12_q57 := V_b12_q47.other W54 (Ne.symm ne_b1_b12)
    have Ex37_q58 := Ex37_q48.wr W54
    have Fw37_q59 := Fw37_q49.other W54 (Or.inl (Ne.symm ne_b1_b31))
    have Fs37_q60 := Fs37_q50.other W54 (Or.inl (Ne.symm ne_b1_b31))
    have Vw37_q61 := Vw37_q51.other W54 (Ne.symm ne_b1_bw)
    have Vs37_q62 := Vs37_q52.other W54 (Ne.symm ne_b1_bs)
    have K63 := K53.wr W54 (Or.inr sz_b1)
    have V_b1_q54 := Arv.set vA54 vq54 vS54 vN54 vH54 vG54 rfl W54 1 rfl (Nat.le_of_ble_eq_true rfl)
    have N54 := Fr.snoc X54 N44 g_b1
    refine gs (fun t k => st54 _ k) ?_
    show G (T54.setTop (mkF m 131 #[.val (.int p0), .val (.int p1), .val (.int p2), .val (.int p3), .val (.int p4), .val (.int p5), .val (.long s0), .second, .val (.long s1), .second, .val (.int (0 : Int32)), .val (.long (((2 : Int64) * s0) + (1 : Int64))), .second, .val (.long D1), .second, .val (.ref b1), .val (.ref b12), .val (.ref b31), .unset, .unset, .unset, .unset, .unset, .unset] []))
    refine gs (fun t k => XS.aload X54.here hx rfl (hb hby at_131) rfl rfl k) ?_
    show G (T54.setTop (mkF m 133 #[.val (.int p0), .val (.int p1), .val (.int p2), .val (.int p3), .val (.int p4), .val (.int p5), .val (.long s0), .second, .val (.long s1), .second, .val (.int (0 : Int32)), .val (.long (((2 : Int64) * s0) + (1 : Int64))), .second, .val (.long D1), .second, .val (.ref b1), .val (.ref b12), .val (.ref b31), .unset, .unset, .unset, .unset, .unset, .unset] [(.ref b1)]))
    refine gs (fun t k => XS.iconst X54.here hx rfl (hb hby at_133) k) ?_
    show G (T54.setTop (mkF m 134 #[.val (.int p0), .val (.int p1), .val (.int p2), .val (.int p3), .val (.int p4), .val (.int p5), .val (.long s0), .second, .val (.long s1), .second, .val (.int (0 : Int32)), .val (.long (((2 : Int64) * s0) + (1 : Int64))), .second, .val (.long D1), .second, .val (.ref b1), .val (.ref b12), .val (.ref b31), .unset, .unset, .unset, .unset, .unset, .unset] [(.int (2 : Int32)), (.ref b1)]))
    refine gs (fun t k => XS.dconst1 X54.here hx rfl (hb hby at_134) rfl k) ?_
    show G (T54.setTop (mkF m 135 #[.val (.int p0), .val (.int p1), .val (.int p2), .val (.int p3), .val (.int p4), .val (.int p5), .val (.long s0), .second, .val (.long s1), .second, .val (.int (0 : Int32)), .val (.long (((2 : Int64) * s0) + (1 : Int64))), .second, .val (.long D1), .second, .val (.ref b1), .val (.ref b12), .val (.ref b31), .unset, .unset, .unset, .unset, .unset, .unset] [(.double FP.dconst1), (.int (2 : Int32)), (.ref b1)]))
    obtain ⟨vc64, vA64, vq64, vS64, vN64, vH64, vG64⟩ := V_b1_q54
    have hin64 : ¬ ((2 : Int32) < 0 ∨ vc64.slots.size ≤ ((2 : Int32)).toNatClampNeg) := inb_of vS64 ⟨by decide, by decide⟩
    obtain ⟨T64, h64, X64, e64, W64, st64⟩ := stD X54 hx hZ e54 vA64 (j := (2 : Int32)) hin64 (g := (mkF m 135 #[.val (.int p0), .val (.int p1), .val (.int p2), .val (.int p3), .val (.int p4), .val (.int p5), .val (.long s0), .second, .val (.long s1), .second, .val (.int (0 : Int32)), .val (.long (((2 : Int64) * s0) + (1 : Int64))), .second, .val (.long D1), .second, .val (.ref b1), .val (.ref b12), .val (.ref b31), .unset, .unset, .unset, .unset, .unset, .unset] [(.double FP.dconst1), (.int (2 : Int32)), (.ref b1)])) rfl rfl (hb hby at_135)
    have EA1_q65 := EA1_q55.wr W64
    have EA12_q66 := EA12_q56.wr W64
    have V_b12_q67 := V_b12_q57.other W64 (Ne.symm ne_b1_b12)
    have Ex37_q68 := Ex37_q58.wr W64
    have Fw37_q69 := Fw37_q59.other W64 (Or.inl (Ne.symm ne_b1_b31))
    have Fs37_q70 := Fs37_q60.other W64 (Or.inl (Ne.symm ne_b1_b31))
    have Vw37_q71 := Vw37_q61.other W64 (Ne.symm ne_b1_bw)
    have Vs37_q72 := Vs37_q62.other W64 (Ne.symm ne_b1_bs)
    have K73 := K63.wr W64 (Or.inr sz_b1)
    have V_b1_q64 := Arv.set vA64 vq64 vS64 vN64 vH64 vG64 rfl W64 2 rfl (Nat.le_of_ble_eq_true rfl)
    have N64 := Fr.snoc X64 N54 g_b1
    refine gs (fun t k => st64 _ k) ?_
    show G (T64.setTop (mkF m 136 #[.val (.int p0), .val (.int p1), .val (.int p2), .val (.int p3), .val (.int p4), .val (.int p5), .val (.long s0), .second, .val (.long s1), .second, .val (.int (0 : Int32)), .val (.long (((2 : Int64) * s0) + (1 : Int64))), .second, .val (.long D1), .second, .val (.ref b1), .val (.ref b12), .val (.ref b31), .unset, .unset, .unset, .unset, .unset, .unset] []))
    refine gs (fun t k => XS.lload X64.here hx rfl (hb hby at_136) rfl k) ?_
    show G (T64.setTop (mkF m 138 #[.val (.int p0), .val (.int p1), .val (.int p2), .val (.int p3), .val (.int p4), .val (.int p5), .val (.long s0), .second, .val (.long s1), .second, .val (.int (0 : Int32)), .val (.long (((2 : Int64) * s0) + (1 : Int64))), .second, .val (.long D1), .second, .val (.ref b1), .val (.ref b12), .val (.ref b31), .unset, .unset, .unset, .unset, .unset, .unset] [(.long s0)]))
    refine gs (fun t k => XS.iconst X64.here hx rfl (hb hby at_138) k) ?_
    show G (T64.setTop (mkF m 139 #[.val (.int p0), .val (.int p1), .val (.int p2), .val (.int p3), .val (.int p4), .val (.int p5), .val (.long s0), .second, .val (.long s1), .second, .val (.int (0 : Int32)), .val (.long (((2 : Int64) * s0) + (1 : Int64))), .second, .val (.long D1), .second, .val (.ref b1), .val (.ref b12), .val (.ref b31), .unset, .unset, .unset, .unset, .unset, .unset] [(.int (1 : Int32)), (.long s0)]))
    refine gs (fun t k => XS.lshr X64.here hx rfl (hb hby at_139) rfl k) ?_
    show G (T64.setTop (mkF m 140 #[.val (.int p0), .val (.int p1), .val (.int p2), .val (.int p3), .val (.int p4), .val (.int p5), .val (.long s0), .second, .val (.long s1), .second, .val (.int (0 : Int32)), .val (.long (((2 : Int64) * s0) + (1 : Int64))), .second, .val (.long D1), .second, .val (.ref b1), .val (.ref b12), .val (.ref b31), .unset, .unset, .unset, .unset, .unset, .unset] [(.long (s0 >>> ((1 : Int32) &&& 0x3f).toInt64))]))
    obtain ⟨aa, haa⟩ : ∃ z : Int64, z = (s0 >>> ((1 : Int32) &&& 0x3f).toInt64) := ⟨_, rfl⟩
    rw [← haa]
    show G (T64.setTop (mkF m 140 #[.val (.int p0), .val (.int p1), .val (.int p2), .val (.int p3), .val (.int p4), .val (.int p5), .val (.long s0), .second, .val (.long s1), .second, .val (.int (0 : Int32)), .val (.long (((2 : Int64) * s0) + (1 : Int64))), .second, .val (.long D1), .second, .val (.ref b1), .val (.ref b12), .val (.ref b31), .unset, .unset, .unset, .unset, .unset, .unset] [(.long aa)]))
    obtain ⟨Sa, Sb⟩ := own_hs S0 haa
    refine gs (fun t k => XS.lstore X64.here hx rfl (hb hby at_140) rfl (l' := #[.val (.int p0), .val (.int p1), .val (.int p2), .val (.int p3), .val (.int p4), .val (.int p5), .val (.long s0), .second, .val (.long s1), .second, .val (.int (0 : Int32)), .val (.long (((2 : Int64) * s0) + (1 : Int64))), .second, .val (.long D1), .second, .val (.ref b1), .val (.ref b12), .val (.ref b31), .val (.long aa), .second, .unset, .unset, .unset, .unset]) rfl k) ?_
    show G (T64.setTop (mkF m 142 #[.val (.int p0), .val (.int p1), .val (.int p2), .val (.int p3), .val (.int p4), .val (.int p5), .val (.long s0), .second, .val (.long s1), .second, .val (.int (0 : Int32)), .val (.long (((2 : Int64) * s0) + (1 : Int64))), .second, .val (.long D1), .second, .val (.ref b1), .val (.ref b12), .val (.ref b31), .val (.long aa), .second, .unset, .unset, .unset, .unset] []))
    refine gs (fun t k => XS.aload X64.here hx rfl (hb hby at_142) rfl rfl k) ?_
    show G (T64.setTop (mkF m 144 #[.val (.int p0), .val (.int p1), .val (.int p2), .val (.int p3), .val (.int p4), .val (.int p5), .val (.long s0), .second, .val (.long s1), .second, .val (.int (0 : Int32)), .val (.long (((2 : Int64) * s0) + (1 : Int64))), .second, .val (.long D1), .second, .val (.ref b1), .val (.ref b12), .val (.ref b31), .val (.long aa), .second, .unset, .unset, .unset, .unset] [(.ref b31)]))
    refine gs (fun t k => XS.iconst X64.here hx rfl (hb hby at_144) k) ?_
    show G (T64.setTop (mkF m 145 #[.val (.int p0), .val (.int p1), .val (.int p2), .val (.int p3), .val (.int p4), .val (.int p5), .val (.long s0), .second, .val (.long s1), .second, .val (.int (0 : Int32)), .val (.long (((2 : Int64) * s0) + (1 : Int64))), .second, .val (.long D1), .second, .val (.ref b1), .val (.ref b12), .val (.ref b31), .val (.long aa), .second, .unset, .unset, .unset, .unset] [(.int (0 : Int32)), (.ref b31)]))
    refine gs (fun t k => XS.lload X64.here hx rfl (hb hby at_145) rfl k) ?_
    show G (T64.setTop (mkF m 147 #[.val (.int p0), .val (.int p1), .val (.int p2), .val (.int p3), .val (.int p4), .val (.int p5), .val (.long s0), .second, .val (.long s1), .second, .val (.int (0 : Int32)), .val (.long (((2 : Int64) * s0) + (1 : Int64))), .second, .val (.long D1), .second, .val (.ref b1), .val (.ref b12), .val (.ref b31), .val (.long aa), .second, .unset, .unset, .unset, .unset] [(.long aa), (.int (0 : Int32)), (.ref b31)]))
    refine gs (fun t k => XS.l2dS X64.here hx rfl (hb hby at_147) rfl rfl k) ?_
    show G (T64.setTop (mkF m 148 #[.val (.int p0), .val (.int p1), .val (.int p2), .val (.int p3), .val (.int p4), .val (.int p5), .val (.long s0), .second, .val (.long s1), .second, .val (.int (0 : Int32)), .val (.long (((2 : Int64) * s0) + (1 : Int64))), .second, .val (.long D1), .second, .val (.ref b1), .val (.ref b12), .val (.ref b31), .val (.long aa), .second, .unset, .unset, .unset, .unset] [(.double (FP.l2d aa)), (.int (0 : Int32)), (.ref b31)]))
    obtain ⟨cq74, kq74, q74a, q74b, q74c⟩ := isOf hZ e64 Ex37_q68
    obtain ⟨_, _, ⟨T74, L74, k74, n74⟩, -, X74, ⟨Lc74, hQ74, l74, y74, z74⟩, st74⟩ := X64.virtualBack hx (y := (⟨"com/example/consensus_to_coverage/consensustocoverage/reranking/ProportionalSeats", "add", "(ID)V"⟩ : MethodName)) (z := (⟨"com/example/consensus_to_coverage/consensustocoverage/reranking/ProportionalSeats", "add", "(ID)V"⟩ : MethodName)) hown (mvT hZ (hw _ (List.mem_of_getElem? (i := 33) rfl))) (mvT hZ (hw _ (List.mem_of_getElem? (i := 34) rfl))) (notFace_of_selects (args := #[]) (mvT hZ (hw _ (List.mem_of_getElem? (i := 36) rfl)))) (mvT hZ (hw _ (List.mem_of_getElem? (i := 36) rfl))) (mvT hZ (hw _ (List.mem_of_getElem? (i := 35) rfl))) (by decide) (backOf (W := 0) (rm3a0 l Z a0 hw [] b31 (FP.l2d aa) bs ks 0 0 0 (FP.l2d aa) h64 n0 (Nat.le_trans Z0 K73.1) Fs37_q70 Vs37_q72 g_bs (own_a0 Sa) (nn_w rfl)) hZ (hw _ (List.mem_of_getElem? (i := 37) rfl)) (hw _ (List.mem_of_getElem? (i := 5) rfl)) (by decide) (by decide)) q74a q74c (g := (mkF m 148 #[.val (.int p0), .val (.int p1), .val (.int p2), .val (.int p3), .val (.int p4), .val (.int p5), .val (.long s0), .second, .val (.long s1), .second, .val (.int (0 : Int32)), .val (.long (((2 : Int64) * s0) + (1 : Int64))), .second, .val (.long D1), .second, .val (.ref b1), .val (.ref b12), .val (.ref b31), .val (.long aa), .second, .unset, .unset, .unset, .unset] [(.double (FP.l2d aa)), (.int (0 : Int32)), (.ref b31)])) rfl (by rw [hml]; rfl) (Steps.refl _) (argsL := [(.int (0 : Int32)), (.double (FP.l2d aa))]) (rest := []) (lenOf pd_1 rfl) rfl (by show 2 * 0 + _ ≤ _; exact Nat.le_of_eq rfl) (hb hby at_148) (fun _ _ => ⟨rfl, e64, (by decide : 6 + 0 ≤ _), (by decide : 18 + 0 ≤ _)⟩)
    dsimp only [Pt.U, Pt.locs, Pt.cells, Pt.slots] at X74 l74 y74 z74 st74 hQ74
    subst y74 z74
    obtain ⟨rfl, N74q, Kc74, Va74⟩ := hQ74
    have N74 : Fr n0 L74 := by rw [l74]; exact Fr.app N64 N74q
    refine gs (fun t k => st74.trans k) ?_
    have EA1_q75 := EA1_q65.keep Kc74
    have EA12_q76 := EA12_q66.keep Kc74
    have V_b12_q77 := V_b12_q67.keep Kc74 (ninS ne_b12_bs nin0)
    have Ex37_q78 := Ex37_q68.keep Kc74
    have Fw37_q79 := Fw37_q69.keep Kc74 (ninS ne_b31_bs nin0)
    have Fs37_q80 := Fs37_q70.keep Kc74 (ninS ne_b31_bs nin0)
    have Vw37_q81 := Vw37_q71.keep Kc74 (ninS nws nin0)
    have V_b1_q82 := V_b1_q64.keep Kc74 (ninS ne_b1_bs nin0)
    have K83 := K73.trans Kc74 (allS (Or.inr sz_bs) all0)
    show G (T74.setTop (mkF m 151 #[.val (.int p0), .val (.int p1), .val (.int p2), .val (.int p3), .val (.int p4), .val (.int p5), .val (.long s0), .second, .val (.long s1), .second, .val (.int (0 : Int32)), .val (.long (((2 : Int64) * s0) + (1 : Int64))), .second, .val (.long D1), .second, .val (.ref b1), .val (.ref b12), .val (.ref b31), .val (.long aa), .second, .unset, .unset, .unset, .unset] []))
    refine gs (fun t k => XS.aload X74.here hx rfl (hb hby at_151) rfl rfl k) ?_
    show G (T74.setTop (mkF m 153 #[.val (.int p0), .val (.int p1), .val (.int p2), .val (.int p3), .val (.int p4), .val (.int p5), .val (.long s0), .second, .val (.long s1), .second, .val (.int (0 : Int32)), .val (.long (((2 : Int64) * s0) + (1 : Int64))), .second, .val (.long D1), .second, .val (.ref b1), .val (.ref b12), .val (.ref b31), .val (.long aa), .second, .unset, .unset, .unset, .unset] [(.ref b31)]))
    refine gs (fun t k => XS.iconst X74.here hx rfl (hb hby at_153) k) ?_
    show G (T74.setTop (mkF m 154 #[.val (.int p0), .val (.int p1), .val (.int p2), .val (.int p3), .val (.int p4), .val (.int p5), .val (.long s0), .second, .val (.long s1), .second, .val (.int (0 : Int32)), .val (.long (((2 : Int64) * s0) + (1 : Int64))), .second, .val (.long D1), .second, .val (.ref b1), .val (.ref b12), .val (.ref b31), .val (.long aa), .second, .unset, .unset, .unset, .unset] [(.int (0 : Int32)), (.ref b31)]))
    refine gs (fun t k => XS.lload X74.here hx rfl (hb hby at_154) rfl k) ?_
    show G (T74.setTop (mkF m 156 #[.val (.int p0), .val (.int p1), .val (.int p2), .val (.int p3), .val (.int p4), .val (.int p5), .val (.long s0), .second, .val (.long s1), .second, .val (.int (0 : Int32)), .val (.long (((2 : Int64) * s0) + (1 : Int64))), .second, .val (.long D1), .second, .val (.ref b1), .val (.ref b12), .val (.ref b31), .val (.long aa), .second, .unset, .unset, .unset, .unset] [(.long s0), (.int (0 : Int32)), (.ref b31)]))
    refine gs (fun t k => XS.lload X74.here hx rfl (hb hby at_156) rfl k) ?_
    show G (T74.setTop (mkF m 158 #[.val (.int p0), .val (.int p1), .val (.int p2), .val (.int p3), .val (.int p4), .val (.int p5), .val (.long s0), .second, .val (.long s1), .second, .val (.int (0 : Int32)), .val (.long (((2 : Int64) * s0) + (1 : Int64))), .second, .val (.long D1), .second, .val (.ref b1), .val (.ref b12), .val (.ref b31), .val (.long aa), .second, .unset, .unset, .unset, .unset] [(.long aa), (.long s0), (.int (0 : Int32)), (.ref b31)]))
    refine gs (fun t k => XS.lsub X74.here hx rfl (hb hby at_158) rfl k) ?_
    show G (T74.setTop (mkF m 159 #[.val (.int p0), .val (.int p1), .val (.int p2), .val (.int p3), .val (.int p4), .val (.int p5), .val (.long s0), .second, .val (.long s1), .second, .val (.int (0 : Int32)), .val (.long (((2 : Int64) * s0) + (1 : Int64))), .second, .val (.long D1), .second, .val (.ref b1), .val (.ref b12), .val (.ref b31), .val (.long aa), .second, .unset, .unset, .unset, .unset] [(.long (s0 - aa)), (.int (0 : Int32)), (.ref b31)]))
    refine gs (fun t k => XS.l2dS X74.here hx rfl (hb hby at_159) rfl rfl k) ?_
    show G (T74.setTop (mkF m 160 #[.val (.int p0), .val (.int p1), .val (.int p2), .val (.int p3), .val (.int p4), .val (.int p5), .val (.long s0), .second, .val (.long s1), .second, .val (.int (0 : Int32)), .val (.long (((2 : Int64) * s0) + (1 : Int64))), .second, .val (.long D1), .second, .val (.ref b1), .val (.ref b12), .val (.ref b31), .val (.long aa), .second, .unset, .unset, .unset, .unset] [(.double (FP.l2d (s0 - aa))), (.int (0 : Int32)), (.ref b31)]))
    obtain ⟨cq84, kq84, q84a, q84b, q84c⟩ := isOf hZ rfl Ex37_q78
    obtain ⟨_, _, ⟨T84, L84, k84, n84⟩, -, X84, ⟨Lc84, hQ84, l84, y84, z84⟩, st84⟩ := X74.virtualBack hx (y := (⟨"com/example/consensus_to_coverage/consensustocoverage/reranking/ProportionalSeats", "add", "(ID)V"⟩ : MethodName)) (z := (⟨"com/example/consensus_to_coverage/consensustocoverage/reranking/ProportionalSeats", "add", "(ID)V"⟩ : MethodName)) hown (mvT hZ (hw _ (List.mem_of_getElem? (i := 33) rfl))) (mvT hZ (hw _ (List.mem_of_getElem? (i := 34) rfl))) (notFace_of_selects (args := #[]) (mvT hZ (hw _ (List.mem_of_getElem? (i := 36) rfl)))) (mvT hZ (hw _ (List.mem_of_getElem? (i := 36) rfl))) (mvT hZ (hw _ (List.mem_of_getElem? (i := 35) rfl))) (by decide) (backOf (W := 0) (rm3a0 l Z a0 hw [] b31 (FP.l2d (s0 - aa)) bs ks (FP.l2d aa) 0 0 (FP.l2d s0) T74.heap n0 (Nat.le_trans Z0 K83.1) Fs37_q80 Va74 g_bs (own_a1 S0 Sa Sb) (nn_w rfl)) hZ (hw _ (List.mem_of_getElem? (i := 37) rfl)) (hw _ (List.mem_of_getElem? (i := 5) rfl)) (by decide) (by decide)) q84a q84c (g := (mkF m 160 #[.val (.int p0), .val (.int p1), .val (.int p2), .val (.int p3), .val (.int p4), .val (.int p5), .val (.long s0), .second, .val (.long s1), .second, .val (.int (0 : Int32)), .val (.long (((2 : Int64) * s0) + (1 : Int64))), .second, .val (.long D1), .second, .val (.ref b1), .val (.ref b12), .val (.ref b31), .val (.long aa), .second, .unset, .unset, .unset, .unset] [(.double (FP.l2d (s0 - aa))), (.int (0 : Int32)), (.ref b31)])) rfl (by rw [hml]; rfl) (Steps.refl _) (argsL := [(.int (0 : Int32)), (.double (FP.l2d (s0 - aa)))]) (rest := []) (lenOf pd_1 rfl) rfl (by show 2 * 0 + _ ≤ _; exact Nat.le_of_eq rfl) (hb hby at_160) (fun _ _ => ⟨rfl, rfl, (by decide : 6 + 0 ≤ _), (by decide : 18 + 0 ≤ _)⟩)
    dsimp only [Pt.U, Pt.locs, Pt.cells, Pt.slots] at X84 l84 y84 z84 st84 hQ84
    subst y84 z84
    obtain ⟨rfl, N84q, Kc84, Va84⟩ := hQ84
    have N84 : Fr n0 L84 := by rw [l84]; exact Fr.app N74 N84q
    refine gs (fun t k => st84.trans k) ?_
    have EA1_q85 := EA1_q75.keep Kc84
    have EA12_q86 := EA12_q76.keep Kc84
    have V_b12_q87 := V_b12_q77.keep Kc84 (ninS ne_b12_bs nin0)
    have Ex37_q88 := Ex37_q78.keep Kc84
    have Fw37_q89 := Fw37_q79.keep Kc84 (ninS ne_b31_bs nin0)
    have Fs37_q90 := Fs37_q80.keep Kc84 (ninS ne_b31_bs nin0)
    have Vw37_q91 := Vw37_q81.keep Kc84 (ninS nws nin0)
    have V_b1_q92 := V_b1_q82.keep Kc84 (ninS ne_b1_bs nin0)
    have K93 := K83.trans Kc84 (allS (Or.inr sz_bs) all0)
    show G (T84.setTop (mkF m 163 #[.val (.int p0), .val (.int p1), .val (.int p2), .val (.int p3), .val (.int p4), .val (.int p5), .val (.long s0), .second, .val (.long s1), .second, .val (.int (0 : Int32)), .val (.long (((2 : Int64) * s0) + (1 : Int64))), .second, .val (.long D1), .second, .val (.ref b1), .val (.ref b12), .val (.ref b31), .val (.long aa), .second, .unset, .unset, .unset, .unset] []))
    refine gs (fun t k => XS.aload X84.here hx rfl (hb hby at_163) rfl rfl k) ?_
    show G (T84.setTop (mkF m 165 #[.val (.int p0), .val (.int p1), .val (.int p2), .val (.int p3), .val (.int p4), .val (.int p5), .val (.long s0), .second, .val (.long s1), .second, .val (.int (0 : Int32)), .val (.long (((2 : Int64) * s0) + (1 : Int64))), .second, .val (.long D1), .second, .val (.ref b1), .val (.ref b12), .val (.ref b31), .val (.long aa), .second, .unset, .unset, .unset, .unset] [(.ref b31)]))
    refine gs (fun t k => XS.iconst X84.here hx rfl (hb hby at_165) k) ?_
    show G (T84.setTop (mkF m 166 #[.val (.int p0), .val (.int p1), .val (.int p2), .val (.int p3), .val (.int p4), .val (.int p5), .val (.long s0), .second, .val (.long s1), .second, .val (.int (0 : Int32)), .val (.long (((2 : Int64) * s0) + (1 : Int64))), .second, .val (.long D1), .second, .val (.ref b1), .val (.ref b12), .val (.ref b31), .val (.long aa), .second, .unset, .unset, .unset, .unset] [(.int (1 : Int32)), (.ref b31)]))
    refine gs (fun t k => XS.iload X84.here hx rfl (hb hby at_166) rfl k) ?_
    show G (T84.setTop (mkF m 168 #[.val (.int p0), .val (.int p1), .val (.int p2), .val (.int p3), .val (.int p4), .val (.int p5), .val (.long s0), .second, .val (.long s1), .second, .val (.int (0 : Int32)), .val (.long (((2 : Int64) * s0) + (1 : Int64))), .second, .val (.long D1), .second, .val (.ref b1), .val (.ref b12), .val (.ref b31), .val (.long aa), .second, .unset, .unset, .unset, .unset] [(.int (0 : Int32)), (.int (1 : Int32)), (.ref b31)]))
    refine gs (fun t k => XS.ifYes X84.here hx rfl (pc0 := 168) (pc' := 181) rfl (hb hby at_168) rfl ((if0 _ _).trans (teq (by decide : (0 : Int32) = (0 : Int32))).1) (by decide) (by decide) k) ?_
    show G (T84.setTop (mkF m 181 #[.val (.int p0), .val (.int p1), .val (.int p2), .val (.int p3), .val (.int p4), .val (.int p5), .val (.long s0), .second, .val (.long s1), .second, .val (.int (0 : Int32)), .val (.long (((2 : Int64) * s0) + (1 : Int64))), .second, .val (.long D1), .second, .val (.ref b1), .val (.ref b12), .val (.ref b31), .val (.long aa), .second, .unset, .unset, .unset, .unset] [(.int (1 : Int32)), (.ref b31)]))
    refine gs (fun t k => XS.lload X84.here hx rfl (hb hby at_181) rfl k) ?_
    show G (T84.setTop (mkF m 183 #[.val (.int p0), .val (.int p1), .val (.int p2), .val (.int p3), .val (.int p4), .val (.int p5), .val (.long s0), .second, .val (.long s1), .second, .val (.int (0 : Int32)), .val (.long (((2 : Int64) * s0) + (1 : Int64))), .second, .val (.long D1), .second, .val (.ref b1), .val (.ref b12), .val (.ref b31), .val (.long aa), .second, .unset, .unset, .unset, .unset] [(.long s1), (.int (1 : Int32)), (.ref b31)]))
    refine gs (fun t k => XS.l2dS X84.here hx rfl (hb hby at_183) rfl rfl k) ?_
    show G (T84.setTop (mkF m 184 #[.val (.int p0), .val (.int p1), .val (.int p2), .val (.int p3), .val (.int p4), .val (.int p5), .val (.long s0), .second, .val (.long s1), .second, .val (.int (0 : Int32)), .val (.long (((2 : Int64) * s0) + (1 : Int64))), .second, .val (.long D1), .second, .val (.ref b1), .val (.ref b12), .val (.ref b31), .val (.long aa), .second, .unset, .unset, .unset, .unset] [(.double (FP.l2d s1)), (.int (1 : Int32)), (.ref b31)]))
    obtain ⟨cq94, kq94, q94a, q94b, q94c⟩ := isOf hZ rfl Ex37_q88
    obtain ⟨_, _, ⟨T94, L94, k94, n94⟩, -, X94, ⟨Lc94, hQ94, l94, y94, z94⟩, st94⟩ := X84.virtualBack hx (y := (⟨"com/example/consensus_to_coverage/consensustocoverage/reranking/ProportionalSeats", "add", "(ID)V"⟩ : MethodName)) (z := (⟨"com/example/consensus_to_coverage/consensustocoverage/reranking/ProportionalSeats", "add", "(ID)V"⟩ : MethodName)) hown (mvT hZ (hw _ (List.mem_of_getElem? (i := 33) rfl))) (mvT hZ (hw _ (List.mem_of_getElem? (i := 34) rfl))) (notFace_of_selects (args := #[]) (mvT hZ (hw _ (List.mem_of_getElem? (i := 36) rfl)))) (mvT hZ (hw _ (List.mem_of_getElem? (i := 36) rfl))) (mvT hZ (hw _ (List.mem_of_getElem? (i := 35) rfl))) (by decide) (backOf (W := 0) (rm3a1 l Z a0 hw [] b31 (FP.l2d s1) bs ks (FP.l2d s0) 0 0 (FP.l2d s1) T84.heap n0 (Nat.le_trans Z0 K93.1) Fs37_q90 Va84 g_bs (own_a0 S1) (nn_w rfl)) hZ (hw _ (List.mem_of_getElem? (i := 37) rfl)) (hw _ (List.mem_of_getElem? (i := 5) rfl)) (by decide) (by decide)) q94a q94c (g := (mkF m 184 #[.val (.int p0), .val (.int p1), .val (.int p2), .val (.int p3), .val (.int p4), .val (.int p5), .val (.long s0), .second, .val (.long s1), .second, .val (.int (0 : Int32)), .val (.long (((2 : Int64) * s0) + (1 : Int64))), .second, .val (.long D1), .second, .val (.ref b1), .val (.ref b12), .val (.ref b31), .val (.long aa), .second, .unset, .unset, .unset, .unset] [(.double (FP.l2d s1)), (.int (1 : Int32)), (.ref b31)])) rfl (by rw [hml]; rfl) (Steps.refl _) (argsL := [(.int (1 : Int32)), (.double (FP.l2d s1))]) (rest := []) (lenOf pd_1 rfl) rfl (by show 2 * 0 + _ ≤ _; exact Nat.le_of_eq rfl) (hb hby at_184) (fun _ _ => ⟨rfl, rfl, (by decide : 6 + 0 ≤ _), (by decide : 18 + 0 ≤ _)⟩)
    dsimp only [Pt.U, Pt.locs, Pt.cells, Pt.slots] at X94 l94 y94 z94 st94 hQ94
    subst y94 z94
    obtain ⟨rfl, N94q, Kc94, Va94⟩ := hQ94
    have N94 : Fr n0 L94 := by rw [l94]; exact Fr.app N84 N94q
    refine gs (fun t k => st94.trans k) ?_
    have EA1_q95 := EA1_q85.keep Kc94
    have EA12_q96 := EA12_q86.keep Kc94
    have V_b12_q97 := V_b12_q87.keep Kc94 (ninS ne_b12_bs nin0)
    have Ex37_q98 := Ex37_q88.keep Kc94
    have Fw37_q99 := Fw37_q89.keep Kc94 (ninS ne_b31_bs nin0)
    have Fs37_q100 := Fs37_q90.keep Kc94 (ninS ne_b31_bs nin0)
    have Vw37_q101 := Vw37_q91.keep Kc94 (ninS nws nin0)
    have V_b1_q102 := V_b1_q92.keep Kc94 (ninS ne_b1_bs nin0)
    have K103 := K93.trans Kc94 (allS (Or.inr sz_bs) all0)
    show G (T94.setTop (mkF m 187 #[.val (.int p0), .val (.int p1), .val (.int p2), .val (.int p3), .val (.int p4), .val (.int p5), .val (.long s0), .second, .val (.long s1), .second, .val (.int (0 : Int32)), .val (.long (((2 : Int64) * s0) + (1 : Int64))), .second, .val (.long D1), .second, .val (.ref b1), .val (.ref b12), .val (.ref b31), .val (.long aa), .second, .unset, .unset, .unset, .unset] []))
    refine gs (fun t k => XS.aload X94.here hx rfl (hb hby at_187) rfl rfl k) ?_
    show G (T94.setTop (mkF m 189 #[.val (.int p0), .val (.int p1), .val (.int p2), .val (.int p3), .val (.int p4), .val (.int p5), .val (.long s0), .second, .val (.long s1), .second, .val (.int (0 : Int32)), .val (.long (((2 : Int64) * s0) + (1 : Int64))), .second, .val (.long D1), .second, .val (.ref b1), .val (.ref b12), .val (.ref b31), .val (.long aa), .second, .unset, .unset, .unset, .unset] [(.ref b31)]))
    obtain ⟨cq104, kq104, q104a, q104b, q104c⟩ := isOf hZ rfl Ex37_q98
    obtain ⟨_, _, ⟨T104, L104, k104, n104⟩, -, X104, ⟨Lc104, hQ104, l104, y104, z104⟩, st104⟩ := X94.virtualBack hx (y := (⟨"com/example/consensus_to_coverage/consensustocoverage/reranking/ProportionalSeats", "quotients", "()[D"⟩ : MethodName)) (z := (⟨"com/example/consensus_to_coverage/consensustocoverage/reranking/ProportionalSeats", "quotients", "()[D"⟩ : MethodName)) hown (mvT hZ (hw _ (List.mem_of_getElem? (i := 39) rfl))) (mvT hZ (hw _ (List.mem_of_getElem? (i := 40) rfl))) (notFace_of_selects (args := #[]) (mvT hZ (hw _ (List.mem_of_getElem? (i := 42) rfl)))) (mvT hZ (hw _ (List.mem_of_getElem? (i := 42) rfl))) (mvT hZ (hw _ (List.mem_of_getElem? (i := 41) rfl))) (by decide) (backOf (W := 0) (rm4 l Z a0 hw [] b31 bw bs kw ks x0 x1 x2 (FP.l2d s0) (FP.l2d s1) 0 (FP.l2d (2 * s0)) (FP.l2d (2 * s1)) 0 (FP.l2d (((2 : Int64) * s0) + (1 : Int64))) (FP.l2d D1) (FP.l2d 1) (FP.ddiv x0 (FP.l2d (((2 : Int64) * s0) + (1 : Int64)))) (FP.ddiv x1 (FP.l2d D1)) (FP.ddiv x2 (FP.l2d 1)) T94.heap n0 (Nat.le_trans Z0 K103.1) Fw37_q99 Fs37_q100 Vw37_q101 Va94 (own_m S0) (nn_w rfl) (own_a2 S0) (nn_w rfl) rfl (own_nn (own_q D0p D0q hx0)) (own_m S1) (nn_w rfl) ((own_a2 S1).trans (congrArg FP.l2d hD1'.symm)) (nn_w rfl) rfl (own_nn (own_q D1p D1q hx1)) own_t2.1 (nn_w l2d_zero.symm) own_t2.2 (nn_w rfl) rfl (own_nn (own_q2 hx2))) hZ (hw _ (List.mem_of_getElem? (i := 43) rfl)) (hw _ (List.mem_of_getElem? (i := 5) rfl)) (by decide) (by decide)) q104a q104c (g := (mkF m 189 #[.val (.int p0), .val (.int p1), .val (.int p2), .val (.int p3), .val (.int p4), .val (.int p5), .val (.long s0), .second, .val (.long s1), .second, .val (.int (0 : Int32)), .val (.long (((2 : Int64) * s0) + (1 : Int64))), .second, .val (.long D1), .second, .val (.ref b1), .val (.ref b12), .val (.ref b31), .val (.long aa), .second, .unset, .unset, .unset, .unset] [(.ref b31)])) rfl (by rw [hml]; rfl) (Steps.refl _) (argsL := []) (rest := []) (lenOf pd_2 rfl) rfl (by show 2 * 0 + _ ≤ _; exact Nat.le_of_eq rfl) (hb hby at_189) (fun _ _ => ⟨rfl, rfl, (by decide : 6 + 1 ≤ _), (by decide : 18 + 3 ≤ _)⟩)
    dsimp only [Pt.U, Pt.locs, Pt.cells, Pt.slots] at X104 l104 y104 z104 st104 hQ104
    subst y104 z104
    obtain ⟨bq104, kq104, rfl, N104q, Kc104, Vq104⟩ := hQ104
    have N104 : Fr n0 L104 := by rw [l104]; exact Fr.app N94 N104q
    refine gs (fun t k => st104.trans k) ?_
    have EA1_q105 := EA1_q95.keep Kc104
    have EA12_q106 := EA12_q96.keep Kc104
    have V_b12_q107 := V_b12_q97.keep Kc104 nin0
    have Ex37_q108 := Ex37_q98.keep Kc104
    have Fw37_q109 := Fw37_q99.keep Kc104 nin0
    have Fs37_q110 := Fs37_q100.keep Kc104 nin0
    have Vw37_q111 := Vw37_q101.keep Kc104 nin0
    have V_b1_q112 := V_b1_q102.keep Kc104 nin0
    have Va94_q113 := Va94.keep Kc104 nin0
    have K114 := K103.trans Kc104 all0
    show G (T104.setTop (mkF m 192 #[.val (.int p0), .val (.int p1), .val (.int p2), .val (.int p3), .val (.int p4), .val (.int p5), .val (.long s0), .second, .val (.long s1), .second, .val (.int (0 : Int32)), .val (.long (((2 : Int64) * s0) + (1 : Int64))), .second, .val (.long D1), .second, .val (.ref b1), .val (.ref b12), .val (.ref b31), .val (.long aa), .second, .unset, .unset, .unset, .unset] [(.ref bq104)]))
    refine gs (fun t k => XS.astore X104.here hx rfl (hb hby at_192) rfl rfl (l' := #[.val (.int p0), .val (.int p1), .val (.int p2), .val (.int p3), .val (.int p4), .val (.int p5), .val (.long s0), .second, .val (.long s1), .second, .val (.int (0 : Int32)), .val (.long (((2 : Int64) * s0) + (1 : Int64))), .second, .val (.long D1), .second, .val (.ref b1), .val (.ref b12), .val (.ref b31), .val (.long aa), .second, .val (.ref bq104), .unset, .unset, .unset]) rfl k) ?_
    show G (T104.setTop (mkF m 194 #[.val (.int p0), .val (.int p1), .val (.int p2), .val (.int p3), .val (.int p4), .val (.int p5), .val (.long s0), .second, .val (.long s1), .second, .val (.int (0 : Int32)), .val (.long (((2 : Int64) * s0) + (1 : Int64))), .second, .val (.long D1), .second, .val (.ref b1), .val (.ref b12), .val (.ref b31), .val (.long aa), .second, .val (.ref bq104), .unset, .unset, .unset] []))
    refine gs (fun t k => XS.aload X104.here hx rfl (hb hby at_194) rfl rfl k) ?_
    show G (T104.setTop (mkF m 196 #[.val (.int p0), .val (.int p1), .val (.int p2), .val (.int p3), .val (.int p4), .val (.int p5), .val (.long s0), .second, .val (.long s1), .second, .val (.int (0 : Int32)), .val (.long (((2 : Int64) * s0) + (1 : Int64))), .second, .val (.long D1), .second, .val (.ref b1), .val (.ref b12), .val (.ref b31), .val (.long aa), .second, .val (.ref bq104), .unset, .unset, .unset] [(.ref b31)]))
    obtain ⟨cq115, kq115, q115a, q115b, q115c⟩ := isOf hZ rfl Ex37_q108
    obtain ⟨_, _, ⟨T115, L115, k115, n115⟩, -, X115, ⟨Lc115, hQ115, l115, y115, z115⟩, st115⟩ := X104.virtualBack hx (y := (⟨"com/example/consensus_to_coverage/consensustocoverage/reranking/ProportionalSeats", "quotients", "()[D"⟩ : MethodName)) (z := (⟨"com/example/consensus_to_coverage/consensustocoverage/reranking/ProportionalSeats", "quotients", "()[D"⟩ : MethodName)) hown (mvT hZ (hw _ (List.mem_of_getElem? (i := 39) rfl))) (mvT hZ (hw _ (List.mem_of_getElem? (i := 40) rfl))) (notFace_of_selects (args := #[]) (mvT hZ (hw _ (List.mem_of_getElem? (i := 42) rfl)))) (mvT hZ (hw _ (List.mem_of_getElem? (i := 42) rfl))) (mvT hZ (hw _ (List.mem_of_getElem? (i := 41) rfl))) (by decide) (backOf (W := 0) (rm4 l Z a0 hw [] b31 bw bs kw ks x0 x1 x2 (FP.l2d s0) (FP.l2d s1) 0 (FP.l2d (2 * s0)) (FP.l2d (2 * s1)) 0 (FP.l2d (((2 : Int64) * s0) + (1 : Int64))) (FP.l2d D1) (FP.l2d 1) (FP.ddiv x0 (FP.l2d (((2 : Int64) * s0) + (1 : Int64)))) (FP.ddiv x1 (FP.l2d D1)) (FP.ddiv x2 (FP.l2d 1)) T104.heap n0 (Nat.le_trans Z0 K114.1) Fw37_q109 Fs37_q110 Vw37_q111 Va94_q113 (own_m S0) (nn_w rfl) (own_a2 S0) (nn_w rfl) rfl (own_nn (own_q D0p D0q hx0)) (own_m S1) (nn_w rfl) ((own_a2 S1).trans (congrArg FP.l2d hD1'.symm)) (nn_w rfl) rfl (own_nn (own_q D1p D1q hx1)) own_t2.1 (nn_w l2d_zero.symm) own_t2.2 (nn_w rfl) rfl (own_nn (own_q2 hx2))) hZ (hw _ (List.mem_of_getElem? (i := 43) rfl)) (hw _ (List.mem_of_getElem? (i := 5) rfl)) (by decide) (by decide)) q115a q115c (g := (mkF m 196 #[.val (.int p0), .val (.int p1), .val (.int p2), .val (.int p3), .val (.int p4), .val (.int p5), .val (.long s0), .second, .val (.long s1), .second, .val (.int (0 : Int32)), .val (.long (((2 : Int64) * s0) + (1 : Int64))), .second, .val (.long D1), .second, .val (.ref b1), .val (.ref b12), .val (.ref b31), .val (.long aa), .second, .val (.ref bq104), .unset, .unset, .unset] [(.ref b31)])) rfl (by rw [hml]; rfl) (Steps.refl _) (argsL := []) (rest := []) (lenOf pd_2 rfl) rfl (by show 2 * 0 + _ ≤ _; exact Nat.le_of_eq rfl) (hb hby at_196) (fun _ _ => ⟨rfl, rfl, (by decide : 7 + 1 ≤ _), (by decide : 21 + 3 ≤ _)⟩)
    dsimp only [Pt.U, Pt.locs, Pt.cells, Pt.slots] at X115 l115 y115 z115 st115 hQ115
    subst y115 z115
    obtain ⟨bq115, kq115, rfl, N115q, Kc115, Vq115⟩ := hQ115
    have N115 : Fr n0 L115 := by rw [l115]; exact Fr.app N104 N115q
    refine gs (fun t k => st115.trans k) ?_
    have EA1_q116 := EA1_q105.keep Kc115
    have EA12_q117 := EA12_q106.keep Kc115
    have V_b12_q118 := V_b12_q107.keep Kc115 nin0
    have Ex37_q119 := Ex37_q108.keep Kc115
    have Fw37_q120 := Fw37_q109.keep Kc115 nin0
    have Fs37_q121 := Fs37_q110.keep Kc115 nin0
    have Vw37_q122 := Vw37_q111.keep Kc115 nin0
    have V_b1_q123 := V_b1_q112.keep Kc115 nin0
    have Va94_q124 := Va94_q113.keep Kc115 nin0
    have Vq104_q125 := Vq104.keep Kc115 nin0
    have K126 := K114.trans Kc115 all0
    show G (T115.setTop (mkF m 199 #[.val (.int p0), .val (.int p1), .val (.int p2), .val (.int p3), .val (.int p4), .val (.int p5), .val (.long s0), .second, .val (.long s1), .second, .val (.int (0 : Int32)), .val (.long (((2 : Int64) * s0) + (1 : Int64))), .second, .val (.long D1), .second, .val (.ref b1), .val (.ref b12), .val (.ref b31), .val (.long aa), .second, .val (.ref bq104), .unset, .unset, .unset] [(.ref bq115)]))
    refine gs (fun t k => XS.astore X115.here hx rfl (hb hby at_199) rfl rfl (l' := #[.val (.int p0), .val (.int p1), .val (.int p2), .val (.int p3), .val (.int p4), .val (.int p5), .val (.long s0), .second, .val (.long s1), .second, .val (.int (0 : Int32)), .val (.long (((2 : Int64) * s0) + (1 : Int64))), .second, .val (.long D1), .second, .val (.ref b1), .val (.ref b12), .val (.ref b31), .val (.long aa), .second, .val (.ref bq104), .val (.ref bq115), .unset, .unset]) rfl k) ?_
    show G (T115.setTop (mkF m 201 #[.val (.int p0), .val (.int p1), .val (.int p2), .val (.int p3), .val (.int p4), .val (.int p5), .val (.long s0), .second, .val (.long s1), .second, .val (.int (0 : Int32)), .val (.long (((2 : Int64) * s0) + (1 : Int64))), .second, .val (.long D1), .second, .val (.ref b1), .val (.ref b12), .val (.ref b31), .val (.long aa), .second, .val (.ref bq104), .val (.ref bq115), .unset, .unset] []))
    refine gs (fun t k => XS.aload X115.here hx rfl (hb hby at_201) rfl rfl k) ?_
    show G (T115.setTop (mkF m 203 #[.val (.int p0), .val (.int p1), .val (.int p2), .val (.int p3), .val (.int p4), .val (.int p5), .val (.long s0), .second, .val (.long s1), .second, .val (.int (0 : Int32)), .val (.long (((2 : Int64) * s0) + (1 : Int64))), .second, .val (.long D1), .second, .val (.ref b1), .val (.ref b12), .val (.ref b31), .val (.long aa), .second, .val (.ref bq104), .val (.ref bq115), .unset, .unset] [(.ref bq104)]))
    obtain ⟨lc127, lA127, -, lS127, lN127, -, -⟩ := id Vq104_q125
    refine gs (fun t k => X115.arraylength hx lA127.1 (State.isArrayOf_alike hZ.alike lA127.2.1) (g := (mkF m 203 #[.val (.int p0), .val (.int p1), .val (.int p2), .val (.int p3), .val (.int p4), .val (.int p5), .val (.long s0), .second, .val (.long s1), .second, .val (.int (0 : Int32)), .val (.long (((2 : Int64) * s0) + (1 : Int64))), .second, .val (.long D1), .second, .val (.ref b1), .val (.ref b12), .val (.ref b31), .val (.long aa), .second, .val (.ref bq104), .val (.ref bq115), .unset, .unset] [(.ref bq104)])) rfl rfl (hb hby at_203) _ k) ?_
    rw [len_of lS127 lN127]
    show G (T115.setTop (mkF m 204 #[.val (.int p0), .val (.int p1), .val (.int p2), .val (.int p3), .val (.int p4), .val (.int p5), .val (.long s0), .second, .val (.long s1), .second, .val (.int (0 : Int32)), .val (.long (((2 : Int64) * s0) + (1 : Int64))), .second, .val (.long D1), .second, .val (.ref b1), .val (.ref b12), .val (.ref b31), .val (.long aa), .second, .val (.ref bq104), .val (.ref bq115), .unset, .unset] [(.int (3 : Int32))]))
    refine gs (fun t k => XS.iconst X115.here hx rfl (hb hby at_204) k) ?_
    show G (T115.setTop (mkF m 205 #[.val (.int p0), .val (.int p1), .val (.int p2), .val (.int p3), .val (.int p4), .val (.int p5), .val (.long s0), .second, .val (.long s1), .second, .val (.int (0 : Int32)), .val (.long (((2 : Int64) * s0) + (1 : Int64))), .second, .val (.long D1), .second, .val (.ref b1), .val (.ref b12), .val (.ref b31), .val (.long aa), .second, .val (.ref bq104), .val (.ref bq115), .unset, .unset] [(.int (3 : Int32)), (.int (3 : Int32))]))
    refine gs (fun t k => XS.icmpNo X115.here hx rfl (hb hby at_205) rfl (teq (by decide : (3 : Int32) = (3 : Int32))).2 k) ?_
    show G (T115.setTop (mkF m 208 #[.val (.int p0), .val (.int p1), .val (.int p2), .val (.int p3), .val (.int p4), .val (.int p5), .val (.long s0), .second, .val (.long s1), .second, .val (.int (0 : Int32)), .val (.long (((2 : Int64) * s0) + (1 : Int64))), .second, .val (.long D1), .second, .val (.ref b1), .val (.ref b12), .val (.ref b31), .val (.long aa), .second, .val (.ref bq104), .val (.ref bq115), .unset, .unset] []))
    refine gs (fun t k => XS.aload X115.here hx rfl (hb hby at_208) rfl rfl k) ?_
    show G (T115.setTop (mkF m 210 #[.val (.int p0), .val (.int p1), .val (.int p2), .val (.int p3), .val (.int p4), .val (.int p5), .val (.long s0), .second, .val (.long s1), .second, .val (.int (0 : Int32)), .val (.long (((2 : Int64) * s0) + (1 : Int64))), .second, .val (.long D1), .second, .val (.ref b1), .val (.ref b12), .val (.ref b31), .val (.long aa), .second, .val (.ref bq104), .val (.ref bq115), .unset, .unset] [(.ref bq104)]))
    refine gs (fun t k => XS.iconst X115.here hx rfl (hb hby at_210) k) ?_
    show G (T115.setTop (mkF m 211 #[.val (.int p0), .val (.int p1), .val (.int p2), .val (.int p3), .val (.int p4), .val (.int p5), .val (.long s0), .second, .val (.long s1), .second, .val (.int (0 : Int32)), .val (.long (((2 : Int64) * s0) + (1 : Int64))), .second, .val (.long D1), .second, .val (.ref b1), .val (.ref b12), .val (.ref b31), .val (.long aa), .second, .val (.ref bq104), .val (.ref bq115), .unset, .unset] [(.int (0 : Int32)), (.ref bq104)]))
    obtain ⟨lc128, lA128, -, lS128, lN128, lH128, -⟩ := id Vq104_q125
    have lin128 : ¬ ((0 : Int32) < 0 ∨ lc128.slots.size ≤ ((0 : Int32)).toNatClampNeg) := inb_of lS128 ⟨by decide, by decide⟩
    have lat128 : lc128.slots[((0 : Int32)).toNatClampNeg]? = some (.double (FP.ddiv x0 (FP.l2d (((2 : Int64) * s0) + (1 : Int64))))) := lH128 0 (by rw [lS128]; decide)
    refine gs (fun t k => X115.daload hx (j := (0 : Int32)) (v := (.double (FP.ddiv x0 (FP.l2d (((2 : Int64) * s0) + (1 : Int64)))))) lA128.1 (State.isArrayOf_alike hZ.alike lA128.2.1) lA128.2.2 lin128 lat128 (g := (mkF m 211 #[.val (.int p0), .val (.int p1), .val (.int p2), .val (.int p3), .val (.int p4), .val (.int p5), .val (.long s0), .second, .val (.long s1), .second, .val (.int (0 : Int32)), .val (.long (((2 : Int64) * s0) + (1 : Int64))), .second, .val (.long D1), .second, .val (.ref b1), .val (.ref b12), .val (.ref b31), .val (.long aa), .second, .val (.ref bq104), .val (.ref bq115), .unset, .unset] [(.int (0 : Int32)), (.ref bq104)])) rfl rfl (hb hby at_211) _ k) ?_
    show G (T115.setTop (mkF m 212 #[.val (.int p0), .val (.int p1), .val (.int p2), .val (.int p3), .val (.int p4), .val (.int p5), .val (.long s0), .second, .val (.long s1), .second, .val (.int (0 : Int32)), .val (.long (((2 : Int64) * s0) + (1 : Int64))), .second, .val (.long D1), .second, .val (.ref b1), .val (.ref b12), .val (.ref b31), .val (.long aa), .second, .val (.ref bq104), .val (.ref bq115), .unset, .unset] [(.double (FP.ddiv x0 (FP.l2d (((2 : Int64) * s0) + (1 : Int64)))))]))
    refine gs (fun t k => XS.iloadN X115.here hx rfl (hb hby at_212) rfl k) ?_
    show G (T115.setTop (mkF m 213 #[.val (.int p0), .val (.int p1), .val (.int p2), .val (.int p3), .val (.int p4), .val (.int p5), .val (.long s0), .second, .val (.long s1), .second, .val (.int (0 : Int32)), .val (.long (((2 : Int64) * s0) + (1 : Int64))), .second, .val (.long D1), .second, .val (.ref b1), .val (.ref b12), .val (.ref b31), .val (.long aa), .second, .val (.ref bq104), .val (.ref bq115), .unset, .unset] [(.int p0), (.double (FP.ddiv x0 (FP.l2d (((2 : Int64) * s0) + (1 : Int64)))))]))
    refine gs (fun t k => XS.i2dS X115.here hx rfl (hb hby at_213) rfl rfl k) ?_
    show G (T115.setTop (mkF m 214 #[.val (.int p0), .val (.int p1), .val (.int p2), .val (.int p3), .val (.int p4), .val (.int p5), .val (.long s0), .second, .val (.long s1), .second, .val (.int (0 : Int32)), .val (.long (((2 : Int64) * s0) + (1 : Int64))), .second, .val (.long D1), .second, .val (.ref b1), .val (.ref b12), .val (.ref b31), .val (.long aa), .second, .val (.ref bq104), .val (.ref bq115), .unset, .unset] [(.double (FP.i2d p0)), (.double (FP.ddiv x0 (FP.l2d (((2 : Int64) * s0) + (1 : Int64)))))]))
    refine gs (fun t k => XS.dcmpS X115.here hx rfl (hb hby at_214) rfl (own_cmp (own_q D0p D0q hx0) (FP.Core.i2d_int p0)) k) ?_
    show G (T115.setTop (mkF m 215 #[.val (.int p0), .val (.int p1), .val (.int p2), .val (.int p3), .val (.int p4), .val (.int p5), .val (.long s0), .second, .val (.long s1), .second, .val (.int (0 : Int32)), .val (.long (((2 : Int64) * s0) + (1 : Int64))), .second, .val (.long D1), .second, .val (.ref b1), .val (.ref b12), .val (.ref b31), .val (.long aa), .second, .val (.ref bq104), .val (.ref bq115), .unset, .unset] [(.int (0 : Int32))]))
    refine gs (fun t k => XS.ifNo X115.here hx rfl (hb hby at_215) rfl ((if0 _ _).trans (teq (by decide : (0 : Int32) = (0 : Int32))).2) k) ?_
    show G (T115.setTop (mkF m 218 #[.val (.int p0), .val (.int p1), .val (.int p2), .val (.int p3), .val (.int p4), .val (.int p5), .val (.long s0), .second, .val (.long s1), .second, .val (.int (0 : Int32)), .val (.long (((2 : Int64) * s0) + (1 : Int64))), .second, .val (.long D1), .second, .val (.ref b1), .val (.ref b12), .val (.ref b31), .val (.long aa), .second, .val (.ref bq104), .val (.ref bq115), .unset, .unset] []))
    refine gs (fun t k => XS.aload X115.here hx rfl (hb hby at_218) rfl rfl k) ?_
    show G (T115.setTop (mkF m 220 #[.val (.int p0), .val (.int p1), .val (.int p2), .val (.int p3), .val (.int p4), .val (.int p5), .val (.long s0), .second, .val (.long s1), .second, .val (.int (0 : Int32)), .val (.long (((2 : Int64) * s0) + (1 : Int64))), .second, .val (.long D1), .second, .val (.ref b1), .val (.ref b12), .val (.ref b31), .val (.long aa), .second, .val (.ref bq104), .val (.ref bq115), .unset, .unset] [(.ref bq104)]))
    refine gs (fun t k => XS.iconst X115.here hx rfl (hb hby at_220) k) ?_
    show G (T115.setTop (mkF m 221 #[.val (.int p0), .val (.int p1), .val (.int p2), .val (.int p3), .val (.int p4), .val (.int p5), .val (.long s0), .second, .val (.long s1), .second, .val (.int (0 : Int32)), .val (.long (((2 : Int64) * s0) + (1 : Int64))), .second, .val (.long D1), .second, .val (.ref b1), .val (.ref b12), .val (.ref b31), .val (.long aa), .second, .val (.ref bq104), .val (.ref bq115), .unset, .unset] [(.int (1 : Int32)), (.ref bq104)]))
    obtain ⟨lc129, lA129, -, lS129, lN129, lH129, -⟩ := id Vq104_q125
    have lin129 : ¬ ((1 : Int32) < 0 ∨ lc129.slots.size ≤ ((1 : Int32)).toNatClampNeg) := inb_of lS129 ⟨by decide, by decide⟩
    have lat129 : lc129.slots[((1 : Int32)).toNatClampNeg]? = some (.double (FP.ddiv x1 (FP.l2d D1))) := lH129 1 (by rw [lS129]; decide)
    refine gs (fun t k => X115.daload hx (j := (1 : Int32)) (v := (.double (FP.ddiv x1 (FP.l2d D1)))) lA129.1 (State.isArrayOf_alike hZ.alike lA129.2.1) lA129.2.2 lin129 lat129 (g := (mkF m 221 #[.val (.int p0), .val (.int p1), .val (.int p2), .val (.int p3), .val (.int p4), .val (.int p5), .val (.long s0), .second, .val (.long s1), .second, .val (.int (0 : Int32)), .val (.long (((2 : Int64) * s0) + (1 : Int64))), .second, .val (.long D1), .second, .val (.ref b1), .val (.ref b12), .val (.ref b31), .val (.long aa), .second, .val (.ref bq104), .val (.ref bq115), .unset, .unset] [(.int (1 : Int32)), (.ref bq104)])) rfl rfl (hb hby at_221) _ k) ?_
    show G (T115.setTop (mkF m 222 #[.val (.int p0), .val (.int p1), .val (.int p2), .val (.int p3), .val (.int p4), .val (.int p5), .val (.long s0), .second, .val (.long s1), .second, .val (.int (0 : Int32)), .val (.long (((2 : Int64) * s0) + (1 : Int64))), .second, .val (.long D1), .second, .val (.ref b1), .val (.ref b12), .val (.ref b31), .val (.long aa), .second, .val (.ref bq104), .val (.ref bq115), .unset, .unset] [(.double (FP.ddiv x1 (FP.l2d D1)))]))
    refine gs (fun t k => XS.iloadN X115.here hx rfl (hb hby at_222) rfl k) ?_
    show G (T115.setTop (mkF m 223 #[.val (.int p0), .val (.int p1), .val (.int p2), .val (.int p3), .val (.int p4), .val (.int p5), .val (.long s0), .second, .val (.long s1), .second, .val (.int (0 : Int32)), .val (.long (((2 : Int64) * s0) + (1 : Int64))), .second, .val (.long D1), .second, .val (.ref b1), .val (.ref b12), .val (.ref b31), .val (.long aa), .second, .val (.ref bq104), .val (.ref bq115), .unset, .unset] [(.int p1), (.double (FP.ddiv x1 (FP.l2d D1)))]))
    refine gs (fun t k => XS.i2dS X115.here hx rfl (hb hby at_223) rfl rfl k) ?_
    show G (T115.setTop (mkF m 224 #[.val (.int p0), .val (.int p1), .val (.int p2), .val (.int p3), .val (.int p4), .val (.int p5), .val (.long s0), .second, .val (.long s1), .second, .val (.int (0 : Int32)), .val (.long (((2 : Int64) * s0) + (1 : Int64))), .second, .val (.long D1), .second, .val (.ref b1), .val (.ref b12), .val (.ref b31), .val (.long aa), .second, .val (.ref bq104), .val (.ref bq115), .unset, .unset] [(.double (FP.i2d p1)), (.double (FP.ddiv x1 (FP.l2d D1)))]))
    refine gs (fun t k => XS.dcmpS X115.here hx rfl (hb hby at_224) rfl (own_cmp (own_q D1p D1q hx1) (FP.Core.i2d_int p1)) k) ?_
    show G (T115.setTop (mkF m 225 #[.val (.int p0), .val (.int p1), .val (.int p2), .val (.int p3), .val (.int p4), .val (.int p5), .val (.long s0), .second, .val (.long s1), .second, .val (.int (0 : Int32)), .val (.long (((2 : Int64) * s0) + (1 : Int64))), .second, .val (.long D1), .second, .val (.ref b1), .val (.ref b12), .val (.ref b31), .val (.long aa), .second, .val (.ref bq104), .val (.ref bq115), .unset, .unset] [(.int (0 : Int32))]))
    refine gs (fun t k => XS.ifNo X115.here hx rfl (hb hby at_225) rfl ((if0 _ _).trans (teq (by decide : (0 : Int32) = (0 : Int32))).2) k) ?_
    show G (T115.setTop (mkF m 228 #[.val (.int p0), .val (.int p1), .val (.int p2), .val (.int p3), .val (.int p4), .val (.int p5), .val (.long s0), .second, .val (.long s1), .second, .val (.int (0 : Int32)), .val (.long (((2 : Int64) * s0) + (1 : Int64))), .second, .val (.long D1), .second, .val (.ref b1), .val (.ref b12), .val (.ref b31), .val (.long aa), .second, .val (.ref bq104), .val (.ref bq115), .unset, .unset] []))
    refine gs (fun t k => XS.aload X115.here hx rfl (hb hby at_228) rfl rfl k) ?_
    show G (T115.setTop (mkF m 230 #[.val (.int p0), .val (.int p1), .val (.int p2), .val (.int p3), .val (.int p4), .val (.int p5), .val (.long s0), .second, .val (.long s1), .second, .val (.int (0 : Int32)), .val (.long (((2 : Int64) * s0) + (1 : Int64))), .second, .val (.long D1), .second, .val (.ref b1), .val (.ref b12), .val (.ref b31), .val (.long aa), .second, .val (.ref bq104), .val (.ref bq115), .unset, .unset] [(.ref bq104)]))
    refine gs (fun t k => XS.iconst X115.here hx rfl (hb hby at_230) k) ?_
    show G (T115.setTop (mkF m 231 #[.val (.int p0), .val (.int p1), .val (.int p2), .val (.int p3), .val (.int p4), .val (.int p5), .val (.long s0), .second, .val (.long s1), .second, .val (.int (0 : Int32)), .val (.long (((2 : Int64) * s0) + (1 : Int64))), .second, .val (.long D1), .second, .val (.ref b1), .val (.ref b12), .val (.ref b31), .val (.long aa), .second, .val (.ref bq104), .val (.ref bq115), .unset, .unset] [(.int (2 : Int32)), (.ref bq104)]))
    obtain ⟨lc130, lA130, -, lS130, lN130, lH130, -⟩ := id Vq104_q125
    have lin130 : ¬ ((2 : Int32) < 0 ∨ lc130.slots.size ≤ ((2 : Int32)).toNatClampNeg) := inb_of lS130 ⟨by decide, by decide⟩
    have lat130 : lc130.slots[((2 : Int32)).toNatClampNeg]? = some (.double (FP.ddiv x2 (FP.l2d 1))) := lH130 2 (by rw [lS130]; decide)
    refine gs (fun t k => X115.daload hx (j := (2 : Int32)) (v := (.double (FP.ddiv x2 (FP.l2d 1)))) lA130.1 (State.isArrayOf_alike hZ.alike lA130.2.1) lA130.2.2 lin130 lat130 (g := (mkF m 231 #[.val (.int p0), .val (.int p1), .val (.int p2), .val (.int p3), .val (.int p4), .val (.int p5), .val (.long s0), .second, .val (.long s1), .second, .val (.int (0 : Int32)), .val (.long (((2 : Int64) * s0) + (1 : Int64))), .second, .val (.long D1), .second, .val (.ref b1), .val (.ref b12), .val (.ref b31), .val (.long aa), .second, .val (.ref bq104), .val (.ref bq115), .unset, .unset] [(.int (2 : Int32)), (.ref bq104)])) rfl rfl (hb hby at_231) _ k) ?_
    show G (T115.setTop (mkF m 232 #[.val (.int p0), .val (.int p1), .val (.int p2), .val (.int p3), .val (.int p4), .val (.int p5), .val (.long s0), .second, .val (.long s1), .second, .val (.int (0 : Int32)), .val (.long (((2 : Int64) * s0) + (1 : Int64))), .second, .val (.long D1), .second, .val (.ref b1), .val (.ref b12), .val (.ref b31), .val (.long aa), .second, .val (.ref bq104), .val (.ref bq115), .unset, .unset] [(.double (FP.ddiv x2 (FP.l2d 1)))]))
    refine gs (fun t k => XS.iloadN X115.here hx rfl (hb hby at_232) rfl k) ?_
    show G (T115.setTop (mkF m 233 #[.val (.int p0), .val (.int p1), .val (.int p2), .val (.int p3), .val (.int p4), .val (.int p5), .val (.long s0), .second, .val (.long s1), .second, .val (.int (0 : Int32)), .val (.long (((2 : Int64) * s0) + (1 : Int64))), .second, .val (.long D1), .second, .val (.ref b1), .val (.ref b12), .val (.ref b31), .val (.long aa), .second, .val (.ref bq104), .val (.ref bq115), .unset, .unset] [(.int p2), (.double (FP.ddiv x2 (FP.l2d 1)))]))
    refine gs (fun t k => XS.i2dS X115.here hx rfl (hb hby at_233) rfl rfl k) ?_
    show G (T115.setTop (mkF m 234 #[.val (.int p0), .val (.int p1), .val (.int p2), .val (.int p3), .val (.int p4), .val (.int p5), .val (.long s0), .second, .val (.long s1), .second, .val (.int (0 : Int32)), .val (.long (((2 : Int64) * s0) + (1 : Int64))), .second, .val (.long D1), .second, .val (.ref b1), .val (.ref b12), .val (.ref b31), .val (.long aa), .second, .val (.ref bq104), .val (.ref bq115), .unset, .unset] [(.double (FP.i2d p2)), (.double (FP.ddiv x2 (FP.l2d 1)))]))
    refine gs (fun t k => XS.dcmpS X115.here hx rfl (hb hby at_234) rfl (own_cmp (own_q2 hx2) (FP.Core.i2d_int p2)) k) ?_
    show G (T115.setTop (mkF m 235 #[.val (.int p0), .val (.int p1), .val (.int p2), .val (.int p3), .val (.int p4), .val (.int p5), .val (.long s0), .second, .val (.long s1), .second, .val (.int (0 : Int32)), .val (.long (((2 : Int64) * s0) + (1 : Int64))), .second, .val (.long D1), .second, .val (.ref b1), .val (.ref b12), .val (.ref b31), .val (.long aa), .second, .val (.ref bq104), .val (.ref bq115), .unset, .unset] [(.int (0 : Int32))]))
    refine gs (fun t k => XS.ifNo X115.here hx rfl (hb hby at_235) rfl ((if0 _ _).trans (teq (by decide : (0 : Int32) = (0 : Int32))).2) k) ?_
    show G (T115.setTop (mkF m 238 #[.val (.int p0), .val (.int p1), .val (.int p2), .val (.int p3), .val (.int p4), .val (.int p5), .val (.long s0), .second, .val (.long s1), .second, .val (.int (0 : Int32)), .val (.long (((2 : Int64) * s0) + (1 : Int64))), .second, .val (.long D1), .second, .val (.ref b1), .val (.ref b12), .val (.ref b31), .val (.long aa), .second, .val (.ref bq104), .val (.ref bq115), .unset, .unset] []))
    refine gs (fun t k => XS.iconst X115.here hx rfl (hb hby at_238) k) ?_
    show G (T115.setTop (mkF m 239 #[.val (.int p0), .val (.int p1), .val (.int p2), .val (.int p3), .val (.int p4), .val (.int p5), .val (.long s0), .second, .val (.long s1), .second, .val (.int (0 : Int32)), .val (.long (((2 : Int64) * s0) + (1 : Int64))), .second, .val (.long D1), .second, .val (.ref b1), .val (.ref b12), .val (.ref b31), .val (.long aa), .second, .val (.ref bq104), .val (.ref bq115), .unset, .unset] [(.int (1 : Int32))]))
    refine gs (fun t k => XS.goto X115.here hx rfl (pc0 := 239) (pc' := 243) rfl (hb hby at_239) (by decide) (by decide) k) ?_
    show G (T115.setTop (mkF m 243 #[.val (.int p0), .val (.int p1), .val (.int p2), .val (.int p3), .val (.int p4), .val (.int p5), .val (.long s0), .second, .val (.long s1), .second, .val (.int (0 : Int32)), .val (.long (((2 : Int64) * s0) + (1 : Int64))), .second, .val (.long D1), .second, .val (.ref b1), .val (.ref b12), .val (.ref b31), .val (.long aa), .second, .val (.ref bq104), .val (.ref bq115), .unset, .unset] [(.int (1 : Int32))]))
    refine gs (fun t k => XS.istore X115.here hx rfl (hb hby at_243) rfl (l' := #[.val (.int p0), .val (.int p1), .val (.int p2), .val (.int p3), .val (.int p4), .val (.int p5), .val (.long s0), .second, .val (.long s1), .second, .val (.int (0 : Int32)), .val (.long (((2 : Int64) * s0) + (1 : Int64))), .second, .val (.long D1), .second, .val (.ref b1), .val (.ref b12), .val (.ref b31), .val (.long aa), .second, .val (.ref bq104), .val (.ref bq115), .val (.int (1 : Int32)), .unset]) rfl k) ?_
    show G (T115.setTop (mkF m 245 #[.val (.int p0), .val (.int p1), .val (.int p2), .val (.int p3), .val (.int p4), .val (.int p5), .val (.long s0), .second, .val (.long s1), .second, .val (.int (0 : Int32)), .val (.long (((2 : Int64) * s0) + (1 : Int64))), .second, .val (.long D1), .second, .val (.ref b1), .val (.ref b12), .val (.ref b31), .val (.long aa), .second, .val (.ref bq104), .val (.ref bq115), .val (.int (1 : Int32)), .unset] []))
    refine gs (fun t k => XS.aload X115.here hx rfl (hb hby at_245) rfl rfl k) ?_
    show G (T115.setTop (mkF m 247 #[.val (.int p0), .val (.int p1), .val (.int p2), .val (.int p3), .val (.int p4), .val (.int p5), .val (.long s0), .second, .val (.long s1), .second, .val (.int (0 : Int32)), .val (.long (((2 : Int64) * s0) + (1 : Int64))), .second, .val (.long D1), .second, .val (.ref b1), .val (.ref b12), .val (.ref b31), .val (.long aa), .second, .val (.ref bq104), .val (.ref bq115), .val (.int (1 : Int32)), .unset] [(.ref bq115)]))
    obtain ⟨lc131, lA131, -, lS131, lN131, -, -⟩ := id Vq115
    refine gs (fun t k => X115.arraylength hx lA131.1 (State.isArrayOf_alike hZ.alike lA131.2.1) (g := (mkF m 247 #[.val (.int p0), .val (.int p1), .val (.int p2), .val (.int p3), .val (.int p4), .val (.int p5), .val (.long s0), .second, .val (.long s1), .second, .val (.int (0 : Int32)), .val (.long (((2 : Int64) * s0) + (1 : Int64))), .second, .val (.long D1), .second, .val (.ref b1), .val (.ref b12), .val (.ref b31), .val (.long aa), .second, .val (.ref bq104), .val (.ref bq115), .val (.int (1 : Int32)), .unset] [(.ref bq115)])) rfl rfl (hb hby at_247) _ k) ?_
    rw [len_of lS131 lN131]
    show G (T115.setTop (mkF m 248 #[.val (.int p0), .val (.int p1), .val (.int p2), .val (.int p3), .val (.int p4), .val (.int p5), .val (.long s0), .second, .val (.long s1), .second, .val (.int (0 : Int32)), .val (.long (((2 : Int64) * s0) + (1 : Int64))), .second, .val (.long D1), .second, .val (.ref b1), .val (.ref b12), .val (.ref b31), .val (.long aa), .second, .val (.ref bq104), .val (.ref bq115), .val (.int (1 : Int32)), .unset] [(.int (3 : Int32))]))
    refine gs (fun t k => XS.iconst X115.here hx rfl (hb hby at_248) k) ?_
    show G (T115.setTop (mkF m 249 #[.val (.int p0), .val (.int p1), .val (.int p2), .val (.int p3), .val (.int p4), .val (.int p5), .val (.long s0), .second, .val (.long s1), .second, .val (.int (0 : Int32)), .val (.long (((2 : Int64) * s0) + (1 : Int64))), .second, .val (.long D1), .second, .val (.ref b1), .val (.ref b12), .val (.ref b31), .val (.long aa), .second, .val (.ref bq104), .val (.ref bq115), .val (.int (1 : Int32)), .unset] [(.int (3 : Int32)), (.int (3 : Int32))]))
    refine gs (fun t k => XS.icmpNo X115.here hx rfl (hb hby at_249) rfl (teq (by decide : (3 : Int32) = (3 : Int32))).2 k) ?_
    show G (T115.setTop (mkF m 252 #[.val (.int p0), .val (.int p1), .val (.int p2), .val (.int p3), .val (.int p4), .val (.int p5), .val (.long s0), .second, .val (.long s1), .second, .val (.int (0 : Int32)), .val (.long (((2 : Int64) * s0) + (1 : Int64))), .second, .val (.long D1), .second, .val (.ref b1), .val (.ref b12), .val (.ref b31), .val (.long aa), .second, .val (.ref bq104), .val (.ref bq115), .val (.int (1 : Int32)), .unset] []))
    refine gs (fun t k => XS.aload X115.here hx rfl (hb hby at_252) rfl rfl k) ?_
    show G (T115.setTop (mkF m 254 #[.val (.int p0), .val (.int p1), .val (.int p2), .val (.int p3), .val (.int p4), .val (.int p5), .val (.long s0), .second, .val (.long s1), .second, .val (.int (0 : Int32)), .val (.long (((2 : Int64) * s0) + (1 : Int64))), .second, .val (.long D1), .second, .val (.ref b1), .val (.ref b12), .val (.ref b31), .val (.long aa), .second, .val (.ref bq104), .val (.ref bq115), .val (.int (1 : Int32)), .unset] [(.ref bq115)]))
    refine gs (fun t k => XS.iconst X115.here hx rfl (hb hby at_254) k) ?_
    show G (T115.setTop (mkF m 255 #[.val (.int p0), .val (.int p1), .val (.int p2), .val (.int p3), .val (.int p4), .val (.int p5), .val (.long s0), .second, .val (.long s1), .second, .val (.int (0 : Int32)), .val (.long (((2 : Int64) * s0) + (1 : Int64))), .second, .val (.long D1), .second, .val (.ref b1), .val (.ref b12), .val (.ref b31), .val (.long aa), .second, .val (.ref bq104), .val (.ref bq115), .val (.int (1 : Int32)), .unset] [(.int (0 : Int32)), (.ref bq115)]))
    obtain ⟨lc132, lA132, -, lS132, lN132, lH132, -⟩ := id Vq115
    have lin132 : ¬ ((0 : Int32) < 0 ∨ lc132.slots.size ≤ ((0 : Int32)).toNatClampNeg) := inb_of lS132 ⟨by decide, by decide⟩
    have lat132 : lc132.slots[((0 : Int32)).toNatClampNeg]? = some (.double (FP.ddiv x0 (FP.l2d (((2 : Int64) * s0) + (1 : Int64))))) := lH132 0 (by rw [lS132]; decide)
    refine gs (fun t k => X115.daload hx (j := (0 : Int32)) (v := (.double (FP.ddiv x0 (FP.l2d (((2 : Int64) * s0) + (1 : Int64)))))) lA132.1 (State.isArrayOf_alike hZ.alike lA132.2.1) lA132.2.2 lin132 lat132 (g := (mkF m 255 #[.val (.int p0), .val (.int p1), .val (.int p2), .val (.int p3), .val (.int p4), .val (.int p5), .val (.long s0), .second, .val (.long s1), .second, .val (.int (0 : Int32)), .val (.long (((2 : Int64) * s0) + (1 : Int64))), .second, .val (.long D1), .second, .val (.ref b1), .val (.ref b12), .val (.ref b31), .val (.long aa), .second, .val (.ref bq104), .val (.ref bq115), .val (.int (1 : Int32)), .unset] [(.int (0 : Int32)), (.ref bq115)])) rfl rfl (hb hby at_255) _ k) ?_
    show G (T115.setTop (mkF m 256 #[.val (.int p0), .val (.int p1), .val (.int p2), .val (.int p3), .val (.int p4), .val (.int p5), .val (.long s0), .second, .val (.long s1), .second, .val (.int (0 : Int32)), .val (.long (((2 : Int64) * s0) + (1 : Int64))), .second, .val (.long D1), .second, .val (.ref b1), .val (.ref b12), .val (.ref b31), .val (.long aa), .second, .val (.ref bq104), .val (.ref bq115), .val (.int (1 : Int32)), .unset] [(.double (FP.ddiv x0 (FP.l2d (((2 : Int64) * s0) + (1 : Int64)))))]))
    refine gs (fun t k => XS.iloadN X115.here hx rfl (hb hby at_256) rfl k) ?_
    show G (T115.setTop (mkF m 257 #[.val (.int p0), .val (.int p1), .val (.int p2), .val (.int p3), .val (.int p4), .val (.int p5), .val (.long s0), .second, .val (.long s1), .second, .val (.int (0 : Int32)), .val (.long (((2 : Int64) * s0) + (1 : Int64))), .second, .val (.long D1), .second, .val (.ref b1), .val (.ref b12), .val (.ref b31), .val (.long aa), .second, .val (.ref bq104), .val (.ref bq115), .val (.int (1 : Int32)), .unset] [(.int p0), (.double (FP.ddiv x0 (FP.l2d (((2 : Int64) * s0) + (1 : Int64)))))]))
    refine gs (fun t k => XS.i2dS X115.here hx rfl (hb hby at_257) rfl rfl k) ?_
    show G (T115.setTop (mkF m 258 #[.val (.int p0), .val (.int p1), .val (.int p2), .val (.int p3), .val (.int p4), .val (.int p5), .val (.long s0), .second, .val (.long s1), .second, .val (.int (0 : Int32)), .val (.long (((2 : Int64) * s0) + (1 : Int64))), .second, .val (.long D1), .second, .val (.ref b1), .val (.ref b12), .val (.ref b31), .val (.long aa), .second, .val (.ref bq104), .val (.ref bq115), .val (.int (1 : Int32)), .unset] [(.double (FP.i2d p0)), (.double (FP.ddiv x0 (FP.l2d (((2 : Int64) * s0) + (1 : Int64)))))]))
    refine gs (fun t k => XS.dcmpS X115.here hx rfl (hb hby at_258) rfl (own_cmp (own_q D0p D0q hx0) (FP.Core.i2d_int p0)) k) ?_
    show G (T115.setTop (mkF m 259 #[.val (.int p0), .val (.int p1), .val (.int p2), .val (.int p3), .val (.int p4), .val (.int p5), .val (.long s0), .second, .val (.long s1), .second, .val (.int (0 : Int32)), .val (.long (((2 : Int64) * s0) + (1 : Int64))), .second, .val (.long D1), .second, .val (.ref b1), .val (.ref b12), .val (.ref b31), .val (.long aa), .second, .val (.ref bq104), .val (.ref bq115), .val (.int (1 : Int32)), .unset] [(.int (0 : Int32))]))
    refine gs (fun t k => XS.ifNo X115.here hx rfl (hb hby at_259) rfl ((if0 _ _).trans (teq (by decide : (0 : Int32) = (0 : Int32))).2) k) ?_
    show G (T115.setTop (mkF m 262 #[.val (.int p0), .val (.int p1), .val (.int p2), .val (.int p3), .val (.int p4), .val (.int p5), .val (.long s0), .second, .val (.long s1), .second, .val (.int (0 : Int32)), .val (.long (((2 : Int64) * s0) + (1 : Int64))), .second, .val (.long D1), .second, .val (.ref b1), .val (.ref b12), .val (.ref b31), .val (.long aa), .second, .val (.ref bq104), .val (.ref bq115), .val (.int (1 : Int32)), .unset] []))
    refine gs (fun t k => XS.aload X115.here hx rfl (hb hby at_262) rfl rfl k) ?_
    show G (T115.setTop (mkF m 264 #[.val (.int p0), .val (.int p1), .val (.int p2), .val (.int p3), .val (.int p4), .val (.int p5), .val (.long s0), .second, .val (.long s1), .second, .val (.int (0 : Int32)), .val (.long (((2 : Int64) * s0) + (1 : Int64))), .second, .val (.long D1), .second, .val (.ref b1), .val (.ref b12), .val (.ref b31), .val (.long aa), .second, .val (.ref bq104), .val (.ref bq115), .val (.int (1 : Int32)), .unset] [(.ref bq115)]))
    refine gs (fun t k => XS.iconst X115.here hx rfl (hb hby at_264) k) ?_
    show G (T115.setTop (mkF m 265 #[.val (.int p0), .val (.int p1), .val (.int p2), .val (.int p3), .val (.int p4), .val (.int p5), .val (.long s0), .second, .val (.long s1), .second, .val (.int (0 : Int32)), .val (.long (((2 : Int64) * s0) + (1 : Int64))), .second, .val (.long D1), .second, .val (.ref b1), .val (.ref b12), .val (.ref b31), .val (.long aa), .second, .val (.ref bq104), .val (.ref bq115), .val (.int (1 : Int32)), .unset] [(.int (1 : Int32)), (.ref bq115)]))
    obtain ⟨lc133, lA133, -, lS133, lN133, lH133, -⟩ := id Vq115
    have lin133 : ¬ ((1 : Int32) < 0 ∨ lc133.slots.size ≤ ((1 : Int32)).toNatClampNeg) := inb_of lS133 ⟨by decide, by decide⟩
    have lat133 : lc133.slots[((1 : Int32)).toNatClampNeg]? = some (.double (FP.ddiv x1 (FP.l2d D1))) := lH133 1 (by rw [lS133]; decide)
    refine gs (fun t k => X115.daload hx (j := (1 : Int32)) (v := (.double (FP.ddiv x1 (FP.l2d D1)))) lA133.1 (State.isArrayOf_alike hZ.alike lA133.2.1) lA133.2.2 lin133 lat133 (g := (mkF m 265 #[.val (.int p0), .val (.int p1), .val (.int p2), .val (.int p3), .val (.int p4), .val (.int p5), .val (.long s0), .second, .val (.long s1), .second, .val (.int (0 : Int32)), .val (.long (((2 : Int64) * s0) + (1 : Int64))), .second, .val (.long D1), .second, .val (.ref b1), .val (.ref b12), .val (.ref b31), .val (.long aa), .second, .val (.ref bq104), .val (.ref bq115), .val (.int (1 : Int32)), .unset] [(.int (1 : Int32)), (.ref bq115)])) rfl rfl (hb hby at_265) _ k) ?_
    show G (T115.setTop (mkF m 266 #[.val (.int p0), .val (.int p1), .val (.int p2), .val (.int p3), .val (.int p4), .val (.int p5), .val (.long s0), .second, .val (.long s1), .second, .val (.int (0 : Int32)), .val (.long (((2 : Int64) * s0) + (1 : Int64))), .second, .val (.long D1), .second, .val (.ref b1), .val (.ref b12), .val (.ref b31), .val (.long aa), .second, .val (.ref bq104), .val (.ref bq115), .val (.int (1 : Int32)), .unset] [(.double (FP.ddiv x1 (FP.l2d D1)))]))
    refine gs (fun t k => XS.iloadN X115.here hx rfl (hb hby at_266) rfl k) ?_
    show G (T115.setTop (mkF m 267 #[.val (.int p0), .val (.int p1), .val (.int p2), .val (.int p3), .val (.int p4), .val (.int p5), .val (.long s0), .second, .val (.long s1), .second, .val (.int (0 : Int32)), .val (.long (((2 : Int64) * s0) + (1 : Int64))), .second, .val (.long D1), .second, .val (.ref b1), .val (.ref b12), .val (.ref b31), .val (.long aa), .second, .val (.ref bq104), .val (.ref bq115), .val (.int (1 : Int32)), .unset] [(.int p1), (.double (FP.ddiv x1 (FP.l2d D1)))]))
    refine gs (fun t k => XS.i2dS X115.here hx rfl (hb hby at_267) rfl rfl k) ?_
    show G (T115.setTop (mkF m 268 #[.val (.int p0), .val (.int p1), .val (.int p2), .val (.int p3), .val (.int p4), .val (.int p5), .val (.long s0), .second, .val (.long s1), .second, .val (.int (0 : Int32)), .val (.long (((2 : Int64) * s0) + (1 : Int64))), .second, .val (.long D1), .second, .val (.ref b1), .val (.ref b12), .val (.ref b31), .val (.long aa), .second, .val (.ref bq104), .val (.ref bq115), .val (.int (1 : Int32)), .unset] [(.double (FP.i2d p1)), (.double (FP.ddiv x1 (FP.l2d D1)))]))
    refine gs (fun t k => XS.dcmpS X115.here hx rfl (hb hby at_268) rfl (own_cmp (own_q D1p D1q hx1) (FP.Core.i2d_int p1)) k) ?_
    show G (T115.setTop (mkF m 269 #[.val (.int p0), .val (.int p1), .val (.int p2), .val (.int p3), .val (.int p4), .val (.int p5), .val (.long s0), .second, .val (.long s1), .second, .val (.int (0 : Int32)), .val (.long (((2 : Int64) * s0) + (1 : Int64))), .second, .val (.long D1), .second, .val (.ref b1), .val (.ref b12), .val (.ref b31), .val (.long aa), .second, .val (.ref bq104), .val (.ref bq115), .val (.int (1 : Int32)), .unset] [(.int (0 : Int32))]))
    refine gs (fun t k => XS.ifNo X115.here hx rfl (hb hby at_269) rfl ((if0 _ _).trans (teq (by decide : (0 : Int32) = (0 : Int32))).2) k) ?_
    show G (T115.setTop (mkF m 272 #[.val (.int p0), .val (.int p1), .val (.int p2), .val (.int p3), .val (.int p4), .val (.int p5), .val (.long s0), .second, .val (.long s1), .second, .val (.int (0 : Int32)), .val (.long (((2 : Int64) * s0) + (1 : Int64))), .second, .val (.long D1), .second, .val (.ref b1), .val (.ref b12), .val (.ref b31), .val (.long aa), .second, .val (.ref bq104), .val (.ref bq115), .val (.int (1 : Int32)), .unset] []))
    refine gs (fun t k => XS.aload X115.here hx rfl (hb hby at_272) rfl rfl k) ?_
    show G (T115.setTop (mkF m 274 #[.val (.int p0), .val (.int p1), .val (.int p2), .val (.int p3), .val (.int p4), .val (.int p5), .val (.long s0), .second, .val (.long s1), .second, .val (.int (0 : Int32)), .val (.long (((2 : Int64) * s0) + (1 : Int64))), .second, .val (.long D1), .second, .val (.ref b1), .val (.ref b12), .val (.ref b31), .val (.long aa), .second, .val (.ref bq104), .val (.ref bq115), .val (.int (1 : Int32)), .unset] [(.ref bq115)]))
    refine gs (fun t k => XS.iconst X115.here hx rfl (hb hby at_274) k) ?_
    show G (T115.setTop (mkF m 275 #[.val (.int p0), .val (.int p1), .val (.int p2), .val (.int p3), .val (.int p4), .val (.int p5), .val (.long s0), .second, .val (.long s1), .second, .val (.int (0 : Int32)), .val (.long (((2 : Int64) * s0) + (1 : Int64))), .second, .val (.long D1), .second, .val (.ref b1), .val (.ref b12), .val (.ref b31), .val (.long aa), .second, .val (.ref bq104), .val (.ref bq115), .val (.int (1 : Int32)), .unset] [(.int (2 : Int32)), (.ref bq115)]))
    obtain ⟨lc134, lA134, -, lS134, lN134, lH134, -⟩ := id Vq115
    have lin134 : ¬ ((2 : Int32) < 0 ∨ lc134.slots.size ≤ ((2 : Int32)).toNatClampNeg) := inb_of lS134 ⟨by decide, by decide⟩
    have lat134 : lc134.slots[((2 : Int32)).toNatClampNeg]? = some (.double (FP.ddiv x2 (FP.l2d 1))) := lH134 2 (by rw [lS134]; decide)
    refine gs (fun t k => X115.daload hx (j := (2 : Int32)) (v := (.double (FP.ddiv x2 (FP.l2d 1)))) lA134.1 (State.isArrayOf_alike hZ.alike lA134.2.1) lA134.2.2 lin134 lat134 (g := (mkF m 275 #[.val (.int p0), .val (.int p1), .val (.int p2), .val (.int p3), .val (.int p4), .val (.int p5), .val (.long s0), .second, .val (.long s1), .second, .val (.int (0 : Int32)), .val (.long (((2 : Int64) * s0) + (1 : Int64))), .second, .val (.long D1), .second, .val (.ref b1), .val (.ref b12), .val (.ref b31), .val (.long aa), .second, .val (.ref bq104), .val (.ref bq115), .val (.int (1 : Int32)), .unset] [(.int (2 : Int32)), (.ref bq115)])) rfl rfl (hb hby at_275) _ k) ?_
    show G (T115.setTop (mkF m 276 #[.val (.int p0), .val (.int p1), .val (.int p2), .val (.int p3), .val (.int p4), .val (.int p5), .val (.long s0), .second, .val (.long s1), .second, .val (.int (0 : Int32)), .val (.long (((2 : Int64) * s0) + (1 : Int64))), .second, .val (.long D1), .second, .val (.ref b1), .val (.ref b12), .val (.ref b31), .val (.long aa), .second, .val (.ref bq104), .val (.ref bq115), .val (.int (1 : Int32)), .unset] [(.double (FP.ddiv x2 (FP.l2d 1)))]))
    refine gs (fun t k => XS.iloadN X115.here hx rfl (hb hby at_276) rfl k) ?_
    show G (T115.setTop (mkF m 277 #[.val (.int p0), .val (.int p1), .val (.int p2), .val (.int p3), .val (.int p4), .val (.int p5), .val (.long s0), .second, .val (.long s1), .second, .val (.int (0 : Int32)), .val (.long (((2 : Int64) * s0) + (1 : Int64))), .second, .val (.long D1), .second, .val (.ref b1), .val (.ref b12), .val (.ref b31), .val (.long aa), .second, .val (.ref bq104), .val (.ref bq115), .val (.int (1 : Int32)), .unset] [(.int p2), (.double (FP.ddiv x2 (FP.l2d 1)))]))
    refine gs (fun t k => XS.i2dS X115.here hx rfl (hb hby at_277) rfl rfl k) ?_
    show G (T115.setTop (mkF m 278 #[.val (.int p0), .val (.int p1), .val (.int p2), .val (.int p3), .val (.int p4), .val (.int p5), .val (.long s0), .second, .val (.long s1), .second, .val (.int (0 : Int32)), .val (.long (((2 : Int64) * s0) + (1 : Int64))), .second, .val (.long D1), .second, .val (.ref b1), .val (.ref b12), .val (.ref b31), .val (.long aa), .second, .val (.ref bq104), .val (.ref bq115), .val (.int (1 : Int32)), .unset] [(.double (FP.i2d p2)), (.double (FP.ddiv x2 (FP.l2d 1)))]))
    refine gs (fun t k => XS.dcmpS X115.here hx rfl (hb hby at_278) rfl (own_cmp (own_q2 hx2) (FP.Core.i2d_int p2)) k) ?_
    show G (T115.setTop (mkF m 279 #[.val (.int p0), .val (.int p1), .val (.int p2), .val (.int p3), .val (.int p4), .val (.int p5), .val (.long s0), .second, .val (.long s1), .second, .val (.int (0 : Int32)), .val (.long (((2 : Int64) * s0) + (1 : Int64))), .second, .val (.long D1), .second, .val (.ref b1), .val (.ref b12), .val (.ref b31), .val (.long aa), .second, .val (.ref bq104), .val (.ref bq115), .val (.int (1 : Int32)), .unset] [(.int (0 : Int32))]))
    refine gs (fun t k => XS.ifNo X115.here hx rfl (hb hby at_279) rfl ((if0 _ _).trans (teq (by decide : (0 : Int32) = (0 : Int32))).2) k) ?_
    show G (T115.setTop (mkF m 282 #[.val (.int p0), .val (.int p1), .val (.int p2), .val (.int p3), .val (.int p4), .val (.int p5), .val (.long s0), .second, .val (.long s1), .second, .val (.int (0 : Int32)), .val (.long (((2 : Int64) * s0) + (1 : Int64))), .second, .val (.long D1), .second, .val (.ref b1), .val (.ref b12), .val (.ref b31), .val (.long aa), .second, .val (.ref bq104), .val (.ref bq115), .val (.int (1 : Int32)), .unset] []))
    refine gs (fun t k => XS.iconst X115.here hx rfl (hb hby at_282) k) ?_
    show G (T115.setTop (mkF m 283 #[.val (.int p0), .val (.int p1), .val (.int p2), .val (.int p3), .val (.int p4), .val (.int p5), .val (.long s0), .second, .val (.long s1), .second, .val (.int (0 : Int32)), .val (.long (((2 : Int64) * s0) + (1 : Int64))), .second, .val (.long D1), .second, .val (.ref b1), .val (.ref b12), .val (.ref b31), .val (.long aa), .second, .val (.ref bq104), .val (.ref bq115), .val (.int (1 : Int32)), .unset] [(.int (1 : Int32))]))
    refine gs (fun t k => XS.goto X115.here hx rfl (pc0 := 283) (pc' := 287) rfl (hb hby at_283) (by decide) (by decide) k) ?_
    show G (T115.setTop (mkF m 287 #[.val (.int p0), .val (.int p1), .val (.int p2), .val (.int p3), .val (.int p4), .val (.int p5), .val (.long s0), .second, .val (.long s1), .second, .val (.int (0 : Int32)), .val (.long (((2 : Int64) * s0) + (1 : Int64))), .second, .val (.long D1), .second, .val (.ref b1), .val (.ref b12), .val (.ref b31), .val (.long aa), .second, .val (.ref bq104), .val (.ref bq115), .val (.int (1 : Int32)), .unset] [(.int (1 : Int32))]))
    refine gs (fun t k => XS.istore X115.here hx rfl (hb hby at_287) rfl (l' := #[.val (.int p0), .val (.int p1), .val (.int p2), .val (.int p3), .val (.int p4), .val (.int p5), .val (.long s0), .second, .val (.long s1), .second, .val (.int (0 : Int32)), .val (.long (((2 : Int64) * s0) + (1 : Int64))), .second, .val (.long D1), .second, .val (.ref b1), .val (.ref b12), .val (.ref b31), .val (.long aa), .second, .val (.ref bq104), .val (.ref bq115), .val (.int (1 : Int32)), .val (.int (1 : Int32))]) rfl k) ?_
    show G (T115.setTop (mkF m 289 #[.val (.int p0), .val (.int p1), .val (.int p2), .val (.int p3), .val (.int p4), .val (.int p5), .val (.long s0), .second, .val (.long s1), .second, .val (.int (0 : Int32)), .val (.long (((2 : Int64) * s0) + (1 : Int64))), .second, .val (.long D1), .second, .val (.ref b1), .val (.ref b12), .val (.ref b31), .val (.long aa), .second, .val (.ref bq104), .val (.ref bq115), .val (.int (1 : Int32)), .val (.int (1 : Int32))] []))
    refine gs (fun t k => XS.iload X115.here hx rfl (hb hby at_289) rfl k) ?_
    show G (T115.setTop (mkF m 291 #[.val (.int p0), .val (.int p1), .val (.int p2), .val (.int p3), .val (.int p4), .val (.int p5), .val (.long s0), .second, .val (.long s1), .second, .val (.int (0 : Int32)), .val (.long (((2 : Int64) * s0) + (1 : Int64))), .second, .val (.long D1), .second, .val (.ref b1), .val (.ref b12), .val (.ref b31), .val (.long aa), .second, .val (.ref bq104), .val (.ref bq115), .val (.int (1 : Int32)), .val (.int (1 : Int32))] [(.int (1 : Int32))]))
    refine gs (fun t k => XS.ifNo X115.here hx rfl (hb hby at_291) rfl ((if0 _ _).trans (feq (by decide : ¬ ((1 : Int32) = (0 : Int32)))).1) k) ?_
    show G (T115.setTop (mkF m 294 #[.val (.int p0), .val (.int p1), .val (.int p2), .val (.int p3), .val (.int p4), .val (.int p5), .val (.long s0), .second, .val (.long s1), .second, .val (.int (0 : Int32)), .val (.long (((2 : Int64) * s0) + (1 : Int64))), .second, .val (.long D1), .second, .val (.ref b1), .val (.ref b12), .val (.ref b31), .val (.long aa), .second, .val (.ref bq104), .val (.ref bq115), .val (.int (1 : Int32)), .val (.int (1 : Int32))] []))
    refine gs (fun t k => XS.iload X115.here hx rfl (hb hby at_294) rfl k) ?_
    show G (T115.setTop (mkF m 296 #[.val (.int p0), .val (.int p1), .val (.int p2), .val (.int p3), .val (.int p4), .val (.int p5), .val (.long s0), .second, .val (.long s1), .second, .val (.int (0 : Int32)), .val (.long (((2 : Int64) * s0) + (1 : Int64))), .second, .val (.long D1), .second, .val (.ref b1), .val (.ref b12), .val (.ref b31), .val (.long aa), .second, .val (.ref bq104), .val (.ref bq115), .val (.int (1 : Int32)), .val (.int (1 : Int32))] [(.int (1 : Int32))]))
    refine gs (fun t k => XS.ifNo X115.here hx rfl (hb hby at_296) rfl ((if0 _ _).trans (feq (by decide : ¬ ((1 : Int32) = (0 : Int32)))).1) k) ?_
    show G (T115.setTop (mkF m 299 #[.val (.int p0), .val (.int p1), .val (.int p2), .val (.int p3), .val (.int p4), .val (.int p5), .val (.long s0), .second, .val (.long s1), .second, .val (.int (0 : Int32)), .val (.long (((2 : Int64) * s0) + (1 : Int64))), .second, .val (.long D1), .second, .val (.ref b1), .val (.ref b12), .val (.ref b31), .val (.long aa), .second, .val (.ref bq104), .val (.ref bq115), .val (.int (1 : Int32)), .val (.int (1 : Int32))] []))
    refine gs (fun t k => XS.iconst X115.here hx rfl (hb hby at_299) k) ?_
    show G (T115.setTop (mkF m 300 #[.val (.int p0), .val (.int p1), .val (.int p2), .val (.int p3), .val (.int p4), .val (.int p5), .val (.long s0), .second, .val (.long s1), .second, .val (.int (0 : Int32)), .val (.long (((2 : Int64) * s0) + (1 : Int64))), .second, .val (.long D1), .second, .val (.ref b1), .val (.ref b12), .val (.ref b31), .val (.long aa), .second, .val (.ref bq104), .val (.ref bq115), .val (.int (1 : Int32)), .val (.int (1 : Int32))] [(.int (1 : Int32))]))
    refine gs (fun t k => XS.goto X115.here hx rfl (pc0 := 300) (pc' := 304) rfl (hb hby at_300) (by decide) (by decide) k) ?_
    show G (T115.setTop (mkF m 304 #[.val (.int p0), .val (.int p1), .val (.int p2), .val (.int p3), .val (.int p4), .val (.int p5), .val (.long s0), .second, .val (.long s1), .second, .val (.int (0 : Int32)), .val (.long (((2 : Int64) * s0) + (1 : Int64))), .second, .val (.long D1), .second, .val (.ref b1), .val (.ref b12), .val (.ref b31), .val (.long aa), .second, .val (.ref bq104), .val (.ref bq115), .val (.int (1 : Int32)), .val (.int (1 : Int32))] [(.int (1 : Int32))]))
    obtain ⟨fs, hr, hrun, hended, hW, hsame⟩ := X115.leave (v := some (.int (1 : Int32))) (fun h => by rw [Bd.returns] at h; cases h)
    refine gl _ ⟨_, _, retN X115 hx (t := .boolean) Bd.returns (by simp) (hb hby at_304) hr, hrun, hended, _, _, rfl, ?_, ⟨_, rfl⟩, hW, hsame.mono (by decide) (by decide)⟩
    show Q0 h0 n0 _ T115.heap _
    exact ⟨rfl, N115⟩
  · refine gs (fun t k => XS.ifNo X0.here hx rfl (hb hby at_21) rfl ((if0 _ _).trans (feq hc21).1) k) ?_
    show G (s₁.setTop (mkF m 24 #[.val (.int p0), .val (.int p1), .val (.int p2), .val (.int p3), .val (.int p4), .val (.int p5), .val (.long s0), .second, .val (.long s1), .second, .unset, .unset, .unset, .unset, .unset, .unset, .unset, .unset, .unset, .unset, .unset, .unset, .unset, .unset] []))
    refine gs (fun t k => XS.iconst X0.here hx rfl (hb hby at_24) k) ?_
    show G (s₁.setTop (mkF m 25 #[.val (.int p0), .val (.int p1), .val (.int p2), .val (.int p3), .val (.int p4), .val (.int p5), .val (.long s0), .second, .val (.long s1), .second, .unset, .unset, .unset, .unset, .unset, .unset, .unset, .unset, .unset, .unset, .unset, .unset, .unset, .unset] [(.int (1 : Int32))]))
    refine gs (fun t k => XS.goto X0.here hx rfl (pc0 := 25) (pc' := 29) rfl (hb hby at_25) (by decide) (by decide) k) ?_
    show G (s₁.setTop (mkF m 29 #[.val (.int p0), .val (.int p1), .val (.int p2), .val (.int p3), .val (.int p4), .val (.int p5), .val (.long s0), .second, .val (.long s1), .second, .unset, .unset, .unset, .unset, .unset, .unset, .unset, .unset, .unset, .unset, .unset, .unset, .unset, .unset] [(.int (1 : Int32))]))
    refine gs (fun t k => XS.istore X0.here hx rfl (hb hby at_29) rfl (l' := #[.val (.int p0), .val (.int p1), .val (.int p2), .val (.int p3), .val (.int p4), .val (.int p5), .val (.long s0), .second, .val (.long s1), .second, .val (.int (1 : Int32)), .unset, .unset, .unset, .unset, .unset, .unset, .unset, .unset, .unset, .unset, .unset, .unset, .unset]) rfl k) ?_
    show G (s₁.setTop (mkF m 31 #[.val (.int p0), .val (.int p1), .val (.int p2), .val (.int p3), .val (.int p4), .val (.int p5), .val (.long s0), .second, .val (.long s1), .second, .val (.int (1 : Int32)), .unset, .unset, .unset, .unset, .unset, .unset, .unset, .unset, .unset, .unset, .unset, .unset, .unset] []))
    refine gs (fun t k => X0.ldc2Long hx hown (mvT hZ (hw _ (List.mem_of_getElem? (i := 0) rfl))) (g := (mkF m 31 #[.val (.int p0), .val (.int p1), .val (.int p2), .val (.int p3), .val (.int p4), .val (.int p5), .val (.long s0), .second, .val (.long s1), .second, .val (.int (1 : Int32)), .unset, .unset, .unset, .unset, .unset, .unset, .unset, .unset, .unset, .unset, .unset, .unset, .unset] [])) rfl (hb hby at_31) _ k) ?_
    show G (s₁.setTop (mkF m 34 #[.val (.int p0), .val (.int p1), .val (.int p2), .val (.int p3), .val (.int p4), .val (.int p5), .val (.long s0), .second, .val (.long s1), .second, .val (.int (1 : Int32)), .unset, .unset, .unset, .unset, .unset, .unset, .unset, .unset, .unset, .unset, .unset, .unset, .unset] [(.long (2 : Int64))]))
    refine gs (fun t k => XS.lload X0.here hx rfl (hb hby at_34) rfl k) ?_
    show G (s₁.setTop (mkF m 36 #[.val (.int p0), .val (.int p1), .val (.int p2), .val (.int p3), .val (.int p4), .val (.int p5), .val (.long s0), .second, .val (.long s1), .second, .val (.int (1 : Int32)), .unset, .unset, .unset, .unset, .unset, .unset, .unset, .unset, .unset, .unset, .unset, .unset, .unset] [(.long s0), (.long (2 : Int64))]))
    refine gs (fun t k => XS.lmul X0.here hx rfl (hb hby at_36) rfl k) ?_
    show G (s₁.setTop (mkF m 37 #[.val (.int p0), .val (.int p1), .val (.int p2), .val (.int p3), .val (.int p4), .val (.int p5), .val (.long s0), .second, .val (.long s1), .second, .val (.int (1 : Int32)), .unset, .unset, .unset, .unset, .unset, .unset, .unset, .unset, .unset, .unset, .unset, .unset, .unset] [(.long ((2 : Int64) * s0))]))
    refine gs (fun t k => XS.lconst X0.here hx rfl (hb hby at_37) k) ?_
    show G (s₁.setTop (mkF m 38 #[.val (.int p0), .val (.int p1), .val (.int p2), .val (.int p3), .val (.int p4), .val (.int p5), .val (.long s0), .second, .val (.long s1), .second, .val (.int (1 : Int32)), .unset, .unset, .unset, .unset, .unset, .unset, .unset, .unset, .unset, .unset, .unset, .unset, .unset] [(.long (1 : Int64)), (.long ((2 : Int64) * s0))]))
    refine gs (fun t k => XS.ladd X0.here hx rfl (hb hby at_38) rfl k) ?_
    show G (s₁.setTop (mkF m 39 #[.val (.int p0), .val (.int p1), .val (.int p2), .val (.int p3), .val (.int p4), .val (.int p5), .val (.long s0), .second, .val (.long s1), .second, .val (.int (1 : Int32)), .unset, .unset, .unset, .unset, .unset, .unset, .unset, .unset, .unset, .unset, .unset, .unset, .unset] [(.long (((2 : Int64) * s0) + (1 : Int64)))]))
    refine gs (fun t k => XS.lstore X0.here hx rfl (hb hby at_39) rfl (l' := #[.val (.int p0), .val (.int p1), .val (.int p2), .val (.int p3), .val (.int p4), .val (.int p5), .val (.long s0), .second, .val (.long s1), .second, .val (.int (1 : Int32)), .val (.long (((2 : Int64) * s0) + (1 : Int64))), .second, .unset, .unset, .unset, .unset, .unset, .unset, .unset, .unset, .unset, .unset, .unset]) rfl k) ?_
    show G (s₁.setTop (mkF m 41 #[.val (.int p0), .val (.int p1), .val (.int p2), .val (.int p3), .val (.int p4), .val (.int p5), .val (.long s0), .second, .val (.long s1), .second, .val (.int (1 : Int32)), .val (.long (((2 : Int64) * s0) + (1 : Int64))), .second, .unset, .unset, .unset, .unset, .unset, .unset, .unset, .unset, .unset, .unset, .unset] []))
    refine gs (fun t k => X0.ldc2Long hx hown (mvT hZ (hw _ (List.mem_of_getElem? (i := 0) rfl))) (g := (mkF m 41 #[.val (.int p0), .val (.int p1), .val (.int p2), .val (.int p3), .val (.int p4), .val (.int p5), .val (.long s0), .second, .val (.long s1), .second, .val (.int (1 : Int32)), .val (.long (((2 : Int64) * s0) + (1 : Int64))), .second, .unset, .unset, .unset, .unset, .unset, .unset, .unset, .unset, .unset, .unset, .unset] [])) rfl (hb hby at_41) _ k) ?_
    show G (s₁.setTop (mkF m 44 #[.val (.int p0), .val (.int p1), .val (.int p2), .val (.int p3), .val (.int p4), .val (.int p5), .val (.long s0), .second, .val (.long s1), .second, .val (.int (1 : Int32)), .val (.long (((2 : Int64) * s0) + (1 : Int64))), .second, .unset, .unset, .unset, .unset, .unset, .unset, .unset, .unset, .unset, .unset, .unset] [(.long (2 : Int64))]))
    refine gs (fun t k => XS.lload X0.here hx rfl (hb hby at_44) rfl k) ?_
    show G (s₁.setTop (mkF m 46 #[.val (.int p0), .val (.int p1), .val (.int p2), .val (.int p3), .val (.int p4), .val (.int p5), .val (.long s0), .second, .val (.long s1), .second, .val (.int (1 : Int32)), .val (.long (((2 : Int64) * s0) + (1 : Int64))), .second, .unset, .unset, .unset, .unset, .unset, .unset, .unset, .unset, .unset, .unset, .unset] [(.long s1), (.long (2 : Int64))]))
    refine gs (fun t k => XS.lmul X0.here hx rfl (hb hby at_46) rfl k) ?_
    show G (s₁.setTop (mkF m 47 #[.val (.int p0), .val (.int p1), .val (.int p2), .val (.int p3), .val (.int p4), .val (.int p5), .val (.long s0), .second, .val (.long s1), .second, .val (.int (1 : Int32)), .val (.long (((2 : Int64) * s0) + (1 : Int64))), .second, .unset, .unset, .unset, .unset, .unset, .unset, .unset, .unset, .unset, .unset, .unset] [(.long ((2 : Int64) * s1))]))
    refine gs (fun t k => XS.lconst X0.here hx rfl (hb hby at_47) k) ?_
    show G (s₁.setTop (mkF m 48 #[.val (.int p0), .val (.int p1), .val (.int p2), .val (.int p3), .val (.int p4), .val (.int p5), .val (.long s0), .second, .val (.long s1), .second, .val (.int (1 : Int32)), .val (.long (((2 : Int64) * s0) + (1 : Int64))), .second, .unset, .unset, .unset, .unset, .unset, .unset, .unset, .unset, .unset, .unset, .unset] [(.long (1 : Int64)), (.long ((2 : Int64) * s1))]))
    refine gs (fun t k => XS.ladd X0.here hx rfl (hb hby at_48) rfl k) ?_
    show G (s₁.setTop (mkF m 49 #[.val (.int p0), .val (.int p1), .val (.int p2), .val (.int p3), .val (.int p4), .val (.int p5), .val (.long s0), .second, .val (.long s1), .second, .val (.int (1 : Int32)), .val (.long (((2 : Int64) * s0) + (1 : Int64))), .second, .unset, .unset, .unset, .unset, .unset, .unset, .unset, .unset, .unset, .unset, .unset] [(.long (((2 : Int64) * s1) + (1 : Int64)))]))
    refine gs (fun t k => XS.iload X0.here hx rfl (hb hby at_49) rfl k) ?_
    show G (s₁.setTop (mkF m 51 #[.val (.int p0), .val (.int p1), .val (.int p2), .val (.int p3), .val (.int p4), .val (.int p5), .val (.long s0), .second, .val (.long s1), .second, .val (.int (1 : Int32)), .val (.long (((2 : Int64) * s0) + (1 : Int64))), .second, .unset, .unset, .unset, .unset, .unset, .unset, .unset, .unset, .unset, .unset, .unset] [(.int (1 : Int32)), (.long (((2 : Int64) * s1) + (1 : Int64)))]))
    refine gs (fun t k => XS.ifNo X0.here hx rfl (hb hby at_51) rfl ((if0 _ _).trans (feq (by decide : ¬ ((1 : Int32) = (0 : Int32)))).1) k) ?_
    show G (s₁.setTop (mkF m 54 #[.val (.int p0), .val (.int p1), .val (.int p2), .val (.int p3), .val (.int p4), .val (.int p5), .val (.long s0), .second, .val (.long s1), .second, .val (.int (1 : Int32)), .val (.long (((2 : Int64) * s0) + (1 : Int64))), .second, .unset, .unset, .unset, .unset, .unset, .unset, .unset, .unset, .unset, .unset, .unset] [(.long (((2 : Int64) * s1) + (1 : Int64)))]))
    refine gs (fun t k => XS.iconst X0.here hx rfl (hb hby at_54) k) ?_
    show G (s₁.setTop (mkF m 55 #[.val (.int p0), .val (.int p1), .val (.int p2), .val (.int p3), .val (.int p4), .val (.int p5), .val (.long s0), .second, .val (.long s1), .second, .val (.int (1 : Int32)), .val (.long (((2 : Int64) * s0) + (1 : Int64))), .second, .unset, .unset, .unset, .unset, .unset, .unset, .unset, .unset, .unset, .unset, .unset] [(.int (1 : Int32)), (.long (((2 : Int64) * s1) + (1 : Int64)))]))
    refine gs (fun t k => XS.goto X0.here hx rfl (pc0 := 55) (pc' := 59) rfl (hb hby at_55) (by decide) (by decide) k) ?_
    show G (s₁.setTop (mkF m 59 #[.val (.int p0), .val (.int p1), .val (.int p2), .val (.int p3), .val (.int p4), .val (.int p5), .val (.long s0), .second, .val (.long s1), .second, .val (.int (1 : Int32)), .val (.long (((2 : Int64) * s0) + (1 : Int64))), .second, .unset, .unset, .unset, .unset, .unset, .unset, .unset, .unset, .unset, .unset, .unset] [(.int (1 : Int32)), (.long (((2 : Int64) * s1) + (1 : Int64)))]))
    refine gs (fun t k => XS.i2l X0.here hx rfl (hb hby at_59) rfl k) ?_
    show G (s₁.setTop (mkF m 60 #[.val (.int p0), .val (.int p1), .val (.int p2), .val (.int p3), .val (.int p4), .val (.int p5), .val (.long s0), .second, .val (.long s1), .second, .val (.int (1 : Int32)), .val (.long (((2 : Int64) * s0) + (1 : Int64))), .second, .unset, .unset, .unset, .unset, .unset, .unset, .unset, .unset, .unset, .unset, .unset] [(.long ((1 : Int32).toInt64)), (.long (((2 : Int64) * s1) + (1 : Int64)))]))
    refine gs (fun t k => XS.ladd X0.here hx rfl (hb hby at_60) rfl k) ?_
    show G (s₁.setTop (mkF m 61 #[.val (.int p0), .val (.int p1), .val (.int p2), .val (.int p3), .val (.int p4), .val (.int p5), .val (.long s0), .second, .val (.long s1), .second, .val (.int (1 : Int32)), .val (.long (((2 : Int64) * s0) + (1 : Int64))), .second, .unset, .unset, .unset, .unset, .unset, .unset, .unset, .unset, .unset, .unset, .unset] [(.long ((((2 : Int64) * s1) + (1 : Int64)) + ((1 : Int32).toInt64)))]))
    obtain ⟨D1, hD1⟩ : ∃ z : Int64, z = ((((2 : Int64) * s1) + (1 : Int64)) + ((1 : Int32).toInt64)) := ⟨_, rfl⟩
    rw [← hD1]
    show G (s₁.setTop (mkF m 61 #[.val (.int p0), .val (.int p1), .val (.int p2), .val (.int p3), .val (.int p4), .val (.int p5), .val (.long s0), .second, .val (.long s1), .second, .val (.int (1 : Int32)), .val (.long (((2 : Int64) * s0) + (1 : Int64))), .second, .unset, .unset, .unset, .unset, .unset, .unset, .unset, .unset, .unset, .unset, .unset] [(.long D1)]))
    have hD1' : D1 = 2 * s1 + 1 + 1 := hD1
    have D1i : D1.toInt = 2 * s1.toInt + 2 := by rw [hD1']; exact own_i211 S1
    have D0i := own_i21 S0
    have z0a := S0.1
    have z0b := S0.2
    have z1a := S1.1
    have z1b := S1.2
    have D0p : 0 < (((2 : Int64) * s0) + (1 : Int64)).toInt := by omega
    have D0q : (((2 : Int64) * s0) + (1 : Int64)).toInt ≤ 2048 := by omega
    have D1p : 0 < D1.toInt := by omega
    have D1q : D1.toInt ≤ 2048 := by omega
    refine gs (fun t k => XS.lstore X0.here hx rfl (hb hby at_61) rfl (l' := #[.val (.int p0), .val (.int p1), .val (.int p2), .val (.int p3), .val (.int p4), .val (.int p5), .val (.long s0), .second, .val (.long s1), .second, .val (.int (1 : Int32)), .val (.long (((2 : Int64) * s0) + (1 : Int64))), .second, .val (.long D1), .second, .unset, .unset, .unset, .unset, .unset, .unset, .unset, .unset, .unset]) rfl k) ?_
    show G (s₁.setTop (mkF m 63 #[.val (.int p0), .val (.int p1), .val (.int p2), .val (.int p3), .val (.int p4), .val (.int p5), .val (.long s0), .second, .val (.long s1), .second, .val (.int (1 : Int32)), .val (.long (((2 : Int64) * s0) + (1 : Int64))), .second, .val (.long D1), .second, .unset, .unset, .unset, .unset, .unset, .unset, .unset, .unset, .unset] []))
    refine gs (fun t k => XS.iconst X0.here hx rfl (hb hby at_63) k) ?_
    show G (s₁.setTop (mkF m 64 #[.val (.int p0), .val (.int p1), .val (.int p2), .val (.int p3), .val (.int p4), .val (.int p5), .val (.long s0), .second, .val (.long s1), .second, .val (.int (1 : Int32)), .val (.long (((2 : Int64) * s0) + (1 : Int64))), .second, .val (.long D1), .second, .unset, .unset, .unset, .unset, .unset, .unset, .unset, .unset, .unset] [(.int (3 : Int32))]))
    obtain ⟨T135, h135, k135, X135, e135, E135, A135, EA135, st135⟩ := newPE X0 hx hZ (hw _ (List.mem_of_getElem? (i := 1) rfl)) e0 (g := (mkF m 64 #[.val (.int p0), .val (.int p1), .val (.int p2), .val (.int p3), .val (.int p4), .val (.int p5), .val (.long s0), .second, .val (.long s1), .second, .val (.int (1 : Int32)), .val (.long (((2 : Int64) * s0) + (1 : Int64))), .second, .val (.long D1), .second, .unset, .unset, .unset, .unset, .unset, .unset, .unset, .unset, .unset] [(.int (3 : Int32))])) rfl (hb hby at_64) rfl (by decide) (cap := 3) (by decide) (by decide) (by decide) (by decide) (ad := "[D") rfl
    obtain ⟨b135, g135⟩ : ∃ z, z = h0.size := ⟨_, rfl⟩
    rw [← g135] at A135 EA135 st135
    have sz_b135 : h0.size ≤ b135 := Nat.le_trans K0.1 (Nat.le_of_eq g135.symm)
    have g_b135 : n0 ≤ b135 := Nat.le_trans Z0 sz_b135
    have K136 := K0.ext E135
    have V_b135 : Arv Z h135 b135 k135 .double (3 : Int32) [(.double (0 : UInt64)), (.double (0 : UInt64)), (.double (0 : UInt64))] (.double (0 : UInt64)) := (Arv.new A135 (by decide)).pad (pad_rep [] (.double (0 : UInt64)) 3)
    refine gs (fun t k => st135 _ k) ?_
    show G (T135.setTop (mkF m 66 #[.val (.int p0), .val (.int p1), .val (.int p2), .val (.int p3), .val (.int p4), .val (.int p5), .val (.long s0), .second, .val (.long s1), .second, .val (.int (1 : Int32)), .val (.long (((2 : Int64) * s0) + (1 : Int64))), .second, .val (.long D1), .second, .unset, .unset, .unset, .unset, .unset, .unset, .unset, .unset, .unset] [(.ref b135)]))
    refine gs (fun t k => XS.dup X135.here hx rfl (hb hby at_66) rfl rfl k) ?_
    show G (T135.setTop (mkF m 67 #[.val (.int p0), .val (.int p1), .val (.int p2), .val (.int p3), .val (.int p4), .val (.int p5), .val (.long s0), .second, .val (.long s1), .second, .val (.int (1 : Int32)), .val (.long (((2 : Int64) * s0) + (1 : Int64))), .second, .val (.long D1), .second, .unset, .unset, .unset, .unset, .unset, .unset, .unset, .unset, .unset] [(.ref b135), (.ref b135)]))
    refine gs (fun t k => XS.iconst X135.here hx rfl (hb hby at_67) k) ?_
    show G (T135.setTop (mkF m 68 #[.val (.int p0), .val (.int p1), .val (.int p2), .val (.int p3), .val (.int p4), .val (.int p5), .val (.long s0), .second, .val (.long s1), .second, .val (.int (1 : Int32)), .val (.long (((2 : Int64) * s0) + (1 : Int64))), .second, .val (.long D1), .second, .unset, .unset, .unset, .unset, .unset, .unset, .unset, .unset, .unset] [(.int (0 : Int32)), (.ref b135), (.ref b135)]))
    refine gs (fun t k => XS.iloadN X135.here hx rfl (hb hby at_68) rfl k) ?_
    show G (T135.setTop (mkF m 69 #[.val (.int p0), .val (.int p1), .val (.int p2), .val (.int p3), .val (.int p4), .val (.int p5), .val (.long s0), .second, .val (.long s1), .second, .val (.int (1 : Int32)), .val (.long (((2 : Int64) * s0) + (1 : Int64))), .second, .val (.long D1), .second, .unset, .unset, .unset, .unset, .unset, .unset, .unset, .unset, .unset] [(.int p0), (.int (0 : Int32)), (.ref b135), (.ref b135)]))
    refine gs (fun t k => XS.i2l X135.here hx rfl (hb hby at_69) rfl k) ?_
    show G (T135.setTop (mkF m 70 #[.val (.int p0), .val (.int p1), .val (.int p2), .val (.int p3), .val (.int p4), .val (.int p5), .val (.long s0), .second, .val (.long s1), .second, .val (.int (1 : Int32)), .val (.long (((2 : Int64) * s0) + (1 : Int64))), .second, .val (.long D1), .second, .unset, .unset, .unset, .unset, .unset, .unset, .unset, .unset, .unset] [(.long (p0.toInt64)), (.int (0 : Int32)), (.ref b135), (.ref b135)]))
    refine gs (fun t k => XS.lload X135.here hx rfl (hb hby at_70) rfl k) ?_
    show G (T135.setTop (mkF m 72 #[.val (.int p0), .val (.int p1), .val (.int p2), .val (.int p3), .val (.int p4), .val (.int p5), .val (.long s0), .second, .val (.long s1), .second, .val (.int (1 : Int32)), .val (.long (((2 : Int64) * s0) + (1 : Int64))), .second, .val (.long D1), .second, .unset, .unset, .unset, .unset, .unset, .unset, .unset, .unset, .unset] [(.long (((2 : Int64) * s0) + (1 : Int64))), (.long (p0.toInt64)), (.int (0 : Int32)), (.ref b135), (.ref b135)]))
    refine gs (fun t k => XS.lmul X135.here hx rfl (hb hby at_72) rfl k) ?_
    show G (T135.setTop (mkF m 73 #[.val (.int p0), .val (.int p1), .val (.int p2), .val (.int p3), .val (.int p4), .val (.int p5), .val (.long s0), .second, .val (.long s1), .second, .val (.int (1 : Int32)), .val (.long (((2 : Int64) * s0) + (1 : Int64))), .second, .val (.long D1), .second, .unset, .unset, .unset, .unset, .unset, .unset, .unset, .unset, .unset] [(.long ((p0.toInt64) * (((2 : Int64) * s0) + (1 : Int64)))), (.int (0 : Int32)), (.ref b135), (.ref b135)]))
    refine gs (fun t k => XS.l2dS X135.here hx rfl (hb hby at_73) rfl rfl k) ?_
    show G (T135.setTop (mkF m 74 #[.val (.int p0), .val (.int p1), .val (.int p2), .val (.int p3), .val (.int p4), .val (.int p5), .val (.long s0), .second, .val (.long s1), .second, .val (.int (1 : Int32)), .val (.long (((2 : Int64) * s0) + (1 : Int64))), .second, .val (.long D1), .second, .unset, .unset, .unset, .unset, .unset, .unset, .unset, .unset, .unset] [(.double (FP.l2d ((p0.toInt64) * (((2 : Int64) * s0) + (1 : Int64))))), (.int (0 : Int32)), (.ref b135), (.ref b135)]))
    obtain ⟨x0, hx0⟩ : ∃ z : UInt64, z = (FP.l2d ((p0.toInt64) * (((2 : Int64) * s0) + (1 : Int64)))) := ⟨_, rfl⟩
    rw [← hx0]
    show G (T135.setTop (mkF m 74 #[.val (.int p0), .val (.int p1), .val (.int p2), .val (.int p3), .val (.int p4), .val (.int p5), .val (.long s0), .second, .val (.long s1), .second, .val (.int (1 : Int32)), .val (.long (((2 : Int64) * s0) + (1 : Int64))), .second, .val (.long D1), .second, .unset, .unset, .unset, .unset, .unset, .unset, .unset, .unset, .unset] [(.double x0), (.int (0 : Int32)), (.ref b135), (.ref b135)]))
    obtain ⟨vc137, vA137, vq137, vS137, vN137, vH137, vG137⟩ := V_b135
    have hin137 : ¬ ((0 : Int32) < 0 ∨ vc137.slots.size ≤ ((0 : Int32)).toNatClampNeg) := inb_of vS137 ⟨by decide, by decide⟩
    obtain ⟨T137, h137, X137, e137, W137, st137⟩ := stD X135 hx hZ e135 vA137 (j := (0 : Int32)) hin137 (g := (mkF m 74 #[.val (.int p0), .val (.int p1), .val (.int p2), .val (.int p3), .val (.int p4), .val (.int p5), .val (.long s0), .second, .val (.long s1), .second, .val (.int (1 : Int32)), .val (.long (((2 : Int64) * s0) + (1 : Int64))), .second, .val (.long D1), .second, .unset, .unset, .unset, .unset, .unset, .unset, .unset, .unset, .unset] [(.double x0), (.int (0 : Int32)), (.ref b135), (.ref b135)])) rfl rfl (hb hby at_74)
    have EA135_q138 := EA135.wr W137
    have K139 := K136.wr W137 (Or.inr sz_b135)
    have V_b135_q137 := Arv.set vA137 vq137 vS137 vN137 vH137 vG137 rfl W137 0 rfl (Nat.le_of_ble_eq_true rfl)
    have N137 := Fr.snoc X137 N0 g_b135
    refine gs (fun t k => st137 _ k) ?_
    show G (T137.setTop (mkF m 75 #[.val (.int p0), .val (.int p1), .val (.int p2), .val (.int p3), .val (.int p4), .val (.int p5), .val (.long s0), .second, .val (.long s1), .second, .val (.int (1 : Int32)), .val (.long (((2 : Int64) * s0) + (1 : Int64))), .second, .val (.long D1), .second, .unset, .unset, .unset, .unset, .unset, .unset, .unset, .unset, .unset] [(.ref b135)]))
    refine gs (fun t k => XS.dup X137.here hx rfl (hb hby at_75) rfl rfl k) ?_
    show G (T137.setTop (mkF m 76 #[.val (.int p0), .val (.int p1), .val (.int p2), .val (.int p3), .val (.int p4), .val (.int p5), .val (.long s0), .second, .val (.long s1), .second, .val (.int (1 : Int32)), .val (.long (((2 : Int64) * s0) + (1 : Int64))), .second, .val (.long D1), .second, .unset, .unset, .unset, .unset, .unset, .unset, .unset, .unset, .unset] [(.ref b135), (.ref b135)]))
    refine gs (fun t k => XS.iconst X137.here hx rfl (hb hby at_76) k) ?_
    show G (T137.setTop (mkF m 77 #[.val (.int p0), .val (.int p1), .val (.int p2), .val (.int p3), .val (.int p4), .val (.int p5), .val (.long s0), .second, .val (.long s1), .second, .val (.int (1 : Int32)), .val (.long (((2 : Int64) * s0) + (1 : Int64))), .second, .val (.long D1), .second, .unset, .unset, .unset, .unset, .unset, .unset, .unset, .unset, .unset] [(.int (1 : Int32)), (.ref b135), (.ref b135)]))
    refine gs (fun t k => XS.iloadN X137.here hx rfl (hb hby at_77) rfl k) ?_
    show G (T137.setTop (mkF m 78 #[.val (.int p0), .val (.int p1), .val (.int p2), .val (.int p3), .val (.int p4), .val (.int p5), .val (.long s0), .second, .val (.long s1), .second, .val (.int (1 : Int32)), .val (.long (((2 : Int64) * s0) + (1 : Int64))), .second, .val (.long D1), .second, .unset, .unset, .unset, .unset, .unset, .unset, .unset, .unset, .unset] [(.int p1), (.int (1 : Int32)), (.ref b135), (.ref b135)]))
    refine gs (fun t k => XS.i2l X137.here hx rfl (hb hby at_78) rfl k) ?_
    show G (T137.setTop (mkF m 79 #[.val (.int p0), .val (.int p1), .val (.int p2), .val (.int p3), .val (.int p4), .val (.int p5), .val (.long s0), .second, .val (.long s1), .second, .val (.int (1 : Int32)), .val (.long (((2 : Int64) * s0) + (1 : Int64))), .second, .val (.long D1), .second, .unset, .unset, .unset, .unset, .unset, .unset, .unset, .unset, .unset] [(.long (p1.toInt64)), (.int (1 : Int32)), (.ref b135), (.ref b135)]))
    refine gs (fun t k => XS.lload X137.here hx rfl (hb hby at_79) rfl k) ?_
    show G (T137.setTop (mkF m 81 #[.val (.int p0), .val (.int p1), .val (.int p2), .val (.int p3), .val (.int p4), .val (.int p5), .val (.long s0), .second, .val (.long s1), .second, .val (.int (1 : Int32)), .val (.long (((2 : Int64) * s0) + (1 : Int64))), .second, .val (.long D1), .second, .unset, .unset, .unset, .unset, .unset, .unset, .unset, .unset, .unset] [(.long D1), (.long (p1.toInt64)), (.int (1 : Int32)), (.ref b135), (.ref b135)]))
    refine gs (fun t k => XS.lmul X137.here hx rfl (hb hby at_81) rfl k) ?_
    show G (T137.setTop (mkF m 82 #[.val (.int p0), .val (.int p1), .val (.int p2), .val (.int p3), .val (.int p4), .val (.int p5), .val (.long s0), .second, .val (.long s1), .second, .val (.int (1 : Int32)), .val (.long (((2 : Int64) * s0) + (1 : Int64))), .second, .val (.long D1), .second, .unset, .unset, .unset, .unset, .unset, .unset, .unset, .unset, .unset] [(.long ((p1.toInt64) * D1)), (.int (1 : Int32)), (.ref b135), (.ref b135)]))
    refine gs (fun t k => XS.l2dS X137.here hx rfl (hb hby at_82) rfl rfl k) ?_
    show G (T137.setTop (mkF m 83 #[.val (.int p0), .val (.int p1), .val (.int p2), .val (.int p3), .val (.int p4), .val (.int p5), .val (.long s0), .second, .val (.long s1), .second, .val (.int (1 : Int32)), .val (.long (((2 : Int64) * s0) + (1 : Int64))), .second, .val (.long D1), .second, .unset, .unset, .unset, .unset, .unset, .unset, .unset, .unset, .unset] [(.double (FP.l2d ((p1.toInt64) * D1))), (.int (1 : Int32)), (.ref b135), (.ref b135)]))
    obtain ⟨x1, hx1⟩ : ∃ z : UInt64, z = (FP.l2d ((p1.toInt64) * D1)) := ⟨_, rfl⟩
    rw [← hx1]
    show G (T137.setTop (mkF m 83 #[.val (.int p0), .val (.int p1), .val (.int p2), .val (.int p3), .val (.int p4), .val (.int p5), .val (.long s0), .second, .val (.long s1), .second, .val (.int (1 : Int32)), .val (.long (((2 : Int64) * s0) + (1 : Int64))), .second, .val (.long D1), .second, .unset, .unset, .unset, .unset, .unset, .unset, .unset, .unset, .unset] [(.double x1), (.int (1 : Int32)), (.ref b135), (.ref b135)]))
    obtain ⟨vc140, vA140, vq140, vS140, vN140, vH140, vG140⟩ := V_b135_q137
    have hin140 : ¬ ((1 : Int32) < 0 ∨ vc140.slots.size ≤ ((1 : Int32)).toNatClampNeg) := inb_of vS140 ⟨by decide, by decide⟩
    obtain ⟨T140, h140, X140, e140, W140, st140⟩ := stD X137 hx hZ e137 vA140 (j := (1 : Int32)) hin140 (g := (mkF m 83 #[.val (.int p0), .val (.int p1), .val (.int p2), .val (.int p3), .val (.int p4), .val (.int p5), .val (.long s0), .second, .val (.long s1), .second, .val (.int (1 : Int32)), .val (.long (((2 : Int64) * s0) + (1 : Int64))), .second, .val (.long D1), .second, .unset, .unset, .unset, .unset, .unset, .unset, .unset, .unset, .unset] [(.double x1), (.int (1 : Int32)), (.ref b135), (.ref b135)])) rfl rfl (hb hby at_83)
    have EA135_q141 := EA135_q138.wr W140
    have K142 := K139.wr W140 (Or.inr sz_b135)
    have V_b135_q140 := Arv.set vA140 vq140 vS140 vN140 vH140 vG140 rfl W140 1 rfl (Nat.le_of_ble_eq_true rfl)
    have N140 := Fr.snoc X140 N137 g_b135
    refine gs (fun t k => st140 _ k) ?_
    show G (T140.setTop (mkF m 84 #[.val (.int p0), .val (.int p1), .val (.int p2), .val (.int p3), .val (.int p4), .val (.int p5), .val (.long s0), .second, .val (.long s1), .second, .val (.int (1 : Int32)), .val (.long (((2 : Int64) * s0) + (1 : Int64))), .second, .val (.long D1), .second, .unset, .unset, .unset, .unset, .unset, .unset, .unset, .unset, .unset] [(.ref b135)]))
    refine gs (fun t k => XS.dup X140.here hx rfl (hb hby at_84) rfl rfl k) ?_
    show G (T140.setTop (mkF m 85 #[.val (.int p0), .val (.int p1), .val (.int p2), .val (.int p3), .val (.int p4), .val (.int p5), .val (.long s0), .second, .val (.long s1), .second, .val (.int (1 : Int32)), .val (.long (((2 : Int64) * s0) + (1 : Int64))), .second, .val (.long D1), .second, .unset, .unset, .unset, .unset, .unset, .unset, .unset, .unset, .unset] [(.ref b135), (.ref b135)]))
    refine gs (fun t k => XS.iconst X140.here hx rfl (hb hby at_85) k) ?_
    show G (T140.setTop (mkF m 86 #[.val (.int p0), .val (.int p1), .val (.int p2), .val (.int p3), .val (.int p4), .val (.int p5), .val (.long s0), .second, .val (.long s1), .second, .val (.int (1 : Int32)), .val (.long (((2 : Int64) * s0) + (1 : Int64))), .second, .val (.long D1), .second, .unset, .unset, .unset, .unset, .unset, .unset, .unset, .unset, .unset] [(.int (2 : Int32)), (.ref b135), (.ref b135)]))
    refine gs (fun t k => XS.iloadN X140.here hx rfl (hb hby at_86) rfl k) ?_
    show G (T140.setTop (mkF m 87 #[.val (.int p0), .val (.int p1), .val (.int p2), .val (.int p3), .val (.int p4), .val (.int p5), .val (.long s0), .second, .val (.long s1), .second, .val (.int (1 : Int32)), .val (.long (((2 : Int64) * s0) + (1 : Int64))), .second, .val (.long D1), .second, .unset, .unset, .unset, .unset, .unset, .unset, .unset, .unset, .unset] [(.int p2), (.int (2 : Int32)), (.ref b135), (.ref b135)]))
    refine gs (fun t k => XS.i2dS X140.here hx rfl (hb hby at_87) rfl rfl k) ?_
    show G (T140.setTop (mkF m 88 #[.val (.int p0), .val (.int p1), .val (.int p2), .val (.int p3), .val (.int p4), .val (.int p5), .val (.long s0), .second, .val (.long s1), .second, .val (.int (1 : Int32)), .val (.long (((2 : Int64) * s0) + (1 : Int64))), .second, .val (.long D1), .second, .unset, .unset, .unset, .unset, .unset, .unset, .unset, .unset, .unset] [(.double (FP.i2d p2)), (.int (2 : Int32)), (.ref b135), (.ref b135)]))
    obtain ⟨x2, hx2⟩ : ∃ z : UInt64, z = (FP.i2d p2) := ⟨_, rfl⟩
    rw [← hx2]
    show G (T140.setTop (mkF m 88 #[.val (.int p0), .val (.int p1), .val (.int p2), .val (.int p3), .val (.int p4), .val (.int p5), .val (.long s0), .second, .val (.long s1), .second, .val (.int (1 : Int32)), .val (.long (((2 : Int64) * s0) + (1 : Int64))), .second, .val (.long D1), .second, .unset, .unset, .unset, .unset, .unset, .unset, .unset, .unset, .unset] [(.double x2), (.int (2 : Int32)), (.ref b135), (.ref b135)]))
    obtain ⟨vc143, vA143, vq143, vS143, vN143, vH143, vG143⟩ := V_b135_q140
    have hin143 : ¬ ((2 : Int32) < 0 ∨ vc143.slots.size ≤ ((2 : Int32)).toNatClampNeg) := inb_of vS143 ⟨by decide, by decide⟩
    obtain ⟨T143, h143, X143, e143, W143, st143⟩ := stD X140 hx hZ e140 vA143 (j := (2 : Int32)) hin143 (g := (mkF m 88 #[.val (.int p0), .val (.int p1), .val (.int p2), .val (.int p3), .val (.int p4), .val (.int p5), .val (.long s0), .second, .val (.long s1), .second, .val (.int (1 : Int32)), .val (.long (((2 : Int64) * s0) + (1 : Int64))), .second, .val (.long D1), .second, .unset, .unset, .unset, .unset, .unset, .unset, .unset, .unset, .unset] [(.double x2), (.int (2 : Int32)), (.ref b135), (.ref b135)])) rfl rfl (hb hby at_88)
    have EA135_q144 := EA135_q141.wr W143
    have K145 := K142.wr W143 (Or.inr sz_b135)
    have V_b135_q143 := Arv.set vA143 vq143 vS143 vN143 vH143 vG143 rfl W143 2 rfl (Nat.le_of_ble_eq_true rfl)
    have N143 := Fr.snoc X143 N140 g_b135
    refine gs (fun t k => st143 _ k) ?_
    show G (T143.setTop (mkF m 89 #[.val (.int p0), .val (.int p1), .val (.int p2), .val (.int p3), .val (.int p4), .val (.int p5), .val (.long s0), .second, .val (.long s1), .second, .val (.int (1 : Int32)), .val (.long (((2 : Int64) * s0) + (1 : Int64))), .second, .val (.long D1), .second, .unset, .unset, .unset, .unset, .unset, .unset, .unset, .unset, .unset] [(.ref b135)]))
    refine gs (fun t k => XS.astore X143.here hx rfl (hb hby at_89) rfl rfl (l' := #[.val (.int p0), .val (.int p1), .val (.int p2), .val (.int p3), .val (.int p4), .val (.int p5), .val (.long s0), .second, .val (.long s1), .second, .val (.int (1 : Int32)), .val (.long (((2 : Int64) * s0) + (1 : Int64))), .second, .val (.long D1), .second, .val (.ref b135), .unset, .unset, .unset, .unset, .unset, .unset, .unset, .unset]) rfl k) ?_
    show G (T143.setTop (mkF m 91 #[.val (.int p0), .val (.int p1), .val (.int p2), .val (.int p3), .val (.int p4), .val (.int p5), .val (.long s0), .second, .val (.long s1), .second, .val (.int (1 : Int32)), .val (.long (((2 : Int64) * s0) + (1 : Int64))), .second, .val (.long D1), .second, .val (.ref b135), .unset, .unset, .unset, .unset, .unset, .unset, .unset, .unset] []))
    refine gs (fun t k => XS.iconst X143.here hx rfl (hb hby at_91) k) ?_
    show G (T143.setTop (mkF m 92 #[.val (.int p0), .val (.int p1), .val (.int p2), .val (.int p3), .val (.int p4), .val (.int p5), .val (.long s0), .second, .val (.long s1), .second, .val (.int (1 : Int32)), .val (.long (((2 : Int64) * s0) + (1 : Int64))), .second, .val (.long D1), .second, .val (.ref b135), .unset, .unset, .unset, .unset, .unset, .unset, .unset, .unset] [(.int (3 : Int32))]))
    obtain ⟨T146, h146, k146, X146, e146, E146, A146, EA146, st146⟩ := newPE X143 hx hZ (hw _ (List.mem_of_getElem? (i := 2) rfl)) e143 (g := (mkF m 92 #[.val (.int p0), .val (.int p1), .val (.int p2), .val (.int p3), .val (.int p4), .val (.int p5), .val (.long s0), .second, .val (.long s1), .second, .val (.int (1 : Int32)), .val (.long (((2 : Int64) * s0) + (1 : Int64))), .second, .val (.long D1), .second, .val (.ref b135), .unset, .unset, .unset, .unset, .unset, .unset, .unset, .unset] [(.int (3 : Int32))])) rfl (hb hby at_92) rfl (by decide) (cap := 3) (by decide) (by decide) (by decide) (by decide) (ad := "[I") rfl
    obtain ⟨b146, g146⟩ : ∃ z, z = h143.size := ⟨_, rfl⟩
    rw [← g146] at A146 EA146 st146
    have sz_b146 : h0.size ≤ b146 := Nat.le_trans K145.1 (Nat.le_of_eq g146.symm)
    have g_b146 : n0 ≤ b146 := Nat.le_trans Z0 sz_b146
    have ne_b135_b146 : b135 ≠ b146 := Nat.ne_of_lt (Nat.lt_of_lt_of_le EA135_q144.lt (Nat.le_of_eq g146.symm))
    have EA135_q147 := EA135_q144.ext E146
    have V_b135_q148 := V_b135_q143.ext E146
    have K149 := K145.ext E146
    have V_b146 : Arv Z h146 b146 k146 .int (3 : Int32) [(.int (0 : Int32)), (.int (0 : Int32)), (.int (0 : Int32))] (.int (0 : Int32)) := (Arv.new A146 (by decide)).pad (pad_rep [] (.int (0 : Int32)) 3)
    refine gs (fun t k => st146 _ k) ?_
    show G (T146.setTop (mkF m 94 #[.val (.int p0), .val (.int p1), .val (.int p2), .val (.int p3), .val (.int p4), .val (.int p5), .val (.long s0), .second, .val (.long s1), .second, .val (.int (1 : Int32)), .val (.long (((2 : Int64) * s0) + (1 : Int64))), .second, .val (.long D1), .second, .val (.ref b135), .unset, .unset, .unset, .unset, .unset, .unset, .unset, .unset] [(.ref b146)]))
    refine gs (fun t k => XS.dup X146.here hx rfl (hb hby at_94) rfl rfl k) ?_
    show G (T146.setTop (mkF m 95 #[.val (.int p0), .val (.int p1), .val (.int p2), .val (.int p3), .val (.int p4), .val (.int p5), .val (.long s0), .second, .val (.long s1), .second, .val (.int (1 : Int32)), .val (.long (((2 : Int64) * s0) + (1 : Int64))), .second, .val (.long D1), .second, .val (.ref b135), .unset, .unset, .unset, .unset, .unset, .unset, .unset, .unset] [(.ref b146), (.ref b146)]))
    refine gs (fun t k => XS.iconst X146.here hx rfl (hb hby at_95) k) ?_
    show G (T146.setTop (mkF m 96 #[.val (.int p0), .val (.int p1), .val (.int p2), .val (.int p3), .val (.int p4), .val (.int p5), .val (.long s0), .second, .val (.long s1), .second, .val (.int (1 : Int32)), .val (.long (((2 : Int64) * s0) + (1 : Int64))), .second, .val (.long D1), .second, .val (.ref b135), .unset, .unset, .unset, .unset, .unset, .unset, .unset, .unset] [(.int (0 : Int32)), (.ref b146), (.ref b146)]))
    refine gs (fun t k => XS.iconst X146.here hx rfl (hb hby at_96) k) ?_
    show G (T146.setTop (mkF m 97 #[.val (.int p0), .val (.int p1), .val (.int p2), .val (.int p3), .val (.int p4), .val (.int p5), .val (.long s0), .second, .val (.long s1), .second, .val (.int (1 : Int32)), .val (.long (((2 : Int64) * s0) + (1 : Int64))), .second, .val (.long D1), .second, .val (.ref b135), .unset, .unset, .unset, .unset, .unset, .unset, .unset, .unset] [(.int (0 : Int32)), (.int (0 : Int32)), (.ref b146), (.ref b146)]))
    obtain ⟨vc150, vA150, vq150, vS150, vN150, vH150, vG150⟩ := V_b146
    have hin150 : ¬ ((0 : Int32) < 0 ∨ vc150.slots.size ≤ ((0 : Int32)).toNatClampNeg) := inb_of vS150 ⟨by decide, by decide⟩
    obtain ⟨T150, h150, X150, e150, W150, st150⟩ := stI X146 hx hZ e146 vA150 (j := (0 : Int32)) hin150 (g := (mkF m 97 #[.val (.int p0), .val (.int p1), .val (.int p2), .val (.int p3), .val (.int p4), .val (.int p5), .val (.long s0), .second, .val (.long s1), .second, .val (.int (1 : Int32)), .val (.long (((2 : Int64) * s0) + (1 : Int64))), .second, .val (.long D1), .second, .val (.ref b135), .unset, .unset, .unset, .unset, .unset, .unset, .unset, .unset] [(.int (0 : Int32)), (.int (0 : Int32)), (.ref b146), (.ref b146)])) rfl rfl (hb hby at_97)
    have EA135_q151 := EA135_q147.wr W150
    have V_b135_q152 := V_b135_q148.other W150 ne_b135_b146
    have EA146_q153 := EA146.wr W150
    have K154 := K149.wr W150 (Or.inr sz_b146)
    have V_b146_q150 := Arv.set vA150 vq150 vS150 vN150 vH150 vG150 rfl W150 0 rfl (Nat.le_of_ble_eq_true rfl)
    have N150 := Fr.snoc X150 N143 g_b146
    refine gs (fun t k => st150 _ k) ?_
    show G (T150.setTop (mkF m 98 #[.val (.int p0), .val (.int p1), .val (.int p2), .val (.int p3), .val (.int p4), .val (.int p5), .val (.long s0), .second, .val (.long s1), .second, .val (.int (1 : Int32)), .val (.long (((2 : Int64) * s0) + (1 : Int64))), .second, .val (.long D1), .second, .val (.ref b135), .unset, .unset, .unset, .unset, .unset, .unset, .unset, .unset] [(.ref b146)]))
    refine gs (fun t k => XS.dup X150.here hx rfl (hb hby at_98) rfl rfl k) ?_
    show G (T150.setTop (mkF m 99 #[.val (.int p0), .val (.int p1), .val (.int p2), .val (.int p3), .val (.int p4), .val (.int p5), .val (.long s0), .second, .val (.long s1), .second, .val (.int (1 : Int32)), .val (.long (((2 : Int64) * s0) + (1 : Int64))), .second, .val (.long D1), .second, .val (.ref b135), .unset, .unset, .unset, .unset, .unset, .unset, .unset, .unset] [(.ref b146), (.ref b146)]))
    refine gs (fun t k => XS.iconst X150.here hx rfl (hb hby at_99) k) ?_
    show G (T150.setTop (mkF m 100 #[.val (.int p0), .val (.int p1), .val (.int p2), .val (.int p3), .val (.int p4), .val (.int p5), .val (.long s0), .second, .val (.long s1), .second, .val (.int (1 : Int32)), .val (.long (((2 : Int64) * s0) + (1 : Int64))), .second, .val (.long D1), .second, .val (.ref b135), .unset, .unset, .unset, .unset, .unset, .unset, .unset, .unset] [(.int (1 : Int32)), (.ref b146), (.ref b146)]))
    refine gs (fun t k => XS.iconst X150.here hx rfl (hb hby at_100) k) ?_
    show G (T150.setTop (mkF m 101 #[.val (.int p0), .val (.int p1), .val (.int p2), .val (.int p3), .val (.int p4), .val (.int p5), .val (.long s0), .second, .val (.long s1), .second, .val (.int (1 : Int32)), .val (.long (((2 : Int64) * s0) + (1 : Int64))), .second, .val (.long D1), .second, .val (.ref b135), .unset, .unset, .unset, .unset, .unset, .unset, .unset, .unset] [(.int (1 : Int32)), (.int (1 : Int32)), (.ref b146), (.ref b146)]))
    obtain ⟨vc155, vA155, vq155, vS155, vN155, vH155, vG155⟩ := V_b146_q150
    have hin155 : ¬ ((1 : Int32) < 0 ∨ vc155.slots.size ≤ ((1 : Int32)).toNatClampNeg) := inb_of vS155 ⟨by decide, by decide⟩
    obtain ⟨T155, h155, X155, e155, W155, st155⟩ := stI X150 hx hZ e150 vA155 (j := (1 : Int32)) hin155 (g := (mkF m 101 #[.val (.int p0), .val (.int p1), .val (.int p2), .val (.int p3), .val (.int p4), .val (.int p5), .val (.long s0), .second, .val (.long s1), .second, .val (.int (1 : Int32)), .val (.long (((2 : Int64) * s0) + (1 : Int64))), .second, .val (.long D1), .second, .val (.ref b135), .unset, .unset, .unset, .unset, .unset, .unset, .unset, .unset] [(.int (1 : Int32)), (.int (1 : Int32)), (.ref b146), (.ref b146)])) rfl rfl (hb hby at_101)
    have EA135_q156 := EA135_q151.wr W155
    have V_b135_q157 := V_b135_q152.other W155 ne_b135_b146
    have EA146_q158 := EA146_q153.wr W155
    have K159 := K154.wr W155 (Or.inr sz_b146)
    have V_b146_q155 := Arv.set vA155 vq155 vS155 vN155 vH155 vG155 rfl W155 1 rfl (Nat.le_of_ble_eq_true rfl)
    have N155 := Fr.snoc X155 N150 g_b146
    refine gs (fun t k => st155 _ k) ?_
    show G (T155.setTop (mkF m 102 #[.val (.int p0), .val (.int p1), .val (.int p2), .val (.int p3), .val (.int p4), .val (.int p5), .val (.long s0), .second, .val (.long s1), .second, .val (.int (1 : Int32)), .val (.long (((2 : Int64) * s0) + (1 : Int64))), .second, .val (.long D1), .second, .val (.ref b135), .unset, .unset, .unset, .unset, .unset, .unset, .unset, .unset] [(.ref b146)]))
    refine gs (fun t k => XS.dup X155.here hx rfl (hb hby at_102) rfl rfl k) ?_
    show G (T155.setTop (mkF m 103 #[.val (.int p0), .val (.int p1), .val (.int p2), .val (.int p3), .val (.int p4), .val (.int p5), .val (.long s0), .second, .val (.long s1), .second, .val (.int (1 : Int32)), .val (.long (((2 : Int64) * s0) + (1 : Int64))), .second, .val (.long D1), .second, .val (.ref b135), .unset, .unset, .unset, .unset, .unset, .unset, .unset, .unset] [(.ref b146), (.ref b146)]))
    refine gs (fun t k => XS.iconst X155.here hx rfl (hb hby at_103) k) ?_
    show G (T155.setTop (mkF m 104 #[.val (.int p0), .val (.int p1), .val (.int p2), .val (.int p3), .val (.int p4), .val (.int p5), .val (.long s0), .second, .val (.long s1), .second, .val (.int (1 : Int32)), .val (.long (((2 : Int64) * s0) + (1 : Int64))), .second, .val (.long D1), .second, .val (.ref b135), .unset, .unset, .unset, .unset, .unset, .unset, .unset, .unset] [(.int (2 : Int32)), (.ref b146), (.ref b146)]))
    refine gs (fun t k => XS.iconst X155.here hx rfl (hb hby at_104) k) ?_
    show G (T155.setTop (mkF m 105 #[.val (.int p0), .val (.int p1), .val (.int p2), .val (.int p3), .val (.int p4), .val (.int p5), .val (.long s0), .second, .val (.long s1), .second, .val (.int (1 : Int32)), .val (.long (((2 : Int64) * s0) + (1 : Int64))), .second, .val (.long D1), .second, .val (.ref b135), .unset, .unset, .unset, .unset, .unset, .unset, .unset, .unset] [(.int (2 : Int32)), (.int (2 : Int32)), (.ref b146), (.ref b146)]))
    obtain ⟨vc160, vA160, vq160, vS160, vN160, vH160, vG160⟩ := V_b146_q155
    have hin160 : ¬ ((2 : Int32) < 0 ∨ vc160.slots.size ≤ ((2 : Int32)).toNatClampNeg) := inb_of vS160 ⟨by decide, by decide⟩
    obtain ⟨T160, h160, X160, e160, W160, st160⟩ := stI X155 hx hZ e155 vA160 (j := (2 : Int32)) hin160 (g := (mkF m 105 #[.val (.int p0), .val (.int p1), .val (.int p2), .val (.int p3), .val (.int p4), .val (.int p5), .val (.long s0), .second, .val (.long s1), .second, .val (.int (1 : Int32)), .val (.long (((2 : Int64) * s0) + (1 : Int64))), .second, .val (.long D1), .second, .val (.ref b135), .unset, .unset, .unset, .unset, .unset, .unset, .unset, .unset] [(.int (2 : Int32)), (.int (2 : Int32)), (.ref b146), (.ref b146)])) rfl rfl (hb hby at_105)
    have EA135_q161 := EA135_q156.wr W160
    have V_b135_q162 := V_b135_q157.other W160 ne_b135_b146
    have EA146_q163 := EA146_q158.wr W160
    have K164 := K159.wr W160 (Or.inr sz_b146)
    have V_b146_q160 := Arv.set vA160 vq160 vS160 vN160 vH160 vG160 rfl W160 2 rfl (Nat.le_of_ble_eq_true rfl)
    have N160 := Fr.snoc X160 N155 g_b146
    refine gs (fun t k => st160 _ k) ?_
    show G (T160.setTop (mkF m 106 #[.val (.int p0), .val (.int p1), .val (.int p2), .val (.int p3), .val (.int p4), .val (.int p5), .val (.long s0), .second, .val (.long s1), .second, .val (.int (1 : Int32)), .val (.long (((2 : Int64) * s0) + (1 : Int64))), .second, .val (.long D1), .second, .val (.ref b135), .unset, .unset, .unset, .unset, .unset, .unset, .unset, .unset] [(.ref b146)]))
    refine gs (fun t k => XS.astore X160.here hx rfl (hb hby at_106) rfl rfl (l' := #[.val (.int p0), .val (.int p1), .val (.int p2), .val (.int p3), .val (.int p4), .val (.int p5), .val (.long s0), .second, .val (.long s1), .second, .val (.int (1 : Int32)), .val (.long (((2 : Int64) * s0) + (1 : Int64))), .second, .val (.long D1), .second, .val (.ref b135), .val (.ref b146), .unset, .unset, .unset, .unset, .unset, .unset, .unset]) rfl k) ?_
    show G (T160.setTop (mkF m 108 #[.val (.int p0), .val (.int p1), .val (.int p2), .val (.int p3), .val (.int p4), .val (.int p5), .val (.long s0), .second, .val (.long s1), .second, .val (.int (1 : Int32)), .val (.long (((2 : Int64) * s0) + (1 : Int64))), .second, .val (.long D1), .second, .val (.ref b135), .val (.ref b146), .unset, .unset, .unset, .unset, .unset, .unset, .unset] []))
    obtain ⟨T165, h165, X165, e165, E165, A165, D165, -, st165⟩ := newO X160 hx hZ hown (hw _ (List.mem_of_getElem? (i := 3) rfl)) (hw _ (List.mem_of_getElem? (i := 4) rfl)) (hw _ (List.mem_of_getElem? (i := 5) rfl)) e160 (g := (mkF m 108 #[.val (.int p0), .val (.int p1), .val (.int p2), .val (.int p3), .val (.int p4), .val (.int p5), .val (.long s0), .second, .val (.long s1), .second, .val (.int (1 : Int32)), .val (.long (((2 : Int64) * s0) + (1 : Int64))), .second, .val (.long D1), .second, .val (.ref b135), .val (.ref b146), .unset, .unset, .unset, .unset, .unset, .unset, .unset] [])) rfl (hb hby at_108) (by decide) (by decide)
    obtain ⟨b165, g165⟩ : ∃ z, z = h160.size := ⟨_, rfl⟩
    rw [← g165] at A165 D165 st165
    have sz_b165 : h0.size ≤ b165 := Nat.le_trans K164.1 (Nat.le_of_eq g165.symm)
    have g_b165 : n0 ≤ b165 := Nat.le_trans Z0 sz_b165
    have ne_b135_b165 : b135 ≠ b165 := Nat.ne_of_lt (Nat.lt_of_lt_of_le EA135_q161.lt (Nat.le_of_eq g165.symm))
    have ne_b146_b165 : b146 ≠ b165 := Nat.ne_of_lt (Nat.lt_of_lt_of_le EA146_q163.lt (Nat.le_of_eq g165.symm))
    have EA135_q166 := EA135_q161.ext E165
    have V_b135_q167 := V_b135_q162.ext E165
    have EA146_q168 := EA146_q163.ext E165
    have V_b146_q169 := V_b146_q160.ext E165
    have K170 := K164.ext E165
    have E_b165 := A165
    have F_weights_b165 : Fld Z h165 b165 "com/example/consensus_to_coverage/consensustocoverage/reranking/ProportionalSeats" "weights" "[D" .null := D165 (Or.inr (hw _ (List.mem_of_getElem? (i := 22) rfl))) (ty := (.array .double)) (by decide)
    have F_places_b165 : Fld Z h165 b165 "com/example/consensus_to_coverage/consensustocoverage/reranking/ProportionalSeats" "places" "[I" .null := D165 (Or.inr (hw _ (List.mem_of_getElem? (i := 30) rfl))) (ty := (.array .int)) (by decide)
    have F_seats_b165 : Fld Z h165 b165 "com/example/consensus_to_coverage/consensustocoverage/reranking/ProportionalSeats" "seats" "[D" .null := D165 (Or.inr (hw _ (List.mem_of_getElem? (i := 32) rfl))) (ty := (.array .double)) (by decide)
    refine gs (fun t k => st165 _ k) ?_
    show G (T165.setTop (mkF m 111 #[.val (.int p0), .val (.int p1), .val (.int p2), .val (.int p3), .val (.int p4), .val (.int p5), .val (.long s0), .second, .val (.long s1), .second, .val (.int (1 : Int32)), .val (.long (((2 : Int64) * s0) + (1 : Int64))), .second, .val (.long D1), .second, .val (.ref b135), .val (.ref b146), .unset, .unset, .unset, .unset, .unset, .unset, .unset] [(.ref b165)]))
    refine gs (fun t k => XS.dup X165.here hx rfl (hb hby at_111) rfl rfl k) ?_
    show G (T165.setTop (mkF m 112 #[.val (.int p0), .val (.int p1), .val (.int p2), .val (.int p3), .val (.int p4), .val (.int p5), .val (.long s0), .second, .val (.long s1), .second, .val (.int (1 : Int32)), .val (.long (((2 : Int64) * s0) + (1 : Int64))), .second, .val (.long D1), .second, .val (.ref b135), .val (.ref b146), .unset, .unset, .unset, .unset, .unset, .unset, .unset] [(.ref b165), (.ref b165)]))
    refine gs (fun t k => XS.aload X165.here hx rfl (hb hby at_112) rfl rfl k) ?_
    show G (T165.setTop (mkF m 114 #[.val (.int p0), .val (.int p1), .val (.int p2), .val (.int p3), .val (.int p4), .val (.int p5), .val (.long s0), .second, .val (.long s1), .second, .val (.int (1 : Int32)), .val (.long (((2 : Int64) * s0) + (1 : Int64))), .second, .val (.long D1), .second, .val (.ref b135), .val (.ref b146), .unset, .unset, .unset, .unset, .unset, .unset, .unset] [(.ref b135), (.ref b165), (.ref b165)]))
    refine gs (fun t k => XS.aload X165.here hx rfl (hb hby at_114) rfl rfl k) ?_
    show G (T165.setTop (mkF m 116 #[.val (.int p0), .val (.int p1), .val (.int p2), .val (.int p3), .val (.int p4), .val (.int p5), .val (.long s0), .second, .val (.long s1), .second, .val (.int (1 : Int32)), .val (.long (((2 : Int64) * s0) + (1 : Int64))), .second, .val (.long D1), .second, .val (.ref b135), .val (.ref b146), .unset, .unset, .unset, .unset, .unset, .unset, .unset] [(.ref b146), (.ref b135), (.ref b165), (.ref b165)]))
    obtain ⟨_, _, ⟨T171, L171, k171, n171⟩, -, X171, ⟨Lc171, hQ171, l171, y171, z171⟩, st171⟩ := X165.specialBack hx (y := (⟨"com/example/consensus_to_coverage/consensustocoverage/reranking/ProportionalSeats", "<init>", "([D[I)V"⟩ : MethodName)) rfl hown (mvT hZ (hw _ (List.mem_of_getElem? (i := 6) rfl))) (mvT hZ (hw _ (List.mem_of_getElem? (i := 7) rfl))) (mvT hZ (hw _ (List.mem_of_getElem? (i := 8) rfl))) (by decide) (backOf (W := 1) (rm1 l Z a0 hw [] b165 b135 b146 x0 x1 x2 _ _ h165 n0 (Nat.le_trans Z0 K170.1) E_b165 F_weights_b165 F_places_b165 F_seats_b165 g_b165 EA135_q166 EA146_q168 V_b135_q167 V_b146_q169 ne_b135_b165 ne_b146_b165) hZ (hw _ (List.mem_of_getElem? (i := 8) rfl)) (hw _ (List.mem_of_getElem? (i := 5) rfl)) (by decide) (by decide)) (g := (mkF m 116 #[.val (.int p0), .val (.int p1), .val (.int p2), .val (.int p3), .val (.int p4), .val (.int p5), .val (.long s0), .second, .val (.long s1), .second, .val (.int (1 : Int32)), .val (.long (((2 : Int64) * s0) + (1 : Int64))), .second, .val (.long D1), .second, .val (.ref b135), .val (.ref b146), .unset, .unset, .unset, .unset, .unset, .unset, .unset] [(.ref b146), (.ref b135), (.ref b165), (.ref b165)])) rfl (by rw [hml]; rfl) (Steps.refl _) (a := b165) (argsL := [(.ref b135), (.ref b146)]) (rest := [(.ref b165)]) (lenOf pd_0 rfl) rfl (by show 2 * 0 + _ ≤ _; exact Nat.le_of_eq rfl) (hb hby at_116) (fun _ _ => ⟨rfl, e165, (by decide : 3 + 3 ≤ _), (by decide : 9 + 9 ≤ _)⟩)
    dsimp only [Pt.U, Pt.locs, Pt.cells, Pt.slots] at X171 l171 y171 z171 st171 hQ171
    subst y171 z171
    obtain ⟨rfl, N171q, Kc171, Ex171, rs171⟩ := hQ171
    have N171 : Fr n0 L171 := by rw [l171]; exact Fr.app N160 N171q
    refine gs (fun t k => st171.trans k) ?_
    have EA135_q172 := EA135_q166.keep Kc171
    have V_b135_q173 := V_b135_q167.keep Kc171 (ninS ne_b135_b165 nin0)
    have EA146_q174 := EA146_q168.keep Kc171
    have V_b146_q175 := V_b146_q169.keep Kc171 (ninS ne_b146_b165 nin0)
    have E_b165_q176 := E_b165.keep Kc171
    have K177 := K170.trans Kc171 (allS (Or.inr sz_b165) all0)
    obtain ⟨bw, bs, kw, ks, szw, szs, nws, Fw171, Fs171, Vw171, Vs171⟩ := rs171
    have ne_b135_bw : b135 ≠ bw := Nat.ne_of_lt (Nat.lt_of_lt_of_le V_b135_q167.lt szw)
    have ne_b135_bs : b135 ≠ bs := Nat.ne_of_lt (Nat.lt_of_lt_of_le V_b135_q167.lt szs)
    have ne_b146_bw : b146 ≠ bw := Nat.ne_of_lt (Nat.lt_of_lt_of_le V_b146_q169.lt szw)
    have ne_b146_bs : b146 ≠ bs := Nat.ne_of_lt (Nat.lt_of_lt_of_le V_b146_q169.lt szs)
    have ne_b165_bw : b165 ≠ bw := Nat.ne_of_lt (Nat.lt_of_lt_of_le E_b165.lt szw)
    have ne_b165_bs : b165 ≠ bs := Nat.ne_of_lt (Nat.lt_of_lt_of_le E_b165.lt szs)
    have sz_bs : h0.size ≤ bs := Nat.le_trans K170.1 szs
    have g_bs : n0 ≤ bs := Nat.le_trans Z0 sz_bs
    show G (T171.setTop (mkF m 119 #[.val (.int p0), .val (.int p1), .val (.int p2), .val (.int p3), .val (.int p4), .val (.int p5), .val (.long s0), .second, .val (.long s1), .second, .val (.int (1 : Int32)), .val (.long (((2 : Int64) * s0) + (1 : Int64))), .second, .val (.long D1), .second, .val (.ref b135), .val (.ref b146), .unset, .unset, .unset, .unset, .unset, .unset, .unset] [(.ref b165)]))
    refine gs (fun t k => XS.astore X171.here hx rfl (hb hby at_119) rfl rfl (l' := #[.val (.int p0), .val (.int p1), .val (.int p2), .val (.int p3), .val (.int p4), .val (.int p5), .val (.long s0), .second, .val (.long s1), .second, .val (.int (1 : Int32)), .val (.long (((2 : Int64) * s0) + (1 : Int64))), .second, .val (.long D1), .second, .val (.ref b135), .val (.ref b146), .val (.ref b165), .unset, .unset, .unset, .unset, .unset, .unset]) rfl k) ?_
    show G (T171.setTop (mkF m 121 #[.val (.int p0), .val (.int p1), .val (.int p2), .val (.int p3), .val (.int p4), .val (.int p5), .val (.long s0), .second, .val (.long s1), .second, .val (.int (1 : Int32)), .val (.long (((2 : Int64) * s0) + (1 : Int64))), .second, .val (.long D1), .second, .val (.ref b135), .val (.ref b146), .val (.ref b165), .unset, .unset, .unset, .unset, .unset, .unset] []))
    refine gs (fun t k => XS.aload X171.here hx rfl (hb hby at_121) rfl rfl k) ?_
    show G (T171.setTop (mkF m 123 #[.val (.int p0), .val (.int p1), .val (.int p2), .val (.int p3), .val (.int p4), .val (.int p5), .val (.long s0), .second, .val (.long s1), .second, .val (.int (1 : Int32)), .val (.long (((2 : Int64) * s0) + (1 : Int64))), .second, .val (.long D1), .second, .val (.ref b135), .val (.ref b146), .val (.ref b165), .unset, .unset, .unset, .unset, .unset, .unset] [(.ref b135)]))
    refine gs (fun t k => XS.iconst X171.here hx rfl (hb hby at_123) k) ?_
    show G (T171.setTop (mkF m 124 #[.val (.int p0), .val (.int p1), .val (.int p2), .val (.int p3), .val (.int p4), .val (.int p5), .val (.long s0), .second, .val (.long s1), .second, .val (.int (1 : Int32)), .val (.long (((2 : Int64) * s0) + (1 : Int64))), .second, .val (.long D1), .second, .val (.ref b135), .val (.ref b146), .val (.ref b165), .unset, .unset, .unset, .unset, .unset, .unset] [(.int (0 : Int32)), (.ref b135)]))
    refine gs (fun t k => XS.dconst1 X171.here hx rfl (hb hby at_124) rfl k) ?_
    show G (T171.setTop (mkF m 125 #[.val (.int p0), .val (.int p1), .val (.int p2), .val (.int p3), .val (.int p4), .val (.int p5), .val (.long s0), .second, .val (.long s1), .second, .val (.int (1 : Int32)), .val (.long (((2 : Int64) * s0) + (1 : Int64))), .second, .val (.long D1), .second, .val (.ref b135), .val (.ref b146), .val (.ref b165), .unset, .unset, .unset, .unset, .unset, .unset] [(.double FP.dconst1), (.int (0 : Int32)), (.ref b135)]))
    obtain ⟨vc178, vA178, vq178, vS178, vN178, vH178, vG178⟩ := V_b135_q173
    have hin178 : ¬ ((0 : Int32) < 0 ∨ vc178.slots.size ≤ ((0 : Int32)).toNatClampNeg) := inb_of vS178 ⟨by decide, by decide⟩
    obtain ⟨T178, h178, X178, e178, W178, st178⟩ := stD X171 hx hZ rfl vA178 (j := (0 : Int32)) hin178 (g := (mkF m 125 #[.val (.int p0), .val (.int p1), .val (.int p2), .val (.int p3), .val (.int p4), .val (.int p5), .val (.long s0), .second, .val (.long s1), .second, .val (.int (1 : Int32)), .val (.long (((2 : Int64) * s0) + (1 : Int64))), .second, .val (.long D1), .second, .val (.ref b135), .val (.ref b146), .val (.ref b165), .unset, .unset, .unset, .unset, .unset, .unset] [(.double FP.dconst1), (.int (0 : Int32)), (.ref b135)])) rfl rfl (hb hby at_125)
    have EA135_q179 := EA135_q172.wr W178
    have EA146_q180 := EA146_q174.wr W178
    have V_b146_q181 := V_b146_q175.other W178 (Ne.symm ne_b135_b146)
    have Ex171_q182 := Ex171.wr W178
    have Fw171_q183 := Fw171.other W178 (Or.inl (Ne.symm ne_b135_b165))
    have Fs171_q184 := Fs171.other W178 (Or.inl (Ne.symm ne_b135_b165))
    have Vw171_q185 := Vw171.other W178 (Ne.symm ne_b135_bw)
    have Vs171_q186 := Vs171.other W178 (Ne.symm ne_b135_bs)
    have K187 := K177.wr W178 (Or.inr sz_b135)
    have V_b135_q178 := Arv.set vA178 vq178 vS178 vN178 vH178 vG178 rfl W178 0 rfl (Nat.le_of_ble_eq_true rfl)
    have N178 := Fr.snoc X178 N171 g_b135
    refine gs (fun t k => st178 _ k) ?_
    show G (T178.setTop (mkF m 126 #[.val (.int p0), .val (.int p1), .val (.int p2), .val (.int p3), .val (.int p4), .val (.int p5), .val (.long s0), .second, .val (.long s1), .second, .val (.int (1 : Int32)), .val (.long (((2 : Int64) * s0) + (1 : Int64))), .second, .val (.long D1), .second, .val (.ref b135), .val (.ref b146), .val (.ref b165), .unset, .unset, .unset, .unset, .unset, .unset] []))
    refine gs (fun t k => XS.aload X178.here hx rfl (hb hby at_126) rfl rfl k) ?_
    show G (T178.setTop (mkF m 128 #[.val (.int p0), .val (.int p1), .val (.int p2), .val (.int p3), .val (.int p4), .val (.int p5), .val (.long s0), .second, .val (.long s1), .second, .val (.int (1 : Int32)), .val (.long (((2 : Int64) * s0) + (1 : Int64))), .second, .val (.long D1), .second, .val (.ref b135), .val (.ref b146), .val (.ref b165), .unset, .unset, .unset, .unset, .unset, .unset] [(.ref b135)]))
    refine gs (fun t k => XS.iconst X178.here hx rfl (hb hby at_128) k) ?_
    show G (T178.setTop (mkF m 129 #[.val (.int p0), .val (.int p1), .val (.int p2), .val (.int p3), .val (.int p4), .val (.int p5), .val (.long s0), .second, .val (.long s1), .second, .val (.int (1 : Int32)), .val (.long (((2 : Int64) * s0) + (1 : Int64))), .second, .val (.long D1), .second, .val (.ref b135), .val (.ref b146), .val (.ref b165), .unset, .unset, .unset, .unset, .unset, .unset] [(.int (1 : Int32)), (.ref b135)]))
    refine gs (fun t k => XS.dconst1 X178.here hx rfl (hb hby at_129) rfl k) ?_
    show G (T178.setTop (mkF m 130 #[.val (.int p0), .val (.int p1), .val (.int p2), .val (.int p3), .val (.int p4), .val (.int p5), .val (.long s0), .second, .val (.long s1), .second, .val (.int (1 : Int32)), .val (.long (((2 : Int64) * s0) + (1 : Int64))), .second, .val (.long D1), .second, .val (.ref b135), .val (.ref b146), .val (.ref b165), .unset, .unset, .unset, .unset, .unset, .unset] [(.double FP.dconst1), (.int (1 : Int32)), (.ref b135)]))
    obtain ⟨vc188, vA188, vq188, vS188, vN188, vH188, vG188⟩ := V_b135_q178
    have hin188 : ¬ ((1 : Int32) < 0 ∨ vc188.slots.size ≤ ((1 : Int32)).toNatClampNeg) := inb_of vS188 ⟨by decide, by decide⟩
    obtain ⟨T188, h188, X188, e188, W188, st188⟩ := stD X178 hx hZ e178 vA188 (j := (1 : Int32)) hin188 (g := (mkF m 130 #[.val (.int p0), .val (.int p1), .val (.int p2), .val (.int p3), .val (.int p4), .val (.int p5), .val (.long s0), .second, .val (.long s1), .second, .val (.int (1 : Int32)), .val (.long (((2 : Int64) * s0) + (1 : Int64))), .second, .val (.long D1), .second, .val (.ref b135), .val (.ref b146), .val (.ref b165), .unset, .unset, .unset, .unset, .unset, .unset] [(.double FP.dconst1), (.int (1 : Int32)), (.ref b135)])) rfl rfl (hb hby at_130)
    have EA135_q189 := EA135_q179.wr W188
    have EA146_q190 := EA146_q180.wr W188
    have V_b146_q191 := V_b146_q181.other W188 (Ne.symm ne_b135_b146)
    have Ex171_q192 := Ex171_q182.wr W188
    have Fw171_q193 := Fw171_q183.other W188 (Or.inl (Ne.symm ne_b135_b165))
    have Fs171_q194 := Fs171_q184.other W188 (Or.inl (Ne.symm ne_b135_b165))
    have Vw171_q195 := Vw171_q185.other W188 (Ne.symm ne_b135_bw)
    have Vs171_q196 := Vs171_q186.other W188 (Ne.symm ne_b135_bs)
    have K197 := K187.wr W188 (Or.inr sz_b135)
    have V_b135_q188 := Arv.set vA188 vq188 vS188 vN188 vH188 vG188 rfl W188 1 rfl (Nat.le_of_ble_eq_true rfl)
    have N188 := Fr.snoc X188 N178 g_b135
    refine gs (fun t k => st188 _ k) ?_
    show G (T188.setTop (mkF m 131 #[.val (.int p0), .val (.int p1), .val (.int p2), .val (.int p3), .val (.int p4), .val (.int p5), .val (.long s0), .second, .val (.long s1), .second, .val (.int (1 : Int32)), .val (.long (((2 : Int64) * s0) + (1 : Int64))), .second, .val (.long D1), .second, .val (.ref b135), .val (.ref b146), .val (.ref b165), .unset, .unset, .unset, .unset, .unset, .unset] []))
    refine gs (fun t k => XS.aload X188.here hx rfl (hb hby at_131) rfl rfl k) ?_
    show G (T188.setTop (mkF m 133 #[.val (.int p0), .val (.int p1), .val (.int p2), .val (.int p3), .val (.int p4), .val (.int p5), .val (.long s0), .second, .val (.long s1), .second, .val (.int (1 : Int32)), .val (.long (((2 : Int64) * s0) + (1 : Int64))), .second, .val (.long D1), .second, .val (.ref b135), .val (.ref b146), .val (.ref b165), .unset, .unset, .unset, .unset, .unset, .unset] [(.ref b135)]))
    refine gs (fun t k => XS.iconst X188.here hx rfl (hb hby at_133) k) ?_
    show G (T188.setTop (mkF m 134 #[.val (.int p0), .val (.int p1), .val (.int p2), .val (.int p3), .val (.int p4), .val (.int p5), .val (.long s0), .second, .val (.long s1), .second, .val (.int (1 : Int32)), .val (.long (((2 : Int64) * s0) + (1 : Int64))), .second, .val (.long D1), .second, .val (.ref b135), .val (.ref b146), .val (.ref b165), .unset, .unset, .unset, .unset, .unset, .unset] [(.int (2 : Int32)), (.ref b135)]))
    refine gs (fun t k => XS.dconst1 X188.here hx rfl (hb hby at_134) rfl k) ?_
    show G (T188.setTop (mkF m 135 #[.val (.int p0), .val (.int p1), .val (.int p2), .val (.int p3), .val (.int p4), .val (.int p5), .val (.long s0), .second, .val (.long s1), .second, .val (.int (1 : Int32)), .val (.long (((2 : Int64) * s0) + (1 : Int64))), .second, .val (.long D1), .second, .val (.ref b135), .val (.ref b146), .val (.ref b165), .unset, .unset, .unset, .unset, .unset, .unset] [(.double FP.dconst1), (.int (2 : Int32)), (.ref b135)]))
    obtain ⟨vc198, vA198, vq198, vS198, vN198, vH198, vG198⟩ := V_b135_q188
    have hin198 : ¬ ((2 : Int32) < 0 ∨ vc198.slots.size ≤ ((2 : Int32)).toNatClampNeg) := inb_of vS198 ⟨by decide, by decide⟩
    obtain ⟨T198, h198, X198, e198, W198, st198⟩ := stD X188 hx hZ e188 vA198 (j := (2 : Int32)) hin198 (g := (mkF m 135 #[.val (.int p0), .val (.int p1), .val (.int p2), .val (.int p3), .val (.int p4), .val (.int p5), .val (.long s0), .second, .val (.long s1), .second, .val (.int (1 : Int32)), .val (.long (((2 : Int64) * s0) + (1 : Int64))), .second, .val (.long D1), .second, .val (.ref b135), .val (.ref b146), .val (.ref b165), .unset, .unset, .unset, .unset, .unset, .unset] [(.double FP.dconst1), (.int (2 : Int32)), (.ref b135)])) rfl rfl (hb hby at_135)
    have EA135_q199 := EA135_q189.wr W198
    have EA146_q200 := EA146_q190.wr W198
    have V_b146_q201 := V_b146_q191.other W198 (Ne.symm ne_b135_b146)
    have Ex171_q202 := Ex171_q192.wr W198
    have Fw171_q203 := Fw171_q193.other W198 (Or.inl (Ne.symm ne_b135_b165))
    have Fs171_q204 := Fs171_q194.other W198 (Or.inl (Ne.symm ne_b135_b165))
    have Vw171_q205 := Vw171_q195.other W198 (Ne.symm ne_b135_bw)
    have Vs171_q206 := Vs171_q196.other W198 (Ne.symm ne_b135_bs)
    have K207 := K197.wr W198 (Or.inr sz_b135)
    have V_b135_q198 := Arv.set vA198 vq198 vS198 vN198 vH198 vG198 rfl W198 2 rfl (Nat.le_of_ble_eq_true rfl)
    have N198 := Fr.snoc X198 N188 g_b135
    refine gs (fun t k => st198 _ k) ?_
    show G (T198.setTop (mkF m 136 #[.val (.int p0), .val (.int p1), .val (.int p2), .val (.int p3), .val (.int p4), .val (.int p5), .val (.long s0), .second, .val (.long s1), .second, .val (.int (1 : Int32)), .val (.long (((2 : Int64) * s0) + (1 : Int64))), .second, .val (.long D1), .second, .val (.ref b135), .val (.ref b146), .val (.ref b165), .unset, .unset, .unset, .unset, .unset, .unset] []))
    refine gs (fun t k => XS.lload X198.here hx rfl (hb hby at_136) rfl k) ?_
    show G (T198.setTop (mkF m 138 #[.val (.int p0), .val (.int p1), .val (.int p2), .val (.int p3), .val (.int p4), .val (.int p5), .val (.long s0), .second, .val (.long s1), .second, .val (.int (1 : Int32)), .val (.long (((2 : Int64) * s0) + (1 : Int64))), .second, .val (.long D1), .second, .val (.ref b135), .val (.ref b146), .val (.ref b165), .unset, .unset, .unset, .unset, .unset, .unset] [(.long s0)]))
    refine gs (fun t k => XS.iconst X198.here hx rfl (hb hby at_138) k) ?_
    show G (T198.setTop (mkF m 139 #[.val (.int p0), .val (.int p1), .val (.int p2), .val (.int p3), .val (.int p4), .val (.int p5), .val (.long s0), .second, .val (.long s1), .second, .val (.int (1 : Int32)), .val (.long (((2 : Int64) * s0) + (1 : Int64))), .second, .val (.long D1), .second, .val (.ref b135), .val (.ref b146), .val (.ref b165), .unset, .unset, .unset, .unset, .unset, .unset] [(.int (1 : Int32)), (.long s0)]))
    refine gs (fun t k => XS.lshr X198.here hx rfl (hb hby at_139) rfl k) ?_
    show G (T198.setTop (mkF m 140 #[.val (.int p0), .val (.int p1), .val (.int p2), .val (.int p3), .val (.int p4), .val (.int p5), .val (.long s0), .second, .val (.long s1), .second, .val (.int (1 : Int32)), .val (.long (((2 : Int64) * s0) + (1 : Int64))), .second, .val (.long D1), .second, .val (.ref b135), .val (.ref b146), .val (.ref b165), .unset, .unset, .unset, .unset, .unset, .unset] [(.long (s0 >>> ((1 : Int32) &&& 0x3f).toInt64))]))
    obtain ⟨aa, haa⟩ : ∃ z : Int64, z = (s0 >>> ((1 : Int32) &&& 0x3f).toInt64) := ⟨_, rfl⟩
    rw [← haa]
    show G (T198.setTop (mkF m 140 #[.val (.int p0), .val (.int p1), .val (.int p2), .val (.int p3), .val (.int p4), .val (.int p5), .val (.long s0), .second, .val (.long s1), .second, .val (.int (1 : Int32)), .val (.long (((2 : Int64) * s0) + (1 : Int64))), .second, .val (.long D1), .second, .val (.ref b135), .val (.ref b146), .val (.ref b165), .unset, .unset, .unset, .unset, .unset, .unset] [(.long aa)]))
    obtain ⟨Sa, Sb⟩ := own_hs S0 haa
    refine gs (fun t k => XS.lstore X198.here hx rfl (hb hby at_140) rfl (l' := #[.val (.int p0), .val (.int p1), .val (.int p2), .val (.int p3), .val (.int p4), .val (.int p5), .val (.long s0), .second, .val (.long s1), .second, .val (.int (1 : Int32)), .val (.long (((2 : Int64) * s0) + (1 : Int64))), .second, .val (.long D1), .second, .val (.ref b135), .val (.ref b146), .val (.ref b165), .val (.long aa), .second, .unset, .unset, .unset, .unset]) rfl k) ?_
    show G (T198.setTop (mkF m 142 #[.val (.int p0), .val (.int p1), .val (.int p2), .val (.int p3), .val (.int p4), .val (.int p5), .val (.long s0), .second, .val (.long s1), .second, .val (.int (1 : Int32)), .val (.long (((2 : Int64) * s0) + (1 : Int64))), .second, .val (.long D1), .second, .val (.ref b135), .val (.ref b146), .val (.ref b165), .val (.long aa), .second, .unset, .unset, .unset, .unset] []))
    refine gs (fun t k => XS.aload X198.here hx rfl (hb hby at_142) rfl rfl k) ?_
    show G (T198.setTop (mkF m 144 #[.val (.int p0), .val (.int p1), .val (.int p2), .val (.int p3), .val (.int p4), .val (.int p5), .val (.long s0), .second, .val (.long s1), .second, .val (.int (1 : Int32)), .val (.long (((2 : Int64) * s0) + (1 : Int64))), .second, .val (.long D1), .second, .val (.ref b135), .val (.ref b146), .val (.ref b165), .val (.long aa), .second, .unset, .unset, .unset, .unset] [(.ref b165)]))
    refine gs (fun t k => XS.iconst X198.here hx rfl (hb hby at_144) k) ?_
    show G (T198.setTop (mkF m 145 #[.val (.int p0), .val (.int p1), .val (.int p2), .val (.int p3), .val (.int p4), .val (.int p5), .val (.long s0), .second, .val (.long s1), .second, .val (.int (1 : Int32)), .val (.long (((2 : Int64) * s0) + (1 : Int64))), .second, .val (.long D1), .second, .val (.ref b135), .val (.ref b146), .val (.ref b165), .val (.long aa), .second, .unset, .unset, .unset, .unset] [(.int (0 : Int32)), (.ref b165)]))
    refine gs (fun t k => XS.lload X198.here hx rfl (hb hby at_145) rfl k) ?_
    show G (T198.setTop (mkF m 147 #[.val (.int p0), .val (.int p1), .val (.int p2), .val (.int p3), .val (.int p4), .val (.int p5), .val (.long s0), .second, .val (.long s1), .second, .val (.int (1 : Int32)), .val (.long (((2 : Int64) * s0) + (1 : Int64))), .second, .val (.long D1), .second, .val (.ref b135), .val (.ref b146), .val (.ref b165), .val (.long aa), .second, .unset, .unset, .unset, .unset] [(.long aa), (.int (0 : Int32)), (.ref b165)]))
    refine gs (fun t k => XS.l2dS X198.here hx rfl (hb hby at_147) rfl rfl k) ?_
    show G (T198.setTop (mkF m 148 #[.val (.int p0), .val (.int p1), .val (.int p2), .val (.int p3), .val (.int p4), .val (.int p5), .val (.long s0), .second, .val (.long s1), .second, .val (.int (1 : Int32)), .val (.long (((2 : Int64) * s0) + (1 : Int64))), .second, .val (.long D1), .second, .val (.ref b135), .val (.ref b146), .val (.ref b165), .val (.long aa), .second, .unset, .unset, .unset, .unset] [(.double (FP.l2d aa)), (.int (0 : Int32)), (.ref b165)]))
    obtain ⟨cq208, kq208, q208a, q208b, q208c⟩ := isOf hZ e198 Ex171_q202
    obtain ⟨_, _, ⟨T208, L208, k208, n208⟩, -, X208, ⟨Lc208, hQ208, l208, y208, z208⟩, st208⟩ := X198.virtualBack hx (y := (⟨"com/example/consensus_to_coverage/consensustocoverage/reranking/ProportionalSeats", "add", "(ID)V"⟩ : MethodName)) (z := (⟨"com/example/consensus_to_coverage/consensustocoverage/reranking/ProportionalSeats", "add", "(ID)V"⟩ : MethodName)) hown (mvT hZ (hw _ (List.mem_of_getElem? (i := 33) rfl))) (mvT hZ (hw _ (List.mem_of_getElem? (i := 34) rfl))) (notFace_of_selects (args := #[]) (mvT hZ (hw _ (List.mem_of_getElem? (i := 36) rfl)))) (mvT hZ (hw _ (List.mem_of_getElem? (i := 36) rfl))) (mvT hZ (hw _ (List.mem_of_getElem? (i := 35) rfl))) (by decide) (backOf (W := 0) (rm3a0 l Z a0 hw [] b165 (FP.l2d aa) bs ks 0 0 0 (FP.l2d aa) h198 n0 (Nat.le_trans Z0 K207.1) Fs171_q204 Vs171_q206 g_bs (own_a0 Sa) (nn_w rfl)) hZ (hw _ (List.mem_of_getElem? (i := 37) rfl)) (hw _ (List.mem_of_getElem? (i := 5) rfl)) (by decide) (by decide)) q208a q208c (g := (mkF m 148 #[.val (.int p0), .val (.int p1), .val (.int p2), .val (.int p3), .val (.int p4), .val (.int p5), .val (.long s0), .second, .val (.long s1), .second, .val (.int (1 : Int32)), .val (.long (((2 : Int64) * s0) + (1 : Int64))), .second, .val (.long D1), .second, .val (.ref b135), .val (.ref b146), .val (.ref b165), .val (.long aa), .second, .unset, .unset, .unset, .unset] [(.double (FP.l2d aa)), (.int (0 : Int32)), (.ref b165)])) rfl (by rw [hml]; rfl) (Steps.refl _) (argsL := [(.int (0 : Int32)), (.double (FP.l2d aa))]) (rest := []) (lenOf pd_1 rfl) rfl (by show 2 * 0 + _ ≤ _; exact Nat.le_of_eq rfl) (hb hby at_148) (fun _ _ => ⟨rfl, e198, (by decide : 6 + 0 ≤ _), (by decide : 18 + 0 ≤ _)⟩)
    dsimp only [Pt.U, Pt.locs, Pt.cells, Pt.slots] at X208 l208 y208 z208 st208 hQ208
    subst y208 z208
    obtain ⟨rfl, N208q, Kc208, Va208⟩ := hQ208
    have N208 : Fr n0 L208 := by rw [l208]; exact Fr.app N198 N208q
    refine gs (fun t k => st208.trans k) ?_
    have EA135_q209 := EA135_q199.keep Kc208
    have EA146_q210 := EA146_q200.keep Kc208
    have V_b146_q211 := V_b146_q201.keep Kc208 (ninS ne_b146_bs nin0)
    have Ex171_q212 := Ex171_q202.keep Kc208
    have Fw171_q213 := Fw171_q203.keep Kc208 (ninS ne_b165_bs nin0)
    have Fs171_q214 := Fs171_q204.keep Kc208 (ninS ne_b165_bs nin0)
    have Vw171_q215 := Vw171_q205.keep Kc208 (ninS nws nin0)
    have V_b135_q216 := V_b135_q198.keep Kc208 (ninS ne_b135_bs nin0)
    have K217 := K207.trans Kc208 (allS (Or.inr sz_bs) all0)
    show G (T208.setTop (mkF m 151 #[.val (.int p0), .val (.int p1), .val (.int p2), .val (.int p3), .val (.int p4), .val (.int p5), .val (.long s0), .second, .val (.long s1), .second, .val (.int (1 : Int32)), .val (.long (((2 : Int64) * s0) + (1 : Int64))), .second, .val (.long D1), .second, .val (.ref b135), .val (.ref b146), .val (.ref b165), .val (.long aa), .second, .unset, .unset, .unset, .unset] []))
    refine gs (fun t k => XS.aload X208.here hx rfl (hb hby at_151) rfl rfl k) ?_
    show G (T208.setTop (mkF m 153 #[.val (.int p0), .val (.int p1), .val (.int p2), .val (.int p3), .val (.int p4), .val (.int p5), .val (.long s0), .second, .val (.long s1), .second, .val (.int (1 : Int32)), .val (.long (((2 : Int64) * s0) + (1 : Int64))), .second, .val (.long D1), .second, .val (.ref b135), .val (.ref b146), .val (.ref b165), .val (.long aa), .second, .unset, .unset, .unset, .unset] [(.ref b165)]))
    refine gs (fun t k => XS.iconst X208.here hx rfl (hb hby at_153) k) ?_
    show G (T208.setTop (mkF m 154 #[.val (.int p0), .val (.int p1), .val (.int p2), .val (.int p3), .val (.int p4), .val (.int p5), .val (.long s0), .second, .val (.long s1), .second, .val (.int (1 : Int32)), .val (.long (((2 : Int64) * s0) + (1 : Int64))), .second, .val (.long D1), .second, .val (.ref b135), .val (.ref b146), .val (.ref b165), .val (.long aa), .second, .unset, .unset, .unset, .unset] [(.int (0 : Int32)), (.ref b165)]))
    refine gs (fun t k => XS.lload X208.here hx rfl (hb hby at_154) rfl k) ?_
    show G (T208.setTop (mkF m 156 #[.val (.int p0), .val (.int p1), .val (.int p2), .val (.int p3), .val (.int p4), .val (.int p5), .val (.long s0), .second, .val (.long s1), .second, .val (.int (1 : Int32)), .val (.long (((2 : Int64) * s0) + (1 : Int64))), .second, .val (.long D1), .second, .val (.ref b135), .val (.ref b146), .val (.ref b165), .val (.long aa), .second, .unset, .unset, .unset, .unset] [(.long s0), (.int (0 : Int32)), (.ref b165)]))
    refine gs (fun t k => XS.lload X208.here hx rfl (hb hby at_156) rfl k) ?_
    show G (T208.setTop (mkF m 158 #[.val (.int p0), .val (.int p1), .val (.int p2), .val (.int p3), .val (.int p4), .val (.int p5), .val (.long s0), .second, .val (.long s1), .second, .val (.int (1 : Int32)), .val (.long (((2 : Int64) * s0) + (1 : Int64))), .second, .val (.long D1), .second, .val (.ref b135), .val (.ref b146), .val (.ref b165), .val (.long aa), .second, .unset, .unset, .unset, .unset] [(.long aa), (.long s0), (.int (0 : Int32)), (.ref b165)]))
    refine gs (fun t k => XS.lsub X208.here hx rfl (hb hby at_158) rfl k) ?_
    show G (T208.setTop (mkF m 159 #[.val (.int p0), .val (.int p1), .val (.int p2), .val (.int p3), .val (.int p4), .val (.int p5), .val (.long s0), .second, .val (.long s1), .second, .val (.int (1 : Int32)), .val (.long (((2 : Int64) * s0) + (1 : Int64))), .second, .val (.long D1), .second, .val (.ref b135), .val (.ref b146), .val (.ref b165), .val (.long aa), .second, .unset, .unset, .unset, .unset] [(.long (s0 - aa)), (.int (0 : Int32)), (.ref b165)]))
    refine gs (fun t k => XS.l2dS X208.here hx rfl (hb hby at_159) rfl rfl k) ?_
    show G (T208.setTop (mkF m 160 #[.val (.int p0), .val (.int p1), .val (.int p2), .val (.int p3), .val (.int p4), .val (.int p5), .val (.long s0), .second, .val (.long s1), .second, .val (.int (1 : Int32)), .val (.long (((2 : Int64) * s0) + (1 : Int64))), .second, .val (.long D1), .second, .val (.ref b135), .val (.ref b146), .val (.ref b165), .val (.long aa), .second, .unset, .unset, .unset, .unset] [(.double (FP.l2d (s0 - aa))), (.int (0 : Int32)), (.ref b165)]))
    obtain ⟨cq218, kq218, q218a, q218b, q218c⟩ := isOf hZ rfl Ex171_q212
    obtain ⟨_, _, ⟨T218, L218, k218, n218⟩, -, X218, ⟨Lc218, hQ218, l218, y218, z218⟩, st218⟩ := X208.virtualBack hx (y := (⟨"com/example/consensus_to_coverage/consensustocoverage/reranking/ProportionalSeats", "add", "(ID)V"⟩ : MethodName)) (z := (⟨"com/example/consensus_to_coverage/consensustocoverage/reranking/ProportionalSeats", "add", "(ID)V"⟩ : MethodName)) hown (mvT hZ (hw _ (List.mem_of_getElem? (i := 33) rfl))) (mvT hZ (hw _ (List.mem_of_getElem? (i := 34) rfl))) (notFace_of_selects (args := #[]) (mvT hZ (hw _ (List.mem_of_getElem? (i := 36) rfl)))) (mvT hZ (hw _ (List.mem_of_getElem? (i := 36) rfl))) (mvT hZ (hw _ (List.mem_of_getElem? (i := 35) rfl))) (by decide) (backOf (W := 0) (rm3a0 l Z a0 hw [] b165 (FP.l2d (s0 - aa)) bs ks (FP.l2d aa) 0 0 (FP.l2d s0) T208.heap n0 (Nat.le_trans Z0 K217.1) Fs171_q214 Va208 g_bs (own_a1 S0 Sa Sb) (nn_w rfl)) hZ (hw _ (List.mem_of_getElem? (i := 37) rfl)) (hw _ (List.mem_of_getElem? (i := 5) rfl)) (by decide) (by decide)) q218a q218c (g := (mkF m 160 #[.val (.int p0), .val (.int p1), .val (.int p2), .val (.int p3), .val (.int p4), .val (.int p5), .val (.long s0), .second, .val (.long s1), .second, .val (.int (1 : Int32)), .val (.long (((2 : Int64) * s0) + (1 : Int64))), .second, .val (.long D1), .second, .val (.ref b135), .val (.ref b146), .val (.ref b165), .val (.long aa), .second, .unset, .unset, .unset, .unset] [(.double (FP.l2d (s0 - aa))), (.int (0 : Int32)), (.ref b165)])) rfl (by rw [hml]; rfl) (Steps.refl _) (argsL := [(.int (0 : Int32)), (.double (FP.l2d (s0 - aa)))]) (rest := []) (lenOf pd_1 rfl) rfl (by show 2 * 0 + _ ≤ _; exact Nat.le_of_eq rfl) (hb hby at_160) (fun _ _ => ⟨rfl, rfl, (by decide : 6 + 0 ≤ _), (by decide : 18 + 0 ≤ _)⟩)
    dsimp only [Pt.U, Pt.locs, Pt.cells, Pt.slots] at X218 l218 y218 z218 st218 hQ218
    subst y218 z218
    obtain ⟨rfl, N218q, Kc218, Va218⟩ := hQ218
    have N218 : Fr n0 L218 := by rw [l218]; exact Fr.app N208 N218q
    refine gs (fun t k => st218.trans k) ?_
    have EA135_q219 := EA135_q209.keep Kc218
    have EA146_q220 := EA146_q210.keep Kc218
    have V_b146_q221 := V_b146_q211.keep Kc218 (ninS ne_b146_bs nin0)
    have Ex171_q222 := Ex171_q212.keep Kc218
    have Fw171_q223 := Fw171_q213.keep Kc218 (ninS ne_b165_bs nin0)
    have Fs171_q224 := Fs171_q214.keep Kc218 (ninS ne_b165_bs nin0)
    have Vw171_q225 := Vw171_q215.keep Kc218 (ninS nws nin0)
    have V_b135_q226 := V_b135_q216.keep Kc218 (ninS ne_b135_bs nin0)
    have K227 := K217.trans Kc218 (allS (Or.inr sz_bs) all0)
    show G (T218.setTop (mkF m 163 #[.val (.int p0), .val (.int p1), .val (.int p2), .val (.int p3), .val (.int p4), .val (.int p5), .val (.long s0), .second, .val (.long s1), .second, .val (.int (1 : Int32)), .val (.long (((2 : Int64) * s0) + (1 : Int64))), .second, .val (.long D1), .second, .val (.ref b135), .val (.ref b146), .val (.ref b165), .val (.long aa), .second, .unset, .unset, .unset, .unset] []))
    refine gs (fun t k => XS.aload X218.here hx rfl (hb hby at_163) rfl rfl k) ?_
    show G (T218.setTop (mkF m 165 #[.val (.int p0), .val (.int p1), .val (.int p2), .val (.int p3), .val (.int p4), .val (.int p5), .val (.long s0), .second, .val (.long s1), .second, .val (.int (1 : Int32)), .val (.long (((2 : Int64) * s0) + (1 : Int64))), .second, .val (.long D1), .second, .val (.ref b135), .val (.ref b146), .val (.ref b165), .val (.long aa), .second, .unset, .unset, .unset, .unset] [(.ref b165)]))
    refine gs (fun t k => XS.iconst X218.here hx rfl (hb hby at_165) k) ?_
    show G (T218.setTop (mkF m 166 #[.val (.int p0), .val (.int p1), .val (.int p2), .val (.int p3), .val (.int p4), .val (.int p5), .val (.long s0), .second, .val (.long s1), .second, .val (.int (1 : Int32)), .val (.long (((2 : Int64) * s0) + (1 : Int64))), .second, .val (.long D1), .second, .val (.ref b135), .val (.ref b146), .val (.ref b165), .val (.long aa), .second, .unset, .unset, .unset, .unset] [(.int (1 : Int32)), (.ref b165)]))
    refine gs (fun t k => XS.iload X218.here hx rfl (hb hby at_166) rfl k) ?_
    show G (T218.setTop (mkF m 168 #[.val (.int p0), .val (.int p1), .val (.int p2), .val (.int p3), .val (.int p4), .val (.int p5), .val (.long s0), .second, .val (.long s1), .second, .val (.int (1 : Int32)), .val (.long (((2 : Int64) * s0) + (1 : Int64))), .second, .val (.long D1), .second, .val (.ref b135), .val (.ref b146), .val (.ref b165), .val (.long aa), .second, .unset, .unset, .unset, .unset] [(.int (1 : Int32)), (.int (1 : Int32)), (.ref b165)]))
    refine gs (fun t k => XS.ifNo X218.here hx rfl (hb hby at_168) rfl ((if0 _ _).trans (feq (by decide : ¬ ((1 : Int32) = (0 : Int32)))).1) k) ?_
    show G (T218.setTop (mkF m 171 #[.val (.int p0), .val (.int p1), .val (.int p2), .val (.int p3), .val (.int p4), .val (.int p5), .val (.long s0), .second, .val (.long s1), .second, .val (.int (1 : Int32)), .val (.long (((2 : Int64) * s0) + (1 : Int64))), .second, .val (.long D1), .second, .val (.ref b135), .val (.ref b146), .val (.ref b165), .val (.long aa), .second, .unset, .unset, .unset, .unset] [(.int (1 : Int32)), (.ref b165)]))
    refine gs (fun t k => XS.lload X218.here hx rfl (hb hby at_171) rfl k) ?_
    show G (T218.setTop (mkF m 173 #[.val (.int p0), .val (.int p1), .val (.int p2), .val (.int p3), .val (.int p4), .val (.int p5), .val (.long s0), .second, .val (.long s1), .second, .val (.int (1 : Int32)), .val (.long (((2 : Int64) * s0) + (1 : Int64))), .second, .val (.long D1), .second, .val (.ref b135), .val (.ref b146), .val (.ref b165), .val (.long aa), .second, .unset, .unset, .unset, .unset] [(.long s1), (.int (1 : Int32)), (.ref b165)]))
    refine gs (fun t k => XS.l2dS X218.here hx rfl (hb hby at_173) rfl rfl k) ?_
    show G (T218.setTop (mkF m 174 #[.val (.int p0), .val (.int p1), .val (.int p2), .val (.int p3), .val (.int p4), .val (.int p5), .val (.long s0), .second, .val (.long s1), .second, .val (.int (1 : Int32)), .val (.long (((2 : Int64) * s0) + (1 : Int64))), .second, .val (.long D1), .second, .val (.ref b135), .val (.ref b146), .val (.ref b165), .val (.long aa), .second, .unset, .unset, .unset, .unset] [(.double (FP.l2d s1)), (.int (1 : Int32)), (.ref b165)]))
    refine gs (fun t k => X218.ldc2DoubleC hx hown (mvT hZ (hw _ (List.mem_of_getElem? (i := 38) rfl))) (g := (mkF m 174 #[.val (.int p0), .val (.int p1), .val (.int p2), .val (.int p3), .val (.int p4), .val (.int p5), .val (.long s0), .second, .val (.long s1), .second, .val (.int (1 : Int32)), .val (.long (((2 : Int64) * s0) + (1 : Int64))), .second, .val (.long D1), .second, .val (.ref b135), .val (.ref b146), .val (.ref b165), .val (.long aa), .second, .unset, .unset, .unset, .unset] [(.double (FP.l2d s1)), (.int (1 : Int32)), (.ref b165)])) rfl (hb hby at_174) _ k) ?_
    show G (T218.setTop (mkF m 177 #[.val (.int p0), .val (.int p1), .val (.int p2), .val (.int p3), .val (.int p4), .val (.int p5), .val (.long s0), .second, .val (.long s1), .second, .val (.int (1 : Int32)), .val (.long (((2 : Int64) * s0) + (1 : Int64))), .second, .val (.long D1), .second, .val (.ref b135), .val (.ref b146), .val (.ref b165), .val (.long aa), .second, .unset, .unset, .unset, .unset] [(.double (4602678819172646912 : UInt64)), (.double (FP.l2d s1)), (.int (1 : Int32)), (.ref b165)]))
    obtain ⟨hf1, hf2, hf3, hf4⟩ := own_th nn1
    rw [← hnn1] at hf1 hf2 hf3 hf4
    obtain ⟨hv, hhv⟩ : ∃ z : UInt64, z = FP.dadd (FP.l2d s1) (4602678819172646912 : UInt64) := ⟨_, rfl⟩
    rw [← hhv] at hf1 hf2 hf3
    have nhv : Jvm.Free.Fl.NoNaN64 hv := (Jvm.Free.Fl.noNaN64_iff hv).mpr hf1
    refine gs (fun t k => XS.daddS X218.here hx rfl (hb hby at_177) rfl (by rw [← hhv]; exact nhv) hhv.symm k) ?_
    show G (T218.setTop (mkF m 178 #[.val (.int p0), .val (.int p1), .val (.int p2), .val (.int p3), .val (.int p4), .val (.int p5), .val (.long s0), .second, .val (.long s1), .second, .val (.int (1 : Int32)), .val (.long (((2 : Int64) * s0) + (1 : Int64))), .second, .val (.long D1), .second, .val (.ref b135), .val (.ref b146), .val (.ref b165), .val (.long aa), .second, .unset, .unset, .unset, .unset] [(.double hv), (.int (1 : Int32)), (.ref b165)]))
    refine gs (fun t k => XS.goto X218.here hx rfl (pc0 := 178) (pc' := 184) rfl (hb hby at_178) (by decide) (by decide) k) ?_
    show G (T218.setTop (mkF m 184 #[.val (.int p0), .val (.int p1), .val (.int p2), .val (.int p3), .val (.int p4), .val (.int p5), .val (.long s0), .second, .val (.long s1), .second, .val (.int (1 : Int32)), .val (.long (((2 : Int64) * s0) + (1 : Int64))), .second, .val (.long D1), .second, .val (.ref b135), .val (.ref b146), .val (.ref b165), .val (.long aa), .second, .unset, .unset, .unset, .unset] [(.double hv), (.int (1 : Int32)), (.ref b165)]))
    obtain ⟨cq228, kq228, q228a, q228b, q228c⟩ := isOf hZ rfl Ex171_q222
    obtain ⟨_, _, ⟨T228, L228, k228, n228⟩, -, X228, ⟨Lc228, hQ228, l228, y228, z228⟩, st228⟩ := X218.virtualBack hx (y := (⟨"com/example/consensus_to_coverage/consensustocoverage/reranking/ProportionalSeats", "add", "(ID)V"⟩ : MethodName)) (z := (⟨"com/example/consensus_to_coverage/consensustocoverage/reranking/ProportionalSeats", "add", "(ID)V"⟩ : MethodName)) hown (mvT hZ (hw _ (List.mem_of_getElem? (i := 33) rfl))) (mvT hZ (hw _ (List.mem_of_getElem? (i := 34) rfl))) (notFace_of_selects (args := #[]) (mvT hZ (hw _ (List.mem_of_getElem? (i := 36) rfl)))) (mvT hZ (hw _ (List.mem_of_getElem? (i := 36) rfl))) (mvT hZ (hw _ (List.mem_of_getElem? (i := 35) rfl))) (by decide) (backOf (W := 0) (rm3a1 l Z a0 hw [] b165 hv bs ks (FP.l2d s0) 0 0 hv T218.heap n0 (Nat.le_trans Z0 K227.1) Fs171_q224 Va218 g_bs hf2 nhv) hZ (hw _ (List.mem_of_getElem? (i := 37) rfl)) (hw _ (List.mem_of_getElem? (i := 5) rfl)) (by decide) (by decide)) q228a q228c (g := (mkF m 184 #[.val (.int p0), .val (.int p1), .val (.int p2), .val (.int p3), .val (.int p4), .val (.int p5), .val (.long s0), .second, .val (.long s1), .second, .val (.int (1 : Int32)), .val (.long (((2 : Int64) * s0) + (1 : Int64))), .second, .val (.long D1), .second, .val (.ref b135), .val (.ref b146), .val (.ref b165), .val (.long aa), .second, .unset, .unset, .unset, .unset] [(.double hv), (.int (1 : Int32)), (.ref b165)])) rfl (by rw [hml]; rfl) (Steps.refl _) (argsL := [(.int (1 : Int32)), (.double hv)]) (rest := []) (lenOf pd_1 rfl) rfl (by show 2 * 0 + _ ≤ _; exact Nat.le_of_eq rfl) (hb hby at_184) (fun _ _ => ⟨rfl, rfl, (by decide : 6 + 0 ≤ _), (by decide : 18 + 0 ≤ _)⟩)
    dsimp only [Pt.U, Pt.locs, Pt.cells, Pt.slots] at X228 l228 y228 z228 st228 hQ228
    subst y228 z228
    obtain ⟨rfl, N228q, Kc228, Va228⟩ := hQ228
    have N228 : Fr n0 L228 := by rw [l228]; exact Fr.app N218 N228q
    refine gs (fun t k => st228.trans k) ?_
    have EA135_q229 := EA135_q219.keep Kc228
    have EA146_q230 := EA146_q220.keep Kc228
    have V_b146_q231 := V_b146_q221.keep Kc228 (ninS ne_b146_bs nin0)
    have Ex171_q232 := Ex171_q222.keep Kc228
    have Fw171_q233 := Fw171_q223.keep Kc228 (ninS ne_b165_bs nin0)
    have Fs171_q234 := Fs171_q224.keep Kc228 (ninS ne_b165_bs nin0)
    have Vw171_q235 := Vw171_q225.keep Kc228 (ninS nws nin0)
    have V_b135_q236 := V_b135_q226.keep Kc228 (ninS ne_b135_bs nin0)
    have K237 := K227.trans Kc228 (allS (Or.inr sz_bs) all0)
    show G (T228.setTop (mkF m 187 #[.val (.int p0), .val (.int p1), .val (.int p2), .val (.int p3), .val (.int p4), .val (.int p5), .val (.long s0), .second, .val (.long s1), .second, .val (.int (1 : Int32)), .val (.long (((2 : Int64) * s0) + (1 : Int64))), .second, .val (.long D1), .second, .val (.ref b135), .val (.ref b146), .val (.ref b165), .val (.long aa), .second, .unset, .unset, .unset, .unset] []))
    refine gs (fun t k => XS.aload X228.here hx rfl (hb hby at_187) rfl rfl k) ?_
    show G (T228.setTop (mkF m 189 #[.val (.int p0), .val (.int p1), .val (.int p2), .val (.int p3), .val (.int p4), .val (.int p5), .val (.long s0), .second, .val (.long s1), .second, .val (.int (1 : Int32)), .val (.long (((2 : Int64) * s0) + (1 : Int64))), .second, .val (.long D1), .second, .val (.ref b135), .val (.ref b146), .val (.ref b165), .val (.long aa), .second, .unset, .unset, .unset, .unset] [(.ref b165)]))
    obtain ⟨cq238, kq238, q238a, q238b, q238c⟩ := isOf hZ rfl Ex171_q232
    obtain ⟨_, _, ⟨T238, L238, k238, n238⟩, -, X238, ⟨Lc238, hQ238, l238, y238, z238⟩, st238⟩ := X228.virtualBack hx (y := (⟨"com/example/consensus_to_coverage/consensustocoverage/reranking/ProportionalSeats", "quotients", "()[D"⟩ : MethodName)) (z := (⟨"com/example/consensus_to_coverage/consensustocoverage/reranking/ProportionalSeats", "quotients", "()[D"⟩ : MethodName)) hown (mvT hZ (hw _ (List.mem_of_getElem? (i := 39) rfl))) (mvT hZ (hw _ (List.mem_of_getElem? (i := 40) rfl))) (notFace_of_selects (args := #[]) (mvT hZ (hw _ (List.mem_of_getElem? (i := 42) rfl)))) (mvT hZ (hw _ (List.mem_of_getElem? (i := 42) rfl))) (mvT hZ (hw _ (List.mem_of_getElem? (i := 41) rfl))) (by decide) (backOf (W := 0) (rm4 l Z a0 hw [] b165 bw bs kw ks x0 x1 x2 (FP.l2d s0) hv 0 (FP.l2d (2 * s0)) (FP.l2d (2 * s1 + 1)) 0 (FP.l2d (((2 : Int64) * s0) + (1 : Int64))) (FP.l2d D1) (FP.l2d 1) (FP.ddiv x0 (FP.l2d (((2 : Int64) * s0) + (1 : Int64)))) (FP.ddiv x1 (FP.l2d D1)) (FP.ddiv x2 (FP.l2d 1)) T228.heap n0 (Nat.le_trans Z0 K237.1) Fw171_q233 Fs171_q234 Vw171_q235 Va228 (own_m S0) (nn_w rfl) (own_a2 S0) (nn_w rfl) rfl (own_nn (own_q D0p D0q hx0)) hf3 (nn_w rfl) (hf4.trans (congrArg FP.l2d hD1'.symm)) (nn_w rfl) rfl (own_nn (own_q D1p D1q hx1)) own_t2.1 (nn_w l2d_zero.symm) own_t2.2 (nn_w rfl) rfl (own_nn (own_q2 hx2))) hZ (hw _ (List.mem_of_getElem? (i := 43) rfl)) (hw _ (List.mem_of_getElem? (i := 5) rfl)) (by decide) (by decide)) q238a q238c (g := (mkF m 189 #[.val (.int p0), .val (.int p1), .val (.int p2), .val (.int p3), .val (.int p4), .val (.int p5), .val (.long s0), .second, .val (.long s1), .second, .val (.int (1 : Int32)), .val (.long (((2 : Int64) * s0) + (1 : Int64))), .second, .val (.long D1), .second, .val (.ref b135), .val (.ref b146), .val (.ref b165), .val (.long aa), .second, .unset, .unset, .unset, .unset] [(.ref b165)])) rfl (by rw [hml]; rfl) (Steps.refl _) (argsL := []) (rest := []) (lenOf pd_2 rfl) rfl (by show 2 * 0 + _ ≤ _; exact Nat.le_of_eq rfl) (hb hby at_189) (fun _ _ => ⟨rfl, rfl, (by decide : 6 + 1 ≤ _), (by decide : 18 + 3 ≤ _)⟩)
    dsimp only [Pt.U, Pt.locs, Pt.cells, Pt.slots] at X238 l238 y238 z238 st238 hQ238
    subst y238 z238
    obtain ⟨bq238, kq238, rfl, N238q, Kc238, Vq238⟩ := hQ238
    have N238 : Fr n0 L238 := by rw [l238]; exact Fr.app N228 N238q
    refine gs (fun t k => st238.trans k) ?_
    have EA135_q239 := EA135_q229.keep Kc238
    have EA146_q240 := EA146_q230.keep Kc238
    have V_b146_q241 := V_b146_q231.keep Kc238 nin0
    have Ex171_q242 := Ex171_q232.keep Kc238
    have Fw171_q243 := Fw171_q233.keep Kc238 nin0
    have Fs171_q244 := Fs171_q234.keep Kc238 nin0
    have Vw171_q245 := Vw171_q235.keep Kc238 nin0
    have V_b135_q246 := V_b135_q236.keep Kc238 nin0
    have Va228_q247 := Va228.keep Kc238 nin0
    have K248 := K237.trans Kc238 all0
    show G (T238.setTop (mkF m 192 #[.val (.int p0), .val (.int p1), .val (.int p2), .val (.int p3), .val (.int p4), .val (.int p5), .val (.long s0), .second, .val (.long s1), .second, .val (.int (1 : Int32)), .val (.long (((2 : Int64) * s0) + (1 : Int64))), .second, .val (.long D1), .second, .val (.ref b135), .val (.ref b146), .val (.ref b165), .val (.long aa), .second, .unset, .unset, .unset, .unset] [(.ref bq238)]))
    refine gs (fun t k => XS.astore X238.here hx rfl (hb hby at_192) rfl rfl (l' := #[.val (.int p0), .val (.int p1), .val (.int p2), .val (.int p3), .val (.int p4), .val (.int p5), .val (.long s0), .second, .val (.long s1), .second, .val (.int (1 : Int32)), .val (.long (((2 : Int64) * s0) + (1 : Int64))), .second, .val (.long D1), .second, .val (.ref b135), .val (.ref b146), .val (.ref b165), .val (.long aa), .second, .val (.ref bq238), .unset, .unset, .unset]) rfl k) ?_
    show G (T238.setTop (mkF m 194 #[.val (.int p0), .val (.int p1), .val (.int p2), .val (.int p3), .val (.int p4), .val (.int p5), .val (.long s0), .second, .val (.long s1), .second, .val (.int (1 : Int32)), .val (.long (((2 : Int64) * s0) + (1 : Int64))), .second, .val (.long D1), .second, .val (.ref b135), .val (.ref b146), .val (.ref b165), .val (.long aa), .second, .val (.ref bq238), .unset, .unset, .unset] []))
    refine gs (fun t k => XS.aload X238.here hx rfl (hb hby at_194) rfl rfl k) ?_
    show G (T238.setTop (mkF m 196 #[.val (.int p0), .val (.int p1), .val (.int p2), .val (.int p3), .val (.int p4), .val (.int p5), .val (.long s0), .second, .val (.long s1), .second, .val (.int (1 : Int32)), .val (.long (((2 : Int64) * s0) + (1 : Int64))), .second, .val (.long D1), .second, .val (.ref b135), .val (.ref b146), .val (.ref b165), .val (.long aa), .second, .val (.ref bq238), .unset, .unset, .unset] [(.ref b165)]))
    obtain ⟨cq249, kq249, q249a, q249b, q249c⟩ := isOf hZ rfl Ex171_q242
    obtain ⟨_, _, ⟨T249, L249, k249, n249⟩, -, X249, ⟨Lc249, hQ249, l249, y249, z249⟩, st249⟩ := X238.virtualBack hx (y := (⟨"com/example/consensus_to_coverage/consensustocoverage/reranking/ProportionalSeats", "quotients", "()[D"⟩ : MethodName)) (z := (⟨"com/example/consensus_to_coverage/consensustocoverage/reranking/ProportionalSeats", "quotients", "()[D"⟩ : MethodName)) hown (mvT hZ (hw _ (List.mem_of_getElem? (i := 39) rfl))) (mvT hZ (hw _ (List.mem_of_getElem? (i := 40) rfl))) (notFace_of_selects (args := #[]) (mvT hZ (hw _ (List.mem_of_getElem? (i := 42) rfl)))) (mvT hZ (hw _ (List.mem_of_getElem? (i := 42) rfl))) (mvT hZ (hw _ (List.mem_of_getElem? (i := 41) rfl))) (by decide) (backOf (W := 0) (rm4 l Z a0 hw [] b165 bw bs kw ks x0 x1 x2 (FP.l2d s0) hv 0 (FP.l2d (2 * s0)) (FP.l2d (2 * s1 + 1)) 0 (FP.l2d (((2 : Int64) * s0) + (1 : Int64))) (FP.l2d D1) (FP.l2d 1) (FP.ddiv x0 (FP.l2d (((2 : Int64) * s0) + (1 : Int64)))) (FP.ddiv x1 (FP.l2d D1)) (FP.ddiv x2 (FP.l2d 1)) T238.heap n0 (Nat.le_trans Z0 K248.1) Fw171_q243 Fs171_q244 Vw171_q245 Va228_q247 (own_m S0) (nn_w rfl) (own_a2 S0) (nn_w rfl) rfl (own_nn (own_q D0p D0q hx0)) hf3 (nn_w rfl) (hf4.trans (congrArg FP.l2d hD1'.symm)) (nn_w rfl) rfl (own_nn (own_q D1p D1q hx1)) own_t2.1 (nn_w l2d_zero.symm) own_t2.2 (nn_w rfl) rfl (own_nn (own_q2 hx2))) hZ (hw _ (List.mem_of_getElem? (i := 43) rfl)) (hw _ (List.mem_of_getElem? (i := 5) rfl)) (by decide) (by decide)) q249a q249c (g := (mkF m 196 #[.val (.int p0), .val (.int p1), .val (.int p2), .val (.int p3), .val (.int p4), .val (.int p5), .val (.long s0), .second, .val (.long s1), .second, .val (.int (1 : Int32)), .val (.long (((2 : Int64) * s0) + (1 : Int64))), .second, .val (.long D1), .second, .val (.ref b135), .val (.ref b146), .val (.ref b165), .val (.long aa), .second, .val (.ref bq238), .unset, .unset, .unset] [(.ref b165)])) rfl (by rw [hml]; rfl) (Steps.refl _) (argsL := []) (rest := []) (lenOf pd_2 rfl) rfl (by show 2 * 0 + _ ≤ _; exact Nat.le_of_eq rfl) (hb hby at_196) (fun _ _ => ⟨rfl, rfl, (by decide : 7 + 1 ≤ _), (by decide : 21 + 3 ≤ _)⟩)
    dsimp only [Pt.U, Pt.locs, Pt.cells, Pt.slots] at X249 l249 y249 z249 st249 hQ249
    subst y249 z249
    obtain ⟨bq249, kq249, rfl, N249q, Kc249, Vq249⟩ := hQ249
    have N249 : Fr n0 L249 := by rw [l249]; exact Fr.app N238 N249q
    refine gs (fun t k => st249.trans k) ?_
    have EA135_q250 := EA135_q239.keep Kc249
    have EA146_q251 := EA146_q240.keep Kc249
    have V_b146_q252 := V_b146_q241.keep Kc249 nin0
    have Ex171_q253 := Ex171_q242.keep Kc249
    have Fw171_q254 := Fw171_q243.keep Kc249 nin0
    have Fs171_q255 := Fs171_q244.keep Kc249 nin0
    have Vw171_q256 := Vw171_q245.keep Kc249 nin0
    have V_b135_q257 := V_b135_q246.keep Kc249 nin0
    have Va228_q258 := Va228_q247.keep Kc249 nin0
    have Vq238_q259 := Vq238.keep Kc249 nin0
    have K260 := K248.trans Kc249 all0
    show G (T249.setTop (mkF m 199 #[.val (.int p0), .val (.int p1), .val (.int p2), .val (.int p3), .val (.int p4), .val (.int p5), .val (.long s0), .second, .val (.long s1), .second, .val (.int (1 : Int32)), .val (.long (((2 : Int64) * s0) + (1 : Int64))), .second, .val (.long D1), .second, .val (.ref b135), .val (.ref b146), .val (.ref b165), .val (.long aa), .second, .val (.ref bq238), .unset, .unset, .unset] [(.ref bq249)]))
    refine gs (fun t k => XS.astore X249.here hx rfl (hb hby at_199) rfl rfl (l' := #[.val (.int p0), .val (.int p1), .val (.int p2), .val (.int p3), .val (.int p4), .val (.int p5), .val (.long s0), .second, .val (.long s1), .second, .val (.int (1 : Int32)), .val (.long (((2 : Int64) * s0) + (1 : Int64))), .second, .val (.long D1), .second, .val (.ref b135), .val (.ref b146), .val (.ref b165), .val (.long aa), .second, .val (.ref bq238), .val (.ref bq249), .unset, .unset]) rfl k) ?_
    show G (T249.setTop (mkF m 201 #[.val (.int p0), .val (.int p1), .val (.int p2), .val (.int p3), .val (.int p4), .val (.int p5), .val (.long s0), .second, .val (.long s1), .second, .val (.int (1 : Int32)), .val (.long (((2 : Int64) * s0) + (1 : Int64))), .second, .val (.long D1), .second, .val (.ref b135), .val (.ref b146), .val (.ref b165), .val (.long aa), .second, .val (.ref bq238), .val (.ref bq249), .unset, .unset] []))
    refine gs (fun t k => XS.aload X249.here hx rfl (hb hby at_201) rfl rfl k) ?_
    show G (T249.setTop (mkF m 203 #[.val (.int p0), .val (.int p1), .val (.int p2), .val (.int p3), .val (.int p4), .val (.int p5), .val (.long s0), .second, .val (.long s1), .second, .val (.int (1 : Int32)), .val (.long (((2 : Int64) * s0) + (1 : Int64))), .second, .val (.long D1), .second, .val (.ref b135), .val (.ref b146), .val (.ref b165), .val (.long aa), .second, .val (.ref bq238), .val (.ref bq249), .unset, .unset] [(.ref bq238)]))
    obtain ⟨lc261, lA261, -, lS261, lN261, -, -⟩ := id Vq238_q259
    refine gs (fun t k => X249.arraylength hx lA261.1 (State.isArrayOf_alike hZ.alike lA261.2.1) (g := (mkF m 203 #[.val (.int p0), .val (.int p1), .val (.int p2), .val (.int p3), .val (.int p4), .val (.int p5), .val (.long s0), .second, .val (.long s1), .second, .val (.int (1 : Int32)), .val (.long (((2 : Int64) * s0) + (1 : Int64))), .second, .val (.long D1), .second, .val (.ref b135), .val (.ref b146), .val (.ref b165), .val (.long aa), .second, .val (.ref bq238), .val (.ref bq249), .unset, .unset] [(.ref bq238)])) rfl rfl (hb hby at_203) _ k) ?_
    rw [len_of lS261 lN261]
    show G (T249.setTop (mkF m 204 #[.val (.int p0), .val (.int p1), .val (.int p2), .val (.int p3), .val (.int p4), .val (.int p5), .val (.long s0), .second, .val (.long s1), .second, .val (.int (1 : Int32)), .val (.long (((2 : Int64) * s0) + (1 : Int64))), .second, .val (.long D1), .second, .val (.ref b135), .val (.ref b146), .val (.ref b165), .val (.long aa), .second, .val (.ref bq238), .val (.ref bq249), .unset, .unset] [(.int (3 : Int32))]))
    refine gs (fun t k => XS.iconst X249.here hx rfl (hb hby at_204) k) ?_
    show G (T249.setTop (mkF m 205 #[.val (.int p0), .val (.int p1), .val (.int p2), .val (.int p3), .val (.int p4), .val (.int p5), .val (.long s0), .second, .val (.long s1), .second, .val (.int (1 : Int32)), .val (.long (((2 : Int64) * s0) + (1 : Int64))), .second, .val (.long D1), .second, .val (.ref b135), .val (.ref b146), .val (.ref b165), .val (.long aa), .second, .val (.ref bq238), .val (.ref bq249), .unset, .unset] [(.int (3 : Int32)), (.int (3 : Int32))]))
    refine gs (fun t k => XS.icmpNo X249.here hx rfl (hb hby at_205) rfl (teq (by decide : (3 : Int32) = (3 : Int32))).2 k) ?_
    show G (T249.setTop (mkF m 208 #[.val (.int p0), .val (.int p1), .val (.int p2), .val (.int p3), .val (.int p4), .val (.int p5), .val (.long s0), .second, .val (.long s1), .second, .val (.int (1 : Int32)), .val (.long (((2 : Int64) * s0) + (1 : Int64))), .second, .val (.long D1), .second, .val (.ref b135), .val (.ref b146), .val (.ref b165), .val (.long aa), .second, .val (.ref bq238), .val (.ref bq249), .unset, .unset] []))
    refine gs (fun t k => XS.aload X249.here hx rfl (hb hby at_208) rfl rfl k) ?_
    show G (T249.setTop (mkF m 210 #[.val (.int p0), .val (.int p1), .val (.int p2), .val (.int p3), .val (.int p4), .val (.int p5), .val (.long s0), .second, .val (.long s1), .second, .val (.int (1 : Int32)), .val (.long (((2 : Int64) * s0) + (1 : Int64))), .second, .val (.long D1), .second, .val (.ref b135), .val (.ref b146), .val (.ref b165), .val (.long aa), .second, .val (.ref bq238), .val (.ref bq249), .unset, .unset] [(.ref bq238)]))
    refine gs (fun t k => XS.iconst X249.here hx rfl (hb hby at_210) k) ?_
    show G (T249.setTop (mkF m 211 #[.val (.int p0), .val (.int p1), .val (.int p2), .val (.int p3), .val (.int p4), .val (.int p5), .val (.long s0), .second, .val (.long s1), .second, .val (.int (1 : Int32)), .val (.long (((2 : Int64) * s0) + (1 : Int64))), .second, .val (.long D1), .second, .val (.ref b135), .val (.ref b146), .val (.ref b165), .val (.long aa), .second, .val (.ref bq238), .val (.ref bq249), .unset, .unset] [(.int (0 : Int32)), (.ref bq238)]))
    obtain ⟨lc262, lA262, -, lS262, lN262, lH262, -⟩ := id Vq238_q259
    have lin262 : ¬ ((0 : Int32) < 0 ∨ lc262.slots.size ≤ ((0 : Int32)).toNatClampNeg) := inb_of lS262 ⟨by decide, by decide⟩
    have lat262 : lc262.slots[((0 : Int32)).toNatClampNeg]? = some (.double (FP.ddiv x0 (FP.l2d (((2 : Int64) * s0) + (1 : Int64))))) := lH262 0 (by rw [lS262]; decide)
    refine gs (fun t k => X249.daload hx (j := (0 : Int32)) (v := (.double (FP.ddiv x0 (FP.l2d (((2 : Int64) * s0) + (1 : Int64)))))) lA262.1 (State.isArrayOf_alike hZ.alike lA262.2.1) lA262.2.2 lin262 lat262 (g := (mkF m 211 #[.val (.int p0), .val (.int p1), .val (.int p2), .val (.int p3), .val (.int p4), .val (.int p5), .val (.long s0), .second, .val (.long s1), .second, .val (.int (1 : Int32)), .val (.long (((2 : Int64) * s0) + (1 : Int64))), .second, .val (.long D1), .second, .val (.ref b135), .val (.ref b146), .val (.ref b165), .val (.long aa), .second, .val (.ref bq238), .val (.ref bq249), .unset, .unset] [(.int (0 : Int32)), (.ref bq238)])) rfl rfl (hb hby at_211) _ k) ?_
    show G (T249.setTop (mkF m 212 #[.val (.int p0), .val (.int p1), .val (.int p2), .val (.int p3), .val (.int p4), .val (.int p5), .val (.long s0), .second, .val (.long s1), .second, .val (.int (1 : Int32)), .val (.long (((2 : Int64) * s0) + (1 : Int64))), .second, .val (.long D1), .second, .val (.ref b135), .val (.ref b146), .val (.ref b165), .val (.long aa), .second, .val (.ref bq238), .val (.ref bq249), .unset, .unset] [(.double (FP.ddiv x0 (FP.l2d (((2 : Int64) * s0) + (1 : Int64)))))]))
    refine gs (fun t k => XS.iloadN X249.here hx rfl (hb hby at_212) rfl k) ?_
    show G (T249.setTop (mkF m 213 #[.val (.int p0), .val (.int p1), .val (.int p2), .val (.int p3), .val (.int p4), .val (.int p5), .val (.long s0), .second, .val (.long s1), .second, .val (.int (1 : Int32)), .val (.long (((2 : Int64) * s0) + (1 : Int64))), .second, .val (.long D1), .second, .val (.ref b135), .val (.ref b146), .val (.ref b165), .val (.long aa), .second, .val (.ref bq238), .val (.ref bq249), .unset, .unset] [(.int p0), (.double (FP.ddiv x0 (FP.l2d (((2 : Int64) * s0) + (1 : Int64)))))]))
    refine gs (fun t k => XS.i2dS X249.here hx rfl (hb hby at_213) rfl rfl k) ?_
    show G (T249.setTop (mkF m 214 #[.val (.int p0), .val (.int p1), .val (.int p2), .val (.int p3), .val (.int p4), .val (.int p5), .val (.long s0), .second, .val (.long s1), .second, .val (.int (1 : Int32)), .val (.long (((2 : Int64) * s0) + (1 : Int64))), .second, .val (.long D1), .second, .val (.ref b135), .val (.ref b146), .val (.ref b165), .val (.long aa), .second, .val (.ref bq238), .val (.ref bq249), .unset, .unset] [(.double (FP.i2d p0)), (.double (FP.ddiv x0 (FP.l2d (((2 : Int64) * s0) + (1 : Int64)))))]))
    refine gs (fun t k => XS.dcmpS X249.here hx rfl (hb hby at_214) rfl (own_cmp (own_q D0p D0q hx0) (FP.Core.i2d_int p0)) k) ?_
    show G (T249.setTop (mkF m 215 #[.val (.int p0), .val (.int p1), .val (.int p2), .val (.int p3), .val (.int p4), .val (.int p5), .val (.long s0), .second, .val (.long s1), .second, .val (.int (1 : Int32)), .val (.long (((2 : Int64) * s0) + (1 : Int64))), .second, .val (.long D1), .second, .val (.ref b135), .val (.ref b146), .val (.ref b165), .val (.long aa), .second, .val (.ref bq238), .val (.ref bq249), .unset, .unset] [(.int (0 : Int32))]))
    refine gs (fun t k => XS.ifNo X249.here hx rfl (hb hby at_215) rfl ((if0 _ _).trans (teq (by decide : (0 : Int32) = (0 : Int32))).2) k) ?_
    show G (T249.setTop (mkF m 218 #[.val (.int p0), .val (.int p1), .val (.int p2), .val (.int p3), .val (.int p4), .val (.int p5), .val (.long s0), .second, .val (.long s1), .second, .val (.int (1 : Int32)), .val (.long (((2 : Int64) * s0) + (1 : Int64))), .second, .val (.long D1), .second, .val (.ref b135), .val (.ref b146), .val (.ref b165), .val (.long aa), .second, .val (.ref bq238), .val (.ref bq249), .unset, .unset] []))
    refine gs (fun t k => XS.aload X249.here hx rfl (hb hby at_218) rfl rfl k) ?_
    show G (T249.setTop (mkF m 220 #[.val (.int p0), .val (.int p1), .val (.int p2), .val (.int p3), .val (.int p4), .val (.int p5), .val (.long s0), .second, .val (.long s1), .second, .val (.int (1 : Int32)), .val (.long (((2 : Int64) * s0) + (1 : Int64))), .second, .val (.long D1), .second, .val (.ref b135), .val (.ref b146), .val (.ref b165), .val (.long aa), .second, .val (.ref bq238), .val (.ref bq249), .unset, .unset] [(.ref bq238)]))
    refine gs (fun t k => XS.iconst X249.here hx rfl (hb hby at_220) k) ?_
    show G (T249.setTop (mkF m 221 #[.val (.int p0), .val (.int p1), .val (.int p2), .val (.int p3), .val (.int p4), .val (.int p5), .val (.long s0), .second, .val (.long s1), .second, .val (.int (1 : Int32)), .val (.long (((2 : Int64) * s0) + (1 : Int64))), .second, .val (.long D1), .second, .val (.ref b135), .val (.ref b146), .val (.ref b165), .val (.long aa), .second, .val (.ref bq238), .val (.ref bq249), .unset, .unset] [(.int (1 : Int32)), (.ref bq238)]))
    obtain ⟨lc263, lA263, -, lS263, lN263, lH263, -⟩ := id Vq238_q259
    have lin263 : ¬ ((1 : Int32) < 0 ∨ lc263.slots.size ≤ ((1 : Int32)).toNatClampNeg) := inb_of lS263 ⟨by decide, by decide⟩
    have lat263 : lc263.slots[((1 : Int32)).toNatClampNeg]? = some (.double (FP.ddiv x1 (FP.l2d D1))) := lH263 1 (by rw [lS263]; decide)
    refine gs (fun t k => X249.daload hx (j := (1 : Int32)) (v := (.double (FP.ddiv x1 (FP.l2d D1)))) lA263.1 (State.isArrayOf_alike hZ.alike lA263.2.1) lA263.2.2 lin263 lat263 (g := (mkF m 221 #[.val (.int p0), .val (.int p1), .val (.int p2), .val (.int p3), .val (.int p4), .val (.int p5), .val (.long s0), .second, .val (.long s1), .second, .val (.int (1 : Int32)), .val (.long (((2 : Int64) * s0) + (1 : Int64))), .second, .val (.long D1), .second, .val (.ref b135), .val (.ref b146), .val (.ref b165), .val (.long aa), .second, .val (.ref bq238), .val (.ref bq249), .unset, .unset] [(.int (1 : Int32)), (.ref bq238)])) rfl rfl (hb hby at_221) _ k) ?_
    show G (T249.setTop (mkF m 222 #[.val (.int p0), .val (.int p1), .val (.int p2), .val (.int p3), .val (.int p4), .val (.int p5), .val (.long s0), .second, .val (.long s1), .second, .val (.int (1 : Int32)), .val (.long (((2 : Int64) * s0) + (1 : Int64))), .second, .val (.long D1), .second, .val (.ref b135), .val (.ref b146), .val (.ref b165), .val (.long aa), .second, .val (.ref bq238), .val (.ref bq249), .unset, .unset] [(.double (FP.ddiv x1 (FP.l2d D1)))]))
    refine gs (fun t k => XS.iloadN X249.here hx rfl (hb hby at_222) rfl k) ?_
    show G (T249.setTop (mkF m 223 #[.val (.int p0), .val (.int p1), .val (.int p2), .val (.int p3), .val (.int p4), .val (.int p5), .val (.long s0), .second, .val (.long s1), .second, .val (.int (1 : Int32)), .val (.long (((2 : Int64) * s0) + (1 : Int64))), .second, .val (.long D1), .second, .val (.ref b135), .val (.ref b146), .val (.ref b165), .val (.long aa), .second, .val (.ref bq238), .val (.ref bq249), .unset, .unset] [(.int p1), (.double (FP.ddiv x1 (FP.l2d D1)))]))
    refine gs (fun t k => XS.i2dS X249.here hx rfl (hb hby at_223) rfl rfl k) ?_
    show G (T249.setTop (mkF m 224 #[.val (.int p0), .val (.int p1), .val (.int p2), .val (.int p3), .val (.int p4), .val (.int p5), .val (.long s0), .second, .val (.long s1), .second, .val (.int (1 : Int32)), .val (.long (((2 : Int64) * s0) + (1 : Int64))), .second, .val (.long D1), .second, .val (.ref b135), .val (.ref b146), .val (.ref b165), .val (.long aa), .second, .val (.ref bq238), .val (.ref bq249), .unset, .unset] [(.double (FP.i2d p1)), (.double (FP.ddiv x1 (FP.l2d D1)))]))
    refine gs (fun t k => XS.dcmpS X249.here hx rfl (hb hby at_224) rfl (own_cmp (own_q D1p D1q hx1) (FP.Core.i2d_int p1)) k) ?_
    show G (T249.setTop (mkF m 225 #[.val (.int p0), .val (.int p1), .val (.int p2), .val (.int p3), .val (.int p4), .val (.int p5), .val (.long s0), .second, .val (.long s1), .second, .val (.int (1 : Int32)), .val (.long (((2 : Int64) * s0) + (1 : Int64))), .second, .val (.long D1), .second, .val (.ref b135), .val (.ref b146), .val (.ref b165), .val (.long aa), .second, .val (.ref bq238), .val (.ref bq249), .unset, .unset] [(.int (0 : Int32))]))
    refine gs (fun t k => XS.ifNo X249.here hx rfl (hb hby at_225) rfl ((if0 _ _).trans (teq (by decide : (0 : Int32) = (0 : Int32))).2) k) ?_
    show G (T249.setTop (mkF m 228 #[.val (.int p0), .val (.int p1), .val (.int p2), .val (.int p3), .val (.int p4), .val (.int p5), .val (.long s0), .second, .val (.long s1), .second, .val (.int (1 : Int32)), .val (.long (((2 : Int64) * s0) + (1 : Int64))), .second, .val (.long D1), .second, .val (.ref b135), .val (.ref b146), .val (.ref b165), .val (.long aa), .second, .val (.ref bq238), .val (.ref bq249), .unset, .unset] []))
    refine gs (fun t k => XS.aload X249.here hx rfl (hb hby at_228) rfl rfl k) ?_
    show G (T249.setTop (mkF m 230 #[.val (.int p0), .val (.int p1), .val (.int p2), .val (.int p3), .val (.int p4), .val (.int p5), .val (.long s0), .second, .val (.long s1), .second, .val (.int (1 : Int32)), .val (.long (((2 : Int64) * s0) + (1 : Int64))), .second, .val (.long D1), .second, .val (.ref b135), .val (.ref b146), .val (.ref b165), .val (.long aa), .second, .val (.ref bq238), .val (.ref bq249), .unset, .unset] [(.ref bq238)]))
    refine gs (fun t k => XS.iconst X249.here hx rfl (hb hby at_230) k) ?_
    show G (T249.setTop (mkF m 231 #[.val (.int p0), .val (.int p1), .val (.int p2), .val (.int p3), .val (.int p4), .val (.int p5), .val (.long s0), .second, .val (.long s1), .second, .val (.int (1 : Int32)), .val (.long (((2 : Int64) * s0) + (1 : Int64))), .second, .val (.long D1), .second, .val (.ref b135), .val (.ref b146), .val (.ref b165), .val (.long aa), .second, .val (.ref bq238), .val (.ref bq249), .unset, .unset] [(.int (2 : Int32)), (.ref bq238)]))
    obtain ⟨lc264, lA264, -, lS264, lN264, lH264, -⟩ := id Vq238_q259
    have lin264 : ¬ ((2 : Int32) < 0 ∨ lc264.slots.size ≤ ((2 : Int32)).toNatClampNeg) := inb_of lS264 ⟨by decide, by decide⟩
    have lat264 : lc264.slots[((2 : Int32)).toNatClampNeg]? = some (.double (FP.ddiv x2 (FP.l2d 1))) := lH264 2 (by rw [lS264]; decide)
    refine gs (fun t k => X249.daload hx (j := (2 : Int32)) (v := (.double (FP.ddiv x2 (FP.l2d 1)))) lA264.1 (State.isArrayOf_alike hZ.alike lA264.2.1) lA264.2.2 lin264 lat264 (g := (mkF m 231 #[.val (.int p0), .val (.int p1), .val (.int p2), .val (.int p3), .val (.int p4), .val (.int p5), .val (.long s0), .second, .val (.long s1), .second, .val (.int (1 : Int32)), .val (.long (((2 : Int64) * s0) + (1 : Int64))), .second, .val (.long D1), .second, .val (.ref b135), .val (.ref b146), .val (.ref b165), .val (.long aa), .second, .val (.ref bq238), .val (.ref bq249), .unset, .unset] [(.int (2 : Int32)), (.ref bq238)])) rfl rfl (hb hby at_231) _ k) ?_
    show G (T249.setTop (mkF m 232 #[.val (.int p0), .val (.int p1), .val (.int p2), .val (.int p3), .val (.int p4), .val (.int p5), .val (.long s0), .second, .val (.long s1), .second, .val (.int (1 : Int32)), .val (.long (((2 : Int64) * s0) + (1 : Int64))), .second, .val (.long D1), .second, .val (.ref b135), .val (.ref b146), .val (.ref b165), .val (.long aa), .second, .val (.ref bq238), .val (.ref bq249), .unset, .unset] [(.double (FP.ddiv x2 (FP.l2d 1)))]))
    refine gs (fun t k => XS.iloadN X249.here hx rfl (hb hby at_232) rfl k) ?_
    show G (T249.setTop (mkF m 233 #[.val (.int p0), .val (.int p1), .val (.int p2), .val (.int p3), .val (.int p4), .val (.int p5), .val (.long s0), .second, .val (.long s1), .second, .val (.int (1 : Int32)), .val (.long (((2 : Int64) * s0) + (1 : Int64))), .second, .val (.long D1), .second, .val (.ref b135), .val (.ref b146), .val (.ref b165), .val (.long aa), .second, .val (.ref bq238), .val (.ref bq249), .unset, .unset] [(.int p2), (.double (FP.ddiv x2 (FP.l2d 1)))]))
    refine gs (fun t k => XS.i2dS X249.here hx rfl (hb hby at_233) rfl rfl k) ?_
    show G (T249.setTop (mkF m 234 #[.val (.int p0), .val (.int p1), .val (.int p2), .val (.int p3), .val (.int p4), .val (.int p5), .val (.long s0), .second, .val (.long s1), .second, .val (.int (1 : Int32)), .val (.long (((2 : Int64) * s0) + (1 : Int64))), .second, .val (.long D1), .second, .val (.ref b135), .val (.ref b146), .val (.ref b165), .val (.long aa), .second, .val (.ref bq238), .val (.ref bq249), .unset, .unset] [(.double (FP.i2d p2)), (.double (FP.ddiv x2 (FP.l2d 1)))]))
    refine gs (fun t k => XS.dcmpS X249.here hx rfl (hb hby at_234) rfl (own_cmp (own_q2 hx2) (FP.Core.i2d_int p2)) k) ?_
    show G (T249.setTop (mkF m 235 #[.val (.int p0), .val (.int p1), .val (.int p2), .val (.int p3), .val (.int p4), .val (.int p5), .val (.long s0), .second, .val (.long s1), .second, .val (.int (1 : Int32)), .val (.long (((2 : Int64) * s0) + (1 : Int64))), .second, .val (.long D1), .second, .val (.ref b135), .val (.ref b146), .val (.ref b165), .val (.long aa), .second, .val (.ref bq238), .val (.ref bq249), .unset, .unset] [(.int (0 : Int32))]))
    refine gs (fun t k => XS.ifNo X249.here hx rfl (hb hby at_235) rfl ((if0 _ _).trans (teq (by decide : (0 : Int32) = (0 : Int32))).2) k) ?_
    show G (T249.setTop (mkF m 238 #[.val (.int p0), .val (.int p1), .val (.int p2), .val (.int p3), .val (.int p4), .val (.int p5), .val (.long s0), .second, .val (.long s1), .second, .val (.int (1 : Int32)), .val (.long (((2 : Int64) * s0) + (1 : Int64))), .second, .val (.long D1), .second, .val (.ref b135), .val (.ref b146), .val (.ref b165), .val (.long aa), .second, .val (.ref bq238), .val (.ref bq249), .unset, .unset] []))
    refine gs (fun t k => XS.iconst X249.here hx rfl (hb hby at_238) k) ?_
    show G (T249.setTop (mkF m 239 #[.val (.int p0), .val (.int p1), .val (.int p2), .val (.int p3), .val (.int p4), .val (.int p5), .val (.long s0), .second, .val (.long s1), .second, .val (.int (1 : Int32)), .val (.long (((2 : Int64) * s0) + (1 : Int64))), .second, .val (.long D1), .second, .val (.ref b135), .val (.ref b146), .val (.ref b165), .val (.long aa), .second, .val (.ref bq238), .val (.ref bq249), .unset, .unset] [(.int (1 : Int32))]))
    refine gs (fun t k => XS.goto X249.here hx rfl (pc0 := 239) (pc' := 243) rfl (hb hby at_239) (by decide) (by decide) k) ?_
    show G (T249.setTop (mkF m 243 #[.val (.int p0), .val (.int p1), .val (.int p2), .val (.int p3), .val (.int p4), .val (.int p5), .val (.long s0), .second, .val (.long s1), .second, .val (.int (1 : Int32)), .val (.long (((2 : Int64) * s0) + (1 : Int64))), .second, .val (.long D1), .second, .val (.ref b135), .val (.ref b146), .val (.ref b165), .val (.long aa), .second, .val (.ref bq238), .val (.ref bq249), .unset, .unset] [(.int (1 : Int32))]))
    refine gs (fun t k => XS.istore X249.here hx rfl (hb hby at_243) rfl (l' := #[.val (.int p0), .val (.int p1), .val (.int p2), .val (.int p3), .val (.int p4), .val (.int p5), .val (.long s0), .second, .val (.long s1), .second, .val (.int (1 : Int32)), .val (.long (((2 : Int64) * s0) + (1 : Int64))), .second, .val (.long D1), .second, .val (.ref b135), .val (.ref b146), .val (.ref b165), .val (.long aa), .second, .val (.ref bq238), .val (.ref bq249), .val (.int (1 : Int32)), .unset]) rfl k) ?_
    show G (T249.setTop (mkF m 245 #[.val (.int p0), .val (.int p1), .val (.int p2), .val (.int p3), .val (.int p4), .val (.int p5), .val (.long s0), .second, .val (.long s1), .second, .val (.int (1 : Int32)), .val (.long (((2 : Int64) * s0) + (1 : Int64))), .second, .val (.long D1), .second, .val (.ref b135), .val (.ref b146), .val (.ref b165), .val (.long aa), .second, .val (.ref bq238), .val (.ref bq249), .val (.int (1 : Int32)), .unset] []))
    refine gs (fun t k => XS.aload X249.here hx rfl (hb hby at_245) rfl rfl k) ?_
    show G (T249.setTop (mkF m 247 #[.val (.int p0), .val (.int p1), .val (.int p2), .val (.int p3), .val (.int p4), .val (.int p5), .val (.long s0), .second, .val (.long s1), .second, .val (.int (1 : Int32)), .val (.long (((2 : Int64) * s0) + (1 : Int64))), .second, .val (.long D1), .second, .val (.ref b135), .val (.ref b146), .val (.ref b165), .val (.long aa), .second, .val (.ref bq238), .val (.ref bq249), .val (.int (1 : Int32)), .unset] [(.ref bq249)]))
    obtain ⟨lc265, lA265, -, lS265, lN265, -, -⟩ := id Vq249
    refine gs (fun t k => X249.arraylength hx lA265.1 (State.isArrayOf_alike hZ.alike lA265.2.1) (g := (mkF m 247 #[.val (.int p0), .val (.int p1), .val (.int p2), .val (.int p3), .val (.int p4), .val (.int p5), .val (.long s0), .second, .val (.long s1), .second, .val (.int (1 : Int32)), .val (.long (((2 : Int64) * s0) + (1 : Int64))), .second, .val (.long D1), .second, .val (.ref b135), .val (.ref b146), .val (.ref b165), .val (.long aa), .second, .val (.ref bq238), .val (.ref bq249), .val (.int (1 : Int32)), .unset] [(.ref bq249)])) rfl rfl (hb hby at_247) _ k) ?_
    rw [len_of lS265 lN265]
    show G (T249.setTop (mkF m 248 #[.val (.int p0), .val (.int p1), .val (.int p2), .val (.int p3), .val (.int p4), .val (.int p5), .val (.long s0), .second, .val (.long s1), .second, .val (.int (1 : Int32)), .val (.long (((2 : Int64) * s0) + (1 : Int64))), .second, .val (.long D1), .second, .val (.ref b135), .val (.ref b146), .val (.ref b165), .val (.long aa), .second, .val (.ref bq238), .val (.ref bq249), .val (.int (1 : Int32)), .unset] [(.int (3 : Int32))]))
    refine gs (fun t k => XS.iconst X249.here hx rfl (hb hby at_248) k) ?_
    show G (T249.setTop (mkF m 249 #[.val (.int p0), .val (.int p1), .val (.int p2), .val (.int p3), .val (.int p4), .val (.int p5), .val (.long s0), .second, .val (.long s1), .second, .val (.int (1 : Int32)), .val (.long (((2 : Int64) * s0) + (1 : Int64))), .second, .val (.long D1), .second, .val (.ref b135), .val (.ref b146), .val (.ref b165), .val (.long aa), .second, .val (.ref bq238), .val (.ref bq249), .val (.int (1 : Int32)), .unset] [(.int (3 : Int32)), (.int (3 : Int32))]))
    refine gs (fun t k => XS.icmpNo X249.here hx rfl (hb hby at_249) rfl (teq (by decide : (3 : Int32) = (3 : Int32))).2 k) ?_
    show G (T249.setTop (mkF m 252 #[.val (.int p0), .val (.int p1), .val (.int p2), .val (.int p3), .val (.int p4), .val (.int p5), .val (.long s0), .second, .val (.long s1), .second, .val (.int (1 : Int32)), .val (.long (((2 : Int64) * s0) + (1 : Int64))), .second, .val (.long D1), .second, .val (.ref b135), .val (.ref b146), .val (.ref b165), .val (.long aa), .second, .val (.ref bq238), .val (.ref bq249), .val (.int (1 : Int32)), .unset] []))
    refine gs (fun t k => XS.aload X249.here hx rfl (hb hby at_252) rfl rfl k) ?_
    show G (T249.setTop (mkF m 254 #[.val (.int p0), .val (.int p1), .val (.int p2), .val (.int p3), .val (.int p4), .val (.int p5), .val (.long s0), .second, .val (.long s1), .second, .val (.int (1 : Int32)), .val (.long (((2 : Int64) * s0) + (1 : Int64))), .second, .val (.long D1), .second, .val (.ref b135), .val (.ref b146), .val (.ref b165), .val (.long aa), .second, .val (.ref bq238), .val (.ref bq249), .val (.int (1 : Int32)), .unset] [(.ref bq249)]))
    refine gs (fun t k => XS.iconst X249.here hx rfl (hb hby at_254) k) ?_
    show G (T249.setTop (mkF m 255 #[.val (.int p0), .val (.int p1), .val (.int p2), .val (.int p3), .val (.int p4), .val (.int p5), .val (.long s0), .second, .val (.long s1), .second, .val (.int (1 : Int32)), .val (.long (((2 : Int64) * s0) + (1 : Int64))), .second, .val (.long D1), .second, .val (.ref b135), .val (.ref b146), .val (.ref b165), .val (.long aa), .second, .val (.ref bq238), .val (.ref bq249), .val (.int (1 : Int32)), .unset] [(.int (0 : Int32)), (.ref bq249)]))
    obtain ⟨lc266, lA266, -, lS266, lN266, lH266, -⟩ := id Vq249
    have lin266 : ¬ ((0 : Int32) < 0 ∨ lc266.slots.size ≤ ((0 : Int32)).toNatClampNeg) := inb_of lS266 ⟨by decide, by decide⟩
    have lat266 : lc266.slots[((0 : Int32)).toNatClampNeg]? = some (.double (FP.ddiv x0 (FP.l2d (((2 : Int64) * s0) + (1 : Int64))))) := lH266 0 (by rw [lS266]; decide)
    refine gs (fun t k => X249.daload hx (j := (0 : Int32)) (v := (.double (FP.ddiv x0 (FP.l2d (((2 : Int64) * s0) + (1 : Int64)))))) lA266.1 (State.isArrayOf_alike hZ.alike lA266.2.1) lA266.2.2 lin266 lat266 (g := (mkF m 255 #[.val (.int p0), .val (.int p1), .val (.int p2), .val (.int p3), .val (.int p4), .val (.int p5), .val (.long s0), .second, .val (.long s1), .second, .val (.int (1 : Int32)), .val (.long (((2 : Int64) * s0) + (1 : Int64))), .second, .val (.long D1), .second, .val (.ref b135), .val (.ref b146), .val (.ref b165), .val (.long aa), .second, .val (.ref bq238), .val (.ref bq249), .val (.int (1 : Int32)), .unset] [(.int (0 : Int32)), (.ref bq249)])) rfl rfl (hb hby at_255) _ k) ?_
    show G (T249.setTop (mkF m 256 #[.val (.int p0), .val (.int p1), .val (.int p2), .val (.int p3), .val (.int p4), .val (.int p5), .val (.long s0), .second, .val (.long s1), .second, .val (.int (1 : Int32)), .val (.long (((2 : Int64) * s0) + (1 : Int64))), .second, .val (.long D1), .second, .val (.ref b135), .val (.ref b146), .val (.ref b165), .val (.long aa), .second, .val (.ref bq238), .val (.ref bq249), .val (.int (1 : Int32)), .unset] [(.double (FP.ddiv x0 (FP.l2d (((2 : Int64) * s0) + (1 : Int64)))))]))
    refine gs (fun t k => XS.iloadN X249.here hx rfl (hb hby at_256) rfl k) ?_
    show G (T249.setTop (mkF m 257 #[.val (.int p0), .val (.int p1), .val (.int p2), .val (.int p3), .val (.int p4), .val (.int p5), .val (.long s0), .second, .val (.long s1), .second, .val (.int (1 : Int32)), .val (.long (((2 : Int64) * s0) + (1 : Int64))), .second, .val (.long D1), .second, .val (.ref b135), .val (.ref b146), .val (.ref b165), .val (.long aa), .second, .val (.ref bq238), .val (.ref bq249), .val (.int (1 : Int32)), .unset] [(.int p0), (.double (FP.ddiv x0 (FP.l2d (((2 : Int64) * s0) + (1 : Int64)))))]))
    refine gs (fun t k => XS.i2dS X249.here hx rfl (hb hby at_257) rfl rfl k) ?_
    show G (T249.setTop (mkF m 258 #[.val (.int p0), .val (.int p1), .val (.int p2), .val (.int p3), .val (.int p4), .val (.int p5), .val (.long s0), .second, .val (.long s1), .second, .val (.int (1 : Int32)), .val (.long (((2 : Int64) * s0) + (1 : Int64))), .second, .val (.long D1), .second, .val (.ref b135), .val (.ref b146), .val (.ref b165), .val (.long aa), .second, .val (.ref bq238), .val (.ref bq249), .val (.int (1 : Int32)), .unset] [(.double (FP.i2d p0)), (.double (FP.ddiv x0 (FP.l2d (((2 : Int64) * s0) + (1 : Int64)))))]))
    refine gs (fun t k => XS.dcmpS X249.here hx rfl (hb hby at_258) rfl (own_cmp (own_q D0p D0q hx0) (FP.Core.i2d_int p0)) k) ?_
    show G (T249.setTop (mkF m 259 #[.val (.int p0), .val (.int p1), .val (.int p2), .val (.int p3), .val (.int p4), .val (.int p5), .val (.long s0), .second, .val (.long s1), .second, .val (.int (1 : Int32)), .val (.long (((2 : Int64) * s0) + (1 : Int64))), .second, .val (.long D1), .second, .val (.ref b135), .val (.ref b146), .val (.ref b165), .val (.long aa), .second, .val (.ref bq238), .val (.ref bq249), .val (.int (1 : Int32)), .unset] [(.int (0 : Int32))]))
    refine gs (fun t k => XS.ifNo X249.here hx rfl (hb hby at_259) rfl ((if0 _ _).trans (teq (by decide : (0 : Int32) = (0 : Int32))).2) k) ?_
    show G (T249.setTop (mkF m 262 #[.val (.int p0), .val (.int p1), .val (.int p2), .val (.int p3), .val (.int p4), .val (.int p5), .val (.long s0), .second, .val (.long s1), .second, .val (.int (1 : Int32)), .val (.long (((2 : Int64) * s0) + (1 : Int64))), .second, .val (.long D1), .second, .val (.ref b135), .val (.ref b146), .val (.ref b165), .val (.long aa), .second, .val (.ref bq238), .val (.ref bq249), .val (.int (1 : Int32)), .unset] []))
    refine gs (fun t k => XS.aload X249.here hx rfl (hb hby at_262) rfl rfl k) ?_
    show G (T249.setTop (mkF m 264 #[.val (.int p0), .val (.int p1), .val (.int p2), .val (.int p3), .val (.int p4), .val (.int p5), .val (.long s0), .second, .val (.long s1), .second, .val (.int (1 : Int32)), .val (.long (((2 : Int64) * s0) + (1 : Int64))), .second, .val (.long D1), .second, .val (.ref b135), .val (.ref b146), .val (.ref b165), .val (.long aa), .second, .val (.ref bq238), .val (.ref bq249), .val (.int (1 : Int32)), .unset] [(.ref bq249)]))
    refine gs (fun t k => XS.iconst X249.here hx rfl (hb hby at_264) k) ?_
    show G (T249.setTop (mkF m 265 #[.val (.int p0), .val (.int p1), .val (.int p2), .val (.int p3), .val (.int p4), .val (.int p5), .val (.long s0), .second, .val (.long s1), .second, .val (.int (1 : Int32)), .val (.long (((2 : Int64) * s0) + (1 : Int64))), .second, .val (.long D1), .second, .val (.ref b135), .val (.ref b146), .val (.ref b165), .val (.long aa), .second, .val (.ref bq238), .val (.ref bq249), .val (.int (1 : Int32)), .unset] [(.int (1 : Int32)), (.ref bq249)]))
    obtain ⟨lc267, lA267, -, lS267, lN267, lH267, -⟩ := id Vq249
    have lin267 : ¬ ((1 : Int32) < 0 ∨ lc267.slots.size ≤ ((1 : Int32)).toNatClampNeg) := inb_of lS267 ⟨by decide, by decide⟩
    have lat267 : lc267.slots[((1 : Int32)).toNatClampNeg]? = some (.double (FP.ddiv x1 (FP.l2d D1))) := lH267 1 (by rw [lS267]; decide)
    refine gs (fun t k => X249.daload hx (j := (1 : Int32)) (v := (.double (FP.ddiv x1 (FP.l2d D1)))) lA267.1 (State.isArrayOf_alike hZ.alike lA267.2.1) lA267.2.2 lin267 lat267 (g := (mkF m 265 #[.val (.int p0), .val (.int p1), .val (.int p2), .val (.int p3), .val (.int p4), .val (.int p5), .val (.long s0), .second, .val (.long s1), .second, .val (.int (1 : Int32)), .val (.long (((2 : Int64) * s0) + (1 : Int64))), .second, .val (.long D1), .second, .val (.ref b135), .val (.ref b146), .val (.ref b165), .val (.long aa), .second, .val (.ref bq238), .val (.ref bq249), .val (.int (1 : Int32)), .unset] [(.int (1 : Int32)), (.ref bq249)])) rfl rfl (hb hby at_265) _ k) ?_
    show G (T249.setTop (mkF m 266 #[.val (.int p0), .val (.int p1), .val (.int p2), .val (.int p3), .val (.int p4), .val (.int p5), .val (.long s0), .second, .val (.long s1), .second, .val (.int (1 : Int32)), .val (.long (((2 : Int64) * s0) + (1 : Int64))), .second, .val (.long D1), .second, .val (.ref b135), .val (.ref b146), .val (.ref b165), .val (.long aa), .second, .val (.ref bq238), .val (.ref bq249), .val (.int (1 : Int32)), .unset] [(.double (FP.ddiv x1 (FP.l2d D1)))]))
    refine gs (fun t k => XS.iloadN X249.here hx rfl (hb hby at_266) rfl k) ?_
    show G (T249.setTop (mkF m 267 #[.val (.int p0), .val (.int p1), .val (.int p2), .val (.int p3), .val (.int p4), .val (.int p5), .val (.long s0), .second, .val (.long s1), .second, .val (.int (1 : Int32)), .val (.long (((2 : Int64) * s0) + (1 : Int64))), .second, .val (.long D1), .second, .val (.ref b135), .val (.ref b146), .val (.ref b165), .val (.long aa), .second, .val (.ref bq238), .val (.ref bq249), .val (.int (1 : Int32)), .unset] [(.int p1), (.double (FP.ddiv x1 (FP.l2d D1)))]))
    refine gs (fun t k => XS.i2dS X249.here hx rfl (hb hby at_267) rfl rfl k) ?_
    show G (T249.setTop (mkF m 268 #[.val (.int p0), .val (.int p1), .val (.int p2), .val (.int p3), .val (.int p4), .val (.int p5), .val (.long s0), .second, .val (.long s1), .second, .val (.int (1 : Int32)), .val (.long (((2 : Int64) * s0) + (1 : Int64))), .second, .val (.long D1), .second, .val (.ref b135), .val (.ref b146), .val (.ref b165), .val (.long aa), .second, .val (.ref bq238), .val (.ref bq249), .val (.int (1 : Int32)), .unset] [(.double (FP.i2d p1)), (.double (FP.ddiv x1 (FP.l2d D1)))]))
    refine gs (fun t k => XS.dcmpS X249.here hx rfl (hb hby at_268) rfl (own_cmp (own_q D1p D1q hx1) (FP.Core.i2d_int p1)) k) ?_
    show G (T249.setTop (mkF m 269 #[.val (.int p0), .val (.int p1), .val (.int p2), .val (.int p3), .val (.int p4), .val (.int p5), .val (.long s0), .second, .val (.long s1), .second, .val (.int (1 : Int32)), .val (.long (((2 : Int64) * s0) + (1 : Int64))), .second, .val (.long D1), .second, .val (.ref b135), .val (.ref b146), .val (.ref b165), .val (.long aa), .second, .val (.ref bq238), .val (.ref bq249), .val (.int (1 : Int32)), .unset] [(.int (0 : Int32))]))
    refine gs (fun t k => XS.ifNo X249.here hx rfl (hb hby at_269) rfl ((if0 _ _).trans (teq (by decide : (0 : Int32) = (0 : Int32))).2) k) ?_
    show G (T249.setTop (mkF m 272 #[.val (.int p0), .val (.int p1), .val (.int p2), .val (.int p3), .val (.int p4), .val (.int p5), .val (.long s0), .second, .val (.long s1), .second, .val (.int (1 : Int32)), .val (.long (((2 : Int64) * s0) + (1 : Int64))), .second, .val (.long D1), .second, .val (.ref b135), .val (.ref b146), .val (.ref b165), .val (.long aa), .second, .val (.ref bq238), .val (.ref bq249), .val (.int (1 : Int32)), .unset] []))
    refine gs (fun t k => XS.aload X249.here hx rfl (hb hby at_272) rfl rfl k) ?_
    show G (T249.setTop (mkF m 274 #[.val (.int p0), .val (.int p1), .val (.int p2), .val (.int p3), .val (.int p4), .val (.int p5), .val (.long s0), .second, .val (.long s1), .second, .val (.int (1 : Int32)), .val (.long (((2 : Int64) * s0) + (1 : Int64))), .second, .val (.long D1), .second, .val (.ref b135), .val (.ref b146), .val (.ref b165), .val (.long aa), .second, .val (.ref bq238), .val (.ref bq249), .val (.int (1 : Int32)), .unset] [(.ref bq249)]))
    refine gs (fun t k => XS.iconst X249.here hx rfl (hb hby at_274) k) ?_
    show G (T249.setTop (mkF m 275 #[.val (.int p0), .val (.int p1), .val (.int p2), .val (.int p3), .val (.int p4), .val (.int p5), .val (.long s0), .second, .val (.long s1), .second, .val (.int (1 : Int32)), .val (.long (((2 : Int64) * s0) + (1 : Int64))), .second, .val (.long D1), .second, .val (.ref b135), .val (.ref b146), .val (.ref b165), .val (.long aa), .second, .val (.ref bq238), .val (.ref bq249), .val (.int (1 : Int32)), .unset] [(.int (2 : Int32)), (.ref bq249)]))
    obtain ⟨lc268, lA268, -, lS268, lN268, lH268, -⟩ := id Vq249
    have lin268 : ¬ ((2 : Int32) < 0 ∨ lc268.slots.size ≤ ((2 : Int32)).toNatClampNeg) := inb_of lS268 ⟨by decide, by decide⟩
    have lat268 : lc268.slots[((2 : Int32)).toNatClampNeg]? = some (.double (FP.ddiv x2 (FP.l2d 1))) := lH268 2 (by rw [lS268]; decide)
    refine gs (fun t k => X249.daload hx (j := (2 : Int32)) (v := (.double (FP.ddiv x2 (FP.l2d 1)))) lA268.1 (State.isArrayOf_alike hZ.alike lA268.2.1) lA268.2.2 lin268 lat268 (g := (mkF m 275 #[.val (.int p0), .val (.int p1), .val (.int p2), .val (.int p3), .val (.int p4), .val (.int p5), .val (.long s0), .second, .val (.long s1), .second, .val (.int (1 : Int32)), .val (.long (((2 : Int64) * s0) + (1 : Int64))), .second, .val (.long D1), .second, .val (.ref b135), .val (.ref b146), .val (.ref b165), .val (.long aa), .second, .val (.ref bq238), .val (.ref bq249), .val (.int (1 : Int32)), .unset] [(.int (2 : Int32)), (.ref bq249)])) rfl rfl (hb hby at_275) _ k) ?_
    show G (T249.setTop (mkF m 276 #[.val (.int p0), .val (.int p1), .val (.int p2), .val (.int p3), .val (.int p4), .val (.int p5), .val (.long s0), .second, .val (.long s1), .second, .val (.int (1 : Int32)), .val (.long (((2 : Int64) * s0) + (1 : Int64))), .second, .val (.long D1), .second, .val (.ref b135), .val (.ref b146), .val (.ref b165), .val (.long aa), .second, .val (.ref bq238), .val (.ref bq249), .val (.int (1 : Int32)), .unset] [(.double (FP.ddiv x2 (FP.l2d 1)))]))
    refine gs (fun t k => XS.iloadN X249.here hx rfl (hb hby at_276) rfl k) ?_
    show G (T249.setTop (mkF m 277 #[.val (.int p0), .val (.int p1), .val (.int p2), .val (.int p3), .val (.int p4), .val (.int p5), .val (.long s0), .second, .val (.long s1), .second, .val (.int (1 : Int32)), .val (.long (((2 : Int64) * s0) + (1 : Int64))), .second, .val (.long D1), .second, .val (.ref b135), .val (.ref b146), .val (.ref b165), .val (.long aa), .second, .val (.ref bq238), .val (.ref bq249), .val (.int (1 : Int32)), .unset] [(.int p2), (.double (FP.ddiv x2 (FP.l2d 1)))]))
    refine gs (fun t k => XS.i2dS X249.here hx rfl (hb hby at_277) rfl rfl k) ?_
    show G (T249.setTop (mkF m 278 #[.val (.int p0), .val (.int p1), .val (.int p2), .val (.int p3), .val (.int p4), .val (.int p5), .val (.long s0), .second, .val (.long s1), .second, .val (.int (1 : Int32)), .val (.long (((2 : Int64) * s0) + (1 : Int64))), .second, .val (.long D1), .second, .val (.ref b135), .val (.ref b146), .val (.ref b165), .val (.long aa), .second, .val (.ref bq238), .val (.ref bq249), .val (.int (1 : Int32)), .unset] [(.double (FP.i2d p2)), (.double (FP.ddiv x2 (FP.l2d 1)))]))
    refine gs (fun t k => XS.dcmpS X249.here hx rfl (hb hby at_278) rfl (own_cmp (own_q2 hx2) (FP.Core.i2d_int p2)) k) ?_
    show G (T249.setTop (mkF m 279 #[.val (.int p0), .val (.int p1), .val (.int p2), .val (.int p3), .val (.int p4), .val (.int p5), .val (.long s0), .second, .val (.long s1), .second, .val (.int (1 : Int32)), .val (.long (((2 : Int64) * s0) + (1 : Int64))), .second, .val (.long D1), .second, .val (.ref b135), .val (.ref b146), .val (.ref b165), .val (.long aa), .second, .val (.ref bq238), .val (.ref bq249), .val (.int (1 : Int32)), .unset] [(.int (0 : Int32))]))
    refine gs (fun t k => XS.ifNo X249.here hx rfl (hb hby at_279) rfl ((if0 _ _).trans (teq (by decide : (0 : Int32) = (0 : Int32))).2) k) ?_
    show G (T249.setTop (mkF m 282 #[.val (.int p0), .val (.int p1), .val (.int p2), .val (.int p3), .val (.int p4), .val (.int p5), .val (.long s0), .second, .val (.long s1), .second, .val (.int (1 : Int32)), .val (.long (((2 : Int64) * s0) + (1 : Int64))), .second, .val (.long D1), .second, .val (.ref b135), .val (.ref b146), .val (.ref b165), .val (.long aa), .second, .val (.ref bq238), .val (.ref bq249), .val (.int (1 : Int32)), .unset] []))
    refine gs (fun t k => XS.iconst X249.here hx rfl (hb hby at_282) k) ?_
    show G (T249.setTop (mkF m 283 #[.val (.int p0), .val (.int p1), .val (.int p2), .val (.int p3), .val (.int p4), .val (.int p5), .val (.long s0), .second, .val (.long s1), .second, .val (.int (1 : Int32)), .val (.long (((2 : Int64) * s0) + (1 : Int64))), .second, .val (.long D1), .second, .val (.ref b135), .val (.ref b146), .val (.ref b165), .val (.long aa), .second, .val (.ref bq238), .val (.ref bq249), .val (.int (1 : Int32)), .unset] [(.int (1 : Int32))]))
    refine gs (fun t k => XS.goto X249.here hx rfl (pc0 := 283) (pc' := 287) rfl (hb hby at_283) (by decide) (by decide) k) ?_
    show G (T249.setTop (mkF m 287 #[.val (.int p0), .val (.int p1), .val (.int p2), .val (.int p3), .val (.int p4), .val (.int p5), .val (.long s0), .second, .val (.long s1), .second, .val (.int (1 : Int32)), .val (.long (((2 : Int64) * s0) + (1 : Int64))), .second, .val (.long D1), .second, .val (.ref b135), .val (.ref b146), .val (.ref b165), .val (.long aa), .second, .val (.ref bq238), .val (.ref bq249), .val (.int (1 : Int32)), .unset] [(.int (1 : Int32))]))
    refine gs (fun t k => XS.istore X249.here hx rfl (hb hby at_287) rfl (l' := #[.val (.int p0), .val (.int p1), .val (.int p2), .val (.int p3), .val (.int p4), .val (.int p5), .val (.long s0), .second, .val (.long s1), .second, .val (.int (1 : Int32)), .val (.long (((2 : Int64) * s0) + (1 : Int64))), .second, .val (.long D1), .second, .val (.ref b135), .val (.ref b146), .val (.ref b165), .val (.long aa), .second, .val (.ref bq238), .val (.ref bq249), .val (.int (1 : Int32)), .val (.int (1 : Int32))]) rfl k) ?_
    show G (T249.setTop (mkF m 289 #[.val (.int p0), .val (.int p1), .val (.int p2), .val (.int p3), .val (.int p4), .val (.int p5), .val (.long s0), .second, .val (.long s1), .second, .val (.int (1 : Int32)), .val (.long (((2 : Int64) * s0) + (1 : Int64))), .second, .val (.long D1), .second, .val (.ref b135), .val (.ref b146), .val (.ref b165), .val (.long aa), .second, .val (.ref bq238), .val (.ref bq249), .val (.int (1 : Int32)), .val (.int (1 : Int32))] []))
    refine gs (fun t k => XS.iload X249.here hx rfl (hb hby at_289) rfl k) ?_
    show G (T249.setTop (mkF m 291 #[.val (.int p0), .val (.int p1), .val (.int p2), .val (.int p3), .val (.int p4), .val (.int p5), .val (.long s0), .second, .val (.long s1), .second, .val (.int (1 : Int32)), .val (.long (((2 : Int64) * s0) + (1 : Int64))), .second, .val (.long D1), .second, .val (.ref b135), .val (.ref b146), .val (.ref b165), .val (.long aa), .second, .val (.ref bq238), .val (.ref bq249), .val (.int (1 : Int32)), .val (.int (1 : Int32))] [(.int (1 : Int32))]))
    refine gs (fun t k => XS.ifNo X249.here hx rfl (hb hby at_291) rfl ((if0 _ _).trans (feq (by decide : ¬ ((1 : Int32) = (0 : Int32)))).1) k) ?_
    show G (T249.setTop (mkF m 294 #[.val (.int p0), .val (.int p1), .val (.int p2), .val (.int p3), .val (.int p4), .val (.int p5), .val (.long s0), .second, .val (.long s1), .second, .val (.int (1 : Int32)), .val (.long (((2 : Int64) * s0) + (1 : Int64))), .second, .val (.long D1), .second, .val (.ref b135), .val (.ref b146), .val (.ref b165), .val (.long aa), .second, .val (.ref bq238), .val (.ref bq249), .val (.int (1 : Int32)), .val (.int (1 : Int32))] []))
    refine gs (fun t k => XS.iload X249.here hx rfl (hb hby at_294) rfl k) ?_
    show G (T249.setTop (mkF m 296 #[.val (.int p0), .val (.int p1), .val (.int p2), .val (.int p3), .val (.int p4), .val (.int p5), .val (.long s0), .second, .val (.long s1), .second, .val (.int (1 : Int32)), .val (.long (((2 : Int64) * s0) + (1 : Int64))), .second, .val (.long D1), .second, .val (.ref b135), .val (.ref b146), .val (.ref b165), .val (.long aa), .second, .val (.ref bq238), .val (.ref bq249), .val (.int (1 : Int32)), .val (.int (1 : Int32))] [(.int (1 : Int32))]))
    refine gs (fun t k => XS.ifNo X249.here hx rfl (hb hby at_296) rfl ((if0 _ _).trans (feq (by decide : ¬ ((1 : Int32) = (0 : Int32)))).1) k) ?_
    show G (T249.setTop (mkF m 299 #[.val (.int p0), .val (.int p1), .val (.int p2), .val (.int p3), .val (.int p4), .val (.int p5), .val (.long s0), .second, .val (.long s1), .second, .val (.int (1 : Int32)), .val (.long (((2 : Int64) * s0) + (1 : Int64))), .second, .val (.long D1), .second, .val (.ref b135), .val (.ref b146), .val (.ref b165), .val (.long aa), .second, .val (.ref bq238), .val (.ref bq249), .val (.int (1 : Int32)), .val (.int (1 : Int32))] []))
    refine gs (fun t k => XS.iconst X249.here hx rfl (hb hby at_299) k) ?_
    show G (T249.setTop (mkF m 300 #[.val (.int p0), .val (.int p1), .val (.int p2), .val (.int p3), .val (.int p4), .val (.int p5), .val (.long s0), .second, .val (.long s1), .second, .val (.int (1 : Int32)), .val (.long (((2 : Int64) * s0) + (1 : Int64))), .second, .val (.long D1), .second, .val (.ref b135), .val (.ref b146), .val (.ref b165), .val (.long aa), .second, .val (.ref bq238), .val (.ref bq249), .val (.int (1 : Int32)), .val (.int (1 : Int32))] [(.int (1 : Int32))]))
    refine gs (fun t k => XS.goto X249.here hx rfl (pc0 := 300) (pc' := 304) rfl (hb hby at_300) (by decide) (by decide) k) ?_
    show G (T249.setTop (mkF m 304 #[.val (.int p0), .val (.int p1), .val (.int p2), .val (.int p3), .val (.int p4), .val (.int p5), .val (.long s0), .second, .val (.long s1), .second, .val (.int (1 : Int32)), .val (.long (((2 : Int64) * s0) + (1 : Int64))), .second, .val (.long D1), .second, .val (.ref b135), .val (.ref b146), .val (.ref b165), .val (.long aa), .second, .val (.ref bq238), .val (.ref bq249), .val (.int (1 : Int32)), .val (.int (1 : Int32))] [(.int (1 : Int32))]))
    obtain ⟨fs, hr, hrun, hended, hW, hsame⟩ := X249.leave (v := some (.int (1 : Int32))) (fun h => by rw [Bd.returns] at h; cases h)
    refine gl _ ⟨_, _, retN X249 hx (t := .boolean) Bd.returns (by simp) (hb hby at_304) hr, hrun, hended, _, _, rfl, ?_, ⟨_, rfl⟩, hW, hsame.mono (by decide) (by decide)⟩
    show Q0 h0 n0 _ T249.heap _
    exact ⟨rfl, N249⟩
set_option maxRecDepth 65536 in
set_option maxHeartbeats 40000000 in
theorem comes_1 {Post : Tables → Env → Array Value → State → Outcome → State → Prop} (hpost : ∀ tb e args s v u, (limb_1_1.after args s (.returned v) u = true ∧ limb_1_2.after args s (.returned v) u = true ∧ True) → FrameEnd s (.returned v) u (Jvm.fieldLocs frame_1_writes args s ++ Jvm.arrayLocs frame_1_arrays args s ++ Jvm.staticLocs frame_1_statics s) 24 128 → Post tb e args s (.returned v) u) :
    ArmFor flags0 classFile x code maxLocals ret World_1 tables_1 room_1 Calls_1 rest_1 Pre_1 Post := by
  intro l hfl _ _ p e ha hc hk s m args below hf hA hF happ hP
  obtain ⟨hcalls, hrest, hpre⟩ := hP
  obtain ⟨-, -, -, hnamed, -, -, -, hat⟩ := (Spec.applies_iff hf).mp happ
  obtain ⟨hg, hn⟩ := and_e (Cond.before_iff.mp (show (Jvm.Cond.and given_1 narrow_1).before args s = true from hpre))
  obtain ⟨hg0, hg1⟩ := and_e hg
  obtain ⟨hv0, ht0⟩ := and_e hg1
  obtain ⟨hv1, ht1⟩ := and_e ht0
  obtain ⟨hv2, ht2⟩ := and_e ht1
  obtain ⟨hv3, ht3⟩ := and_e ht2
  obtain ⟨hv4, ht4⟩ := and_e ht3
  have hv5 := ht4
  obtain ⟨w0, w1, w2, w3, w4, w5, rfl⟩ : ∃ w0 w1 w2 w3 w4 w5 : Value, args = #[w0, w1, w2, w3, w4, w5] := by
    have hs : args.size = 6 := by simpa [Cond.value, given_1] using hg0
    obtain ⟨L⟩ := args
    match L, hs with
    | [w0, w1, w2, w3, w4, w5], _ => exact ⟨w0, w1, w2, w3, w4, w5, rfl⟩
  have hw := fun d (hd : d ∈ tables_1) => atoms_spec (ws := Jvm.Cond.code x code maxLocals ret :: tables_1) hat d (List.mem_cons_of_mem _ hd)
  have hfit : Fit s := fun {y c} hc i hi => by
    obtain ⟨ha, rfl⟩ := Array.getElem?_eq_some_iff.mp hc
    have q := List.all_eq_true.mp ((Array.all_eq_true_iff_forall_mem.mp hF) _ (Array.getElem_mem ha)) i (List.mem_range.mpr hi)
    simpa [Array.getElem?_eq_getElem hi] using q
  obtain ⟨i0, ei0⟩ := is_v hv0
  obtain rfl : w0 = (.int i0) := Option.some.inj ei0
  obtain ⟨i1, ei1⟩ := is_v hv1
  obtain rfl : w1 = (.int i1) := Option.some.inj ei1
  obtain ⟨i2, ei2⟩ := is_v hv2
  obtain rfl : w2 = (.int i2) := Option.some.inj ei2
  obtain ⟨i3, ei3⟩ := is_v hv3
  obtain rfl : w3 = (.int i3) := Option.some.inj ei3
  obtain ⟨i4, ei4⟩ := is_v hv4
  obtain rfl : w4 = (.int i4) := Option.some.inj ei4
  obtain ⟨i5, ei5⟩ := is_v hv5
  obtain rfl : w5 = (.int i5) := Option.some.inj ei5
  obtain ⟨n, o, h1, h2, h3, _, L, rfl, ⟨rfl, N⟩, hq⟩ := rm0 l s _ hw tables_1 i0 i1 i2 i3 i4 i5 s.heap s.heap.size (Nat.le_refl _)  p e ha hc hk s m _ below hf ((Spec.applies_iff_loose hf).mp happ).1 ⟨rfl, State.Warmed39.refl s, rfl⟩ trivial
  refine ⟨n, _, h1, h2, h3, hpost _ _ _ _ _ _ ⟨Cond.after_iff.mpr rfl, Cond.after_iff.mpr (eq_i res_at (Term.int_eval (1)) rfl), trivial⟩ ⟨hq.1, hq.2.1, (hq.2.2.sift fun y hy => Or.inr (N y hy)).mono (by decide) (by decide)⟩⟩
theorem main_1_1 : Claimed_1_1 := comes_1 fun _ _ _ _ _ _ h hF => ⟨h.1, hF⟩
theorem main_1_2 : Claimed_1_2 := comes_1 fun _ _ _ _ _ _ h hF => ⟨h.2.1, hF⟩
end Jvm.Pilot.@@N@@
namespace Jvm.Pilot.@@N@@
open Jvm Jvm.ClassFile Sem Op Lib Jvm.Free Jvm.Stand Jvm.Pilot.@@N@@.Jvm.D
/-! MADE BY PROGRAM (witnessworld.py) out of the Statement's table words and the real class files: 11 classes; the members and pool entries that the words name. The judged class is class 1, her method 1. -/
namespace start1
open Jvm.ClassFile
def u (s : String) : CpInfo := .utf8 (stringToUtf16 s)
/-- a pool by its gaps: so many unusable entries, then the entry; so many at the end -/
def gap : Nat → List CpInfo → List CpInfo
  | 0, r => r
  | n + 1, r => .unusable :: gap n r
def poolList (es : List (Nat × CpInfo)) (last : Nat) : List CpInfo := es.foldr (fun e r => gap e.1 (e.2 :: r)) (gap last [])
def pool (es : List (Nat × CpInfo)) (last : Nat) : Array CpInfo := ⟨poolList es last⟩
def fileOf (pool : Array CpInfo) (this : Nat) (attrs : Array Attribute := #[]) (ms : Array MethodInfo := #[]) (fl : Nat := 33) (sup : Nat := 0) (ifs : Array Nat := #[]) (fds : Array FieldInfo := #[]) : ClassFile where
  minorVersion := 0
  majorVersion := 65
  constantPool := pool
  accessFlags := fl
  thisClass := this
  superClass := sup
  interfaces := ifs
  fields := fds
  methods := ms
  attributes := attrs
def plain (name : String) (sup : Option ClassId) : Class where
  name := name
  kind := .ordinary
  loader := none
  accessFlags := 33
  super := sup
  interfaces := #[]
  cf := none
  fields := #[]
  methods := #[]
  instanceTypes := #[]
  staticTypes := #[]
  resolved := #[]
  callSites := []
  init := .initialized
  statics := none
  mirror := none

def pool0 : Array CpInfo := pool [(5, u "<init>"), (0, u "()V"), (1, .class_ 10), (1, u "java/lang/Object"), (85, u "clone"), (0, u "()Ljava/lang/Object;")] 26

def k0c0 : Code := { maxStack := 0, maxLocals := 1, code := object_method_1_code, exceptionTable := #[], attributes := #[] }
def k0m0 : Method := { name := "<init>", desc := "()V", sig := { parameters := [], returnType := none }, accessFlags := 1, code := some k0c0 }
def k0m1 : Method := { name := "clone", desc := "()Ljava/lang/Object;", sig := { parameters := [], returnType := some (.object "java/lang/Object") }, accessFlags := 260, code := none }
/-- java/lang/Object -/
def k0 : Class := { plain "java/lang/Object" none with
  accessFlags := 33
  interfaces := #[]
  cf := some (fileOf pool0 8 #[] #[{ accessFlags := 1, nameIndex := 5, descriptorIndex := 6, attributes := #[] }, { accessFlags := 260, nameIndex := 96, descriptorIndex := 97, attributes := #[] }] 33 0 #[] #[])
  fields := #[]
  methods := #[k0m0, k0m1]
  instanceTypes := #[]
  staticTypes := #[]
  resolved := Array.replicate 124 none
  statics := none }

def pool1 : Array CpInfo := pool [(2, .class_ 4), (1, u "java/lang/Object"), (0, u "<init>"), (0, u "()V"), (0, .long 2), (1, .class_ 10), (0, u "com/example/consensus_to_coverage/consensustocoverage/reranking/ProportionalSeats"), (0, .methodref 9 12), (0, .nameAndType 5 13), (0, u "([D[I)V"), (0, .methodref 9 15), (0, .nameAndType 16 17), (0, u "add"), (0, u "(ID)V"), (0, .double 4602678819172646912), (1, .methodref 9 21), (0, .nameAndType 22 23), (0, u "quotients"), (0, u "()[D"), (0, .class_ 25), (0, u "com/example/consensus_to_coverage/consensustocoverage/reranking/ProportionalSeatsQuotientsPinLaw"), (2, u "law"), (0, u "(IIIIII)Z")] 7

def k1m0 : Method := { name := "<init>", desc := "()V", sig := { parameters := [], returnType := none }, accessFlags := 1, code := none }
def k1c1 : Code := { maxStack := 7, maxLocals := 24, code := code, exceptionTable := #[], attributes := #[] }
def k1m1 : Method := { name := "law", desc := "(IIIIII)Z", sig := { parameters := [.int, .int, .int, .int, .int, .int], returnType := some .boolean }, accessFlags := 9, code := some k1c1 }
/-- com/example/consensus_to_coverage/consensustocoverage/reranking/ProportionalSeatsQuotientsPinLaw -/
def k1 : Class := { plain "com/example/consensus_to_coverage/consensustocoverage/reranking/ProportionalSeatsQuotientsPinLaw" (some 0) with
  accessFlags := 49
  interfaces := #[]
  cf := some (fileOf pool1 24 #[] #[{ accessFlags := 1, nameIndex := 5, descriptorIndex := 6, attributes := #[] }, { accessFlags := 9, nameIndex := 28, descriptorIndex := 29, attributes := #[] }] 49 2 #[] #[])
  fields := #[]
  methods := #[k1m0, k1m1]
  instanceTypes := #[]
  staticTypes := #[]
  resolved := Array.replicate 37 none
  statics := none }

def pool2 : Array CpInfo := pool [(1, .methodref 2 3), (0, .class_ 4), (0, .nameAndType 5 6), (0, u "java/lang/Object"), (0, u "<init>"), (0, u "()V"), (0, .methodref 8 9), (0, .class_ 10), (0, .nameAndType 11 12), (0, u "[D"), (0, u "clone"), (0, u "()Ljava/lang/Object;"), (0, .fieldref 14 15), (0, .class_ 16), (0, .nameAndType 17 10), (0, u "com/example/consensus_to_coverage/consensustocoverage/reranking/ProportionalSeats"), (0, u "weights"), (0, .methodref 19 9), (0, .class_ 20), (0, u "[I"), (0, .fieldref 14 22), (0, .nameAndType 23 20), (0, u "places"), (0, .fieldref 14 25), (0, .nameAndType 26 10), (0, u "seats"), (8, u "([D[I)V"), (8, u "quotients"), (0, u "()[D"), (14, u "add"), (0, u "(ID)V"), (4, .double 4611686018427387904)] 12

def k2c0 : Code := { maxStack := 2, maxLocals := 3, code := prog_41_method_1_code, exceptionTable := #[], attributes := #[] }
def k2m0 : Method := { name := "<init>", desc := "([D[I)V", sig := { parameters := [(.array .double), (.array .int)], returnType := none }, accessFlags := 1, code := some k2c0 }
def k2c1 : Code := { maxStack := 8, maxLocals := 3, code := prog_41_method_4_code, exceptionTable := #[], attributes := #[] }
def k2m1 : Method := { name := "quotients", desc := "()[D", sig := { parameters := [], returnType := some (.array .double) }, accessFlags := 1, code := some k2c1 }
def k2c2 : Code := { maxStack := 6, maxLocals := 4, code := prog_41_method_6_code, exceptionTable := #[], attributes := #[] }
def k2m2 : Method := { name := "add", desc := "(ID)V", sig := { parameters := [.int, .double], returnType := none }, accessFlags := 1, code := some k2c2 }
/-- com/example/consensus_to_coverage/consensustocoverage/reranking/ProportionalSeats -/
def k2 : Class := { plain "com/example/consensus_to_coverage/consensustocoverage/reranking/ProportionalSeats" (some 0) with
  accessFlags := 49
  interfaces := #[]
  cf := some (fileOf pool2 14 #[] #[{ accessFlags := 1, nameIndex := 5, descriptorIndex := 35, attributes := #[] }, { accessFlags := 1, nameIndex := 44, descriptorIndex := 45, attributes := #[] }, { accessFlags := 1, nameIndex := 60, descriptorIndex := 61, attributes := #[] }] 49 2 #[] #[{ accessFlags := 18, nameIndex := 17, descriptorIndex := 10, attributes := #[] }, { accessFlags := 18, nameIndex := 23, descriptorIndex := 20, attributes := #[] }, { accessFlags := 18, nameIndex := 26, descriptorIndex := 10, attributes := #[] }])
  fields := #[{ name := "weights", type := (.array .double), accessFlags := 18, slot := 0, constantValue := 0 }, { name := "places", type := (.array .int), accessFlags := 18, slot := 1, constantValue := 0 }, { name := "seats", type := (.array .double), accessFlags := 18, slot := 2, constantValue := 0 }]
  methods := #[k2m0, k2m1, k2m2]
  instanceTypes := #[(.array .double), (.array .int), (.array .double)]
  staticTypes := #[]
  resolved := Array.replicate 79 none
  statics := none }

def pool3 : Array CpInfo := pool [(1, .class_ 2), (0, u "java/lang/Cloneable"), (0, .class_ 4), (0, u "java/lang/Object")] 2

/-- java/lang/Cloneable -/
def k3 : Class := { plain "java/lang/Cloneable" (some 0) with
  accessFlags := 1537
  interfaces := #[]
  cf := some (fileOf pool3 1 #[] #[] 1537 3 #[] #[])
  fields := #[]
  methods := #[]
  instanceTypes := #[]
  staticTypes := #[]
  resolved := Array.replicate 7 none
  statics := none }

def pool4 : Array CpInfo := pool [(1, u "java/io/Serializable"), (0, .class_ 1), (0, u "java/lang/Object"), (0, .class_ 3)] 3

/-- java/io/Serializable -/
def k4 : Class := { plain "java/io/Serializable" (some 0) with
  accessFlags := 1537
  interfaces := #[]
  cf := some (fileOf pool4 2 #[] #[] 1537 4 #[] #[])
  fields := #[]
  methods := #[]
  instanceTypes := #[]
  staticTypes := #[]
  resolved := Array.replicate 8 none
  statics := none }

/-- the primitive byte -/
def k5 : Class := { plain "byte" none with kind := .primitive 'B', accessFlags := 0x411 }
/-- [B -/
def k6 : Class := { plain "[B" (some 0) with kind := .array 5 .byte, interfaces := #[3, 4], accessFlags := 1041 }

/-- the primitive double -/
def k7 : Class := { plain "double" none with kind := .primitive 'D', accessFlags := 0x411 }
/-- [D -/
def k8 : Class := { plain "[D" (some 0) with kind := .array 7 .double, interfaces := #[3, 4], accessFlags := 1041 }

/-- the primitive int -/
def k9 : Class := { plain "int" none with kind := .primitive 'I', accessFlags := 0x411 }
/-- [I -/
def k10 : Class := { plain "[I" (some 0) with kind := .array 9 .int, interfaces := #[3, 4], accessFlags := 1041 }

def heap : Heap := #[]
def classes : Array Class := #[k0, k1, k2, k3, k4, k5, k6, k7, k8, k9, k10]
def interned : List (Array UInt16 × Addr) := []
def slotsUsed : Nat := 0
def theMethod : MethodId := ⟨1, 1⟩
def args0 : Array Value := #[.int 5, .int 6, .int 7, .int 8, .int 9, .int 3]
def aboutOver (below : List Frame) : State where
  vm := { classes := classes, interned := interned.toArray }
  heap := heap
  slotsUsed := slotsUsed
  threads := #[{ frames := .invoking theMethod args0 :: below }]
def below0 : List Frame := [.native { method := ⟨0, 0⟩, args := #[] }]
def about1 : State := aboutOver below0
def p0 : Program := .bare "" "" ""
def e0 : Env := launch0.env 0 0 0
theorem w_frames : about1.frames = Frame.invoking theMethod args0 :: below0 := rfl
set_option maxRecDepth 65536 in
theorem w_args : argsFit about1.vm theMethod args0 = true := by decide +kernel
set_option maxRecDepth 65536 in
theorem w_heap : heapFits about1 = true := by decide +kernel
set_option maxRecDepth 65536 in
theorem w_runnable : about1.curStatus? = some .runnable := by decide +kernel
set_option maxRecDepth 65536 in
theorem w_alone : about1.alone = true := by decide +kernel
set_option maxRecDepth 65536 in
theorem w_named : about1.methodNamed? x = some theMethod := by decide +kernel
set_option maxRecDepth 65536 in
theorem w_hears : about1.hears theMethod below0 = true := by decide +kernel
set_option maxRecDepth 65536 in
theorem w_ripe : about1.ripe theMethod args0 below0 = true := by decide +kernel
theorem w_running : about1.status = .running := rfl
set_option maxRecDepth 65536 in
theorem w_room : about1.hasRoom e0.platform room_1 = true :=
  launch0.hasRoom_least _ room_1 (by decide +kernel) (by decide +kernel) (by decide +kernel) (by decide +kernel) (by decide +kernel) (by decide +kernel)
theorem allAtoms_all (ts : List Jvm.Cond) (a : Array Jvm.Value) (st : Jvm.State) : (allAtoms ts).before a st = ts.all (fun c => c.before a st) := by
  induction ts with
  | nil => rfl
  | cons c t ih =>
    show (Jvm.Cond.and c (allAtoms t)).before a st = _
    rw [Jvm.Cond.before_and, ih, List.all_cons]
def words1 : List Jvm.Cond := Jvm.Cond.code x code maxLocals ret :: tables_1
/-- a 'code' word, met by the world's own term for the bytes: nothing is compared byte by byte -/
theorem code_word {y : MethodName} {bytes : ByteArray} {mx : Nat} {rt : Option FieldType} {a : Array Value} {s : State} {m : MethodId} {meth : Method} {c : Code} (h1 : s.methodNamed? y = some m) (h2 : s.vm.method? m = some meth) (h3 : meth.code = some c) (h4 : c.code = bytes)
    (h5 : (c.maxLocals == mx && c.exceptionTable.isEmpty && decide (c.maxStack ≤ mostOperands) && decide (meth.sig.returnType = rt) && !meth.locks && decide (parseMethodDescriptor y.desc = some meth.sig)) = true) : (Jvm.Cond.code y bytes mx rt).before a s = true := by
  simp only [Bool.and_eq_true, beq_iff_eq, Bool.not_eq_true', decide_eq_true_eq] at h5
  obtain ⟨⟨⟨⟨⟨g1, g2⟩, g3⟩, g4⟩, g5⟩, g6⟩ := h5
  simp [Cond.before, Cond.holds, Cond.value, h1, h2, h3, h4, g1, g2, g3, g4, g5, g6]
def isCode : Jvm.Cond → Bool
  | .code _ _ _ _ => true
  | _ => false
theorem all_split {L : List Jvm.Cond} {P : Jvm.Cond → Bool} (h1 : L.all (fun c => isCode c || P c) = true) (h2 : ∀ c ∈ L.filter isCode, P c = true) : L.all P = true := by
  refine List.all_eq_true.mpr fun c hc => ?_
  have h := List.all_eq_true.mp h1 c hc
  rcases Bool.eq_false_or_eq_true (isCode c) with hi | hi
  · exact h2 c (List.mem_filter.mpr ⟨hc, hi⟩)
  · simpa [hi] using h
set_option maxRecDepth 65536 in
theorem w_c0 : (Jvm.Cond.code x code maxLocals ret).before args0 about1 = true := code_word (m := ⟨1, 1⟩) (meth := k1m1) (c := k1c1) (by decide +kernel) rfl rfl rfl (by decide +kernel)
set_option maxRecDepth 65536 in
theorem w_c1 : (Jvm.Cond.code ({ cls := "com/example/consensus_to_coverage/consensustocoverage/reranking/ProportionalSeats", name := "<init>", desc := "([D[I)V" } : Jvm.MethodName) prog_41_method_1_code (3 : Nat) (Option.none : Option Jvm.ClassFile.FieldType)).before args0 about1 = true := code_word (m := ⟨2, 0⟩) (meth := k2m0) (c := k2c0) (by decide +kernel) rfl rfl rfl (by decide +kernel)
set_option maxRecDepth 65536 in
theorem w_c2 : (Jvm.Cond.code ({ cls := "java/lang/Object", name := "<init>", desc := "()V" } : Jvm.MethodName) object_method_1_code (1 : Nat) (Option.none : Option Jvm.ClassFile.FieldType)).before args0 about1 = true := code_word (m := ⟨0, 0⟩) (meth := k0m0) (c := k0c0) (by decide +kernel) rfl rfl rfl (by decide +kernel)
set_option maxRecDepth 65536 in
theorem w_c3 : (Jvm.Cond.code ({ cls := "com/example/consensus_to_coverage/consensustocoverage/reranking/ProportionalSeats", name := "add", desc := "(ID)V" } : Jvm.MethodName) prog_41_method_6_code (4 : Nat) (Option.none : Option Jvm.ClassFile.FieldType)).before args0 about1 = true := code_word (m := ⟨2, 2⟩) (meth := k2m2) (c := k2c2) (by decide +kernel) rfl rfl rfl (by decide +kernel)
set_option maxRecDepth 65536 in
theorem w_c4 : (Jvm.Cond.code ({ cls := "com/example/consensus_to_coverage/consensustocoverage/reranking/ProportionalSeats", name := "quotients", desc := "()[D" } : Jvm.MethodName) prog_41_method_4_code (3 : Nat) (Option.some (Jvm.ClassFile.FieldType.array Jvm.ClassFile.FieldType.double))).before args0 about1 = true := code_word (m := ⟨2, 1⟩) (meth := k2m1) (c := k2c1) (by decide +kernel) rfl rfl rfl (by decide +kernel)
def codes1 : List Jvm.Cond := [Jvm.Cond.code x code maxLocals ret, Jvm.Cond.code ({ cls := "com/example/consensus_to_coverage/consensustocoverage/reranking/ProportionalSeats", name := "<init>", desc := "([D[I)V" } : Jvm.MethodName) prog_41_method_1_code (3 : Nat) (Option.none : Option Jvm.ClassFile.FieldType), Jvm.Cond.code ({ cls := "java/lang/Object", name := "<init>", desc := "()V" } : Jvm.MethodName) object_method_1_code (1 : Nat) (Option.none : Option Jvm.ClassFile.FieldType), Jvm.Cond.code ({ cls := "com/example/consensus_to_coverage/consensustocoverage/reranking/ProportionalSeats", name := "add", desc := "(ID)V" } : Jvm.MethodName) prog_41_method_6_code (4 : Nat) (Option.none : Option Jvm.ClassFile.FieldType), Jvm.Cond.code ({ cls := "com/example/consensus_to_coverage/consensustocoverage/reranking/ProportionalSeats", name := "quotients", desc := "()[D" } : Jvm.MethodName) prog_41_method_4_code (3 : Nat) (Option.some (Jvm.ClassFile.FieldType.array Jvm.ClassFile.FieldType.double))]
set_option maxRecDepth 65536 in
theorem codes_eq : words1.filter isCode = codes1 := rfl
theorem w_codes : ∀ c ∈ words1.filter isCode, c.before args0 about1 = true := by
  rw [codes_eq]
  intro c hc
  simp only [codes1, List.mem_cons, List.not_mem_nil, or_false] at hc
  rcases hc with rfl | rfl | rfl | rfl | rfl
  · exact w_c0
  · exact w_c1
  · exact w_c2
  · exact w_c3
  · exact w_c4
set_option maxRecDepth 65536 in
theorem w_t1 : (words1.take 24).all (fun c => isCode c || c.before args0 about1) = true := by decide +kernel
set_option maxRecDepth 65536 in
theorem w_t2 : (words1.drop 24).all (fun c => isCode c || c.before args0 about1) = true := by decide +kernel
theorem w_tables : (allAtoms (Jvm.Cond.code x code maxLocals ret :: tables_1)).before args0 about1 = true := by
  rw [allAtoms_all]
  show words1.all (fun c => c.before args0 about1) = true
  refine all_split ?_ w_codes
  rw [← List.take_append_drop 24 words1, List.all_append, w_t1, w_t2]
  rfl
set_option maxRecDepth 65536 in
theorem w_case : (Jvm.Cond.and given_1 narrow_1).before args0 about1 = true := by decide +kernel
theorem w_applies : (headSpec (Jvm.Cond.code x code maxLocals ret :: tables_1) room_1).applies x e0.platform about1 = true :=
  (Spec.applies_iff w_frames).mpr ⟨w_running, w_runnable, w_alone, w_named, w_hears, w_ripe, w_room, w_tables⟩
theorem atStart : AtStart classFile x code maxLocals ret World_1 tables_1 room_1 Calls_1 rest_1 Pre_1 launch0 p0 e0 about1 theMethod args0 below0 :=
  ⟨lists_1, trivial, launch0.admits_env _ _ _, launch0.least_env, fairChoices_fair.cas, fairChoices_fair.clock, w_frames, w_args, w_heap, w_applies, trivial, trivial, w_case⟩
end start1
theorem witness_1 : WitnessClaimed_1 := ⟨start1.p0, start1.e0, start1.about1, start1.theMethod, start1.args0, start1.below0, start1.atStart⟩
end Jvm.Pilot.@@N@@
