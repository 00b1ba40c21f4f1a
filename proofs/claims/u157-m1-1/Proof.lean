import JvmDerived
import JvmDerived.Pilot.@@N@@Statement
import JvmDerived.Pilot.@@N@@Code
set_option linter.unusedVariables false
set_option linter.unusedSimpArgs false
namespace Jvm.RoadKit
open Sem ClassFile Op Lib Jvm.Stand Jvm.Free Jvm.LawKit
section New
variable {p : Program} {l : Launch} {e : Env} {R : Room} {s : State} {m : MethodId} {args : Array Value} {below : List Frame} {meth : Method} {c : Code} {T : State} {locs : List Loc} {cells slots : Nat}
theorem own_retI (X : Stand p l e R s m args below meth c T locs cells slots) (hx : p.tables.exec = Jvm.exec) {pc : Nat} {Ls : Array Slot} {z : Int32} {rest : List Value} (hret : meth.sig.returnType = some .int) (hd : decode c.code pc = .ok (.ireturn, 1)) {fs : List Frame}
    (hl : ∀ (f : JFrame) (acts : List Action), f.method = m → f.locked = none → f.entered = [] → (doReturn e (T.setTop f) acts (some (.int z))).1 = T.setFrames fs) : Steps p.tables e below (T.setTop (mkF m pc Ls (.int z :: rest))) (T.setFrames fs) :=
  retOut X hx hret rfl (Or.inl ⟨rfl, Or.inl rfl, z, rfl⟩) hd hl
theorem own_start {S S0 : State} {P : State → Outcome → Prop} (pre : ∀ t, Steps p.tables e below S t → Steps p.tables e below S0 t)
    (k : ∀ G : State → Prop, (∀ {U U' : State}, (∀ t, Steps p.tables e below U' t → Steps p.tables e below U t) → G U' → G U) → (∀ U, (∃ s₂ o, Steps p.tables e below U s₂ ∧ P s₂ o) → G U) → G S) :
    ∃ s₂ o, Steps p.tables e below S0 s₂ ∧ P s₂ o := by
  obtain ⟨t, o, h1, h2⟩ := k (fun U => ∃ s₂ o, Steps p.tables e below U s₂ ∧ P s₂ o) (fun f ⟨t, o, h1, h2⟩ => ⟨t, o, f t h1, h2⟩) (fun _ h => h)
  exact ⟨t, o, pre t h1, h2⟩
theorem own_lsw {g : JFrame} {target : State} (X : Stand p l e R s m args below meth c T locs cells slots) (hx : p.tables.exec = Jvm.exec) (hg : g.method = m) {dflt : Int} {ps : Array (Int × Int)} {len : Nat} {pc0 pc' : Nat} (hpc : g.pc = pc0) (hd : decode c.code g.pc = .ok (.lookupswitch dflt ps, len)) {i : Int32} {rest : List Value} (hs : g.stack = .int i :: rest)
    (hsort : (ps.toList.zip ps.toList.tail).all (fun q => decide (q.1.1 < q.2.1)) = true) {o : Int} (hoff : lookupswitch.offset ps.toList dflt i.toInt = o) (ho : 0 ≤ (pc0 : Int) + o) (hp : ((pc0 : Int) + o).toNat = pc') (hr : Steps p.tables e below (T.setTop { g with pc := pc', stack := rest }) target) : Steps p.tables e below (T.setTop g) target := by
  subst hg hpc hp hoff
  jvm_step X.here [X.here.top, hx, hd, hs, ho, lookupswitch.wp_chain]
  exact ⟨fun a b a1 b1 hm => by simpa using List.all_eq_true.mp hsort _ hm, hr⟩
theorem own_lt {a b : Int32} (h : a < b) : a.toInt < b.toInt := Int32.lt_iff_toInt_lt.mp h
theorem own_nlt {a b : Int32} (h : ¬ a < b) : b.toInt ≤ a.toInt := Int.not_lt.mp fun q => h (Int32.lt_iff_toInt_lt.mpr q)
theorem own_miss {a o : Int} {r : List (Int × Int)} {d k : Int} (h : a ≠ k) : lookupswitch.offset ((a, o) :: r) d k = lookupswitch.offset r d k := by rw [lookupswitch.offset_cons, if_neg h]
theorem own_nek {x K : Int32} {k : Int} (h : ¬ x = K) (e : K.toInt = k) : k ≠ x.toInt := fun q => h (Int32.toInt_inj.mp (q.symm.trans e.symm))
theorem own_sta_keep {Z : State} {h h' : Heap} {C n d : String} {v : Value} (F : Sta Z h C n d v) (K : Keep h h' []) : Sta Z h' C n d v := by
  obtain ⟨cf, i, k, f, st, cell, h1, h2, h3, h4, h5, r⟩ := F; exact ⟨cf, i, k, f, st, cell, h1, h2, h3, h4, K.2.1 _ _ h5 nin0, r⟩
theorem own_sta_keepE {Z : State} {h h' : Heap} {C n d D : String} {v : Value} {a : Addr} (F : Sta Z h C n d v) (K : Keep h h' [a]) (E : Exa Z h a D) : Sta Z h' C n d v := by
  obtain ⟨cf, i, k, f, st, cell, h1, h2, h3, h4, h5, h6, r⟩ := F
  obtain ⟨c2, k2, q1, -, -, q4, -⟩ := E
  refine ⟨cf, i, k, f, st, cell, h1, h2, h3, h4, K.2.1 _ _ h5 (ninS (fun z => ?_) nin0), h6, r⟩
  subst z; cases q1.symm.trans h5; rw [q4] at h6; cases h6
theorem own_arvset {Z : State} {h h' : Heap} {a : Addr} {c : Cell} {ty : FieldType} {k : ClassId} {z j : Int32} {vs : List Value} {dv v : Value} {N : Nat} (A : Arr Z h a c ty) (q1 : c.cls = k) (S : c.slots.size = z.toNatClampNeg) (q3 : ¬ z < 0) (H : Has c vs dv) (F : ∀ i, i < c.slots.size → fits ty (vs.getD i dv) = true) (hv : fits ty v = true) (W : Wr h h' a j.toNatClampNeg v) (i : Nat) (hj : j.toNatClampNeg = i) (hl : vs.length = N) (hi : i < N) :
    ∃ vs', vs'.length = N ∧ Arv Z h' a k ty z vs' dv := ⟨_, by rw [List.length_set]; exact hl, Arv.set A q1 S q3 H F hv W i hj (by rw [hl]; exact hi)⟩
end New
end Jvm.RoadKit
namespace Jvm.Pilot.@@N@@
open Jvm Jvm.ClassFile Sem Op Lib Jvm.Free Jvm.Stand Jvm.LawKit Jvm.RoadKit Bundle Jvm.Pilot.@@N@@.Jvm.D
def own_s (p : Int32) : Int32 := if p = (0 : Int32) then 0 else if p = (1 : Int32) then 2 else if p = (2 : Int32) then 4 else if p = (3 : Int32) then 5 else if p = (4 : Int32) then 7 else if p = (5 : Int32) then 9 else 11
theorem own_eq (a b c : Int32) : (12 : Int32) * (a + 1) + b + c = 12 * a + 12 + b + c := by
  rw [Int32.mul_add, Int32.mul_one]
theorem own_q (p q : Int32) (h : q = (p &&& (2147483647 : Int32)) % (7 : Int32)) : ¬ q < (0 : Int32) ∧ q < (7 : Int32) := by
  subst h
  have h1 := c_and p 2147483647 (by decide)
  have h2 := (c_irem (p &&& 2147483647) 7 7 (by decide)).1 h1.1
  have e0 : (0 : Int32).toInt = 0 := by decide
  have e7 : (7 : Int32).toInt = 7 := by decide
  rw [Int32.lt_iff_toInt_lt, Int32.lt_iff_toInt_lt, e0, e7, h2]
  omega
theorem own_el {args : Array Value} {s : State} {t : Term} {r0 : Addr} {cl : Cell} {i v : Int32} (ht : t.eval args s none [] s = some (.ref r0)) (hA : s.arrayAt? r0 = some cl) (hi : ¬ i < 0) (h : (Jvm.Cond.eq (.elem t (.int i)) (.int v)).value args s none s [] = some true) : cl.slots[i.toNatClampNeg]? = some (.int v) := by
  have e1 := elem_f (t := t) (a := .int i) ht (Term.int_eval i) hA hi
  have hy' : (Term.int v).eval args s none [] s = some (.int v) := Term.int_eval v
  obtain ⟨x, y, hx, hy, hk1, hk2⟩ := cmp_v (Or.inl h)
  rw [hy'] at hy
  cases hy
  obtain ⟨z, rfl⟩ := hk2
  simp [Cond.value, hx, hy'] at h
  subst h
  rw [← e1, hx]
theorem own_all {cl : Cell} (h0 : cl.slots[(0 : Int32).toNatClampNeg]? = some (.int 0)) (h1 : cl.slots[(1 : Int32).toNatClampNeg]? = some (.int 2)) (h2 : cl.slots[(2 : Int32).toNatClampNeg]? = some (.int 4)) (h3 : cl.slots[(3 : Int32).toNatClampNeg]? = some (.int 5)) (h4 : cl.slots[(4 : Int32).toNatClampNeg]? = some (.int 7)) (h5 : cl.slots[(5 : Int32).toNatClampNeg]? = some (.int 9)) (h6 : cl.slots[(6 : Int32).toNatClampNeg]? = some (.int 11)) :
    ∀ q : Int32, ¬ q < (0 : Int32) → q < (7 : Int32) → ¬ (q < 0 ∨ cl.slots.size ≤ q.toNatClampNeg) ∧ cl.slots[q.toNatClampNeg]? = some (.int (own_s q)) := by
  intro q hq0 hq7
  have key : cl.slots[q.toNatClampNeg]? = some (.int (own_s q)) := by
    have e0 : (0 : Int32).toInt = 0 := by decide
    have e7 : (7 : Int32).toInt = 7 := by decide
    rw [Int32.lt_iff_toInt_lt] at hq0 hq7
    rw [e0] at hq0
    rw [e7] at hq7
    have hc : q.toInt = 0 ∨ q.toInt = 1 ∨ q.toInt = 2 ∨ q.toInt = 3 ∨ q.toInt = 4 ∨ q.toInt = 5 ∨ q.toInt = 6 := by omega
    rcases hc with e | e | e | e | e | e | e
    · obtain rfl : q = 0 := Int32.toInt_inj.mp e
      exact h0
    · obtain rfl : q = 1 := Int32.toInt_inj.mp e
      exact h1
    · obtain rfl : q = 2 := Int32.toInt_inj.mp e
      exact h2
    · obtain rfl : q = 3 := Int32.toInt_inj.mp e
      exact h3
    · obtain rfl : q = 4 := Int32.toInt_inj.mp e
      exact h4
    · obtain rfl : q = 5 := Int32.toInt_inj.mp e
      exact h5
    · obtain rfl : q = 6 := Int32.toInt_inj.mp e
      exact h6
  refine ⟨fun h => ?_, key⟩
  rcases h with h | h
  · exact hq0 h
  · rw [Array.getElem?_eq_none h] at key; cases key
theorem d1_0 : decode method_2_code 0 = .ok (.iload_n 0, 1) := by decide +kernel
theorem d1_1 : decode method_2_code 1 = .ok (.ifCond .ne 5, 3) := by decide +kernel
theorem d1_4 : decode method_2_code 4 = .ok (.iconst 0, 1) := by decide +kernel
theorem d1_5 : decode method_2_code 5 = .ok (.ireturn, 1) := by decide +kernel
theorem d1_6 : decode method_2_code 6 = .ok (.iload_n 0, 1) := by decide +kernel
theorem d1_7 : decode method_2_code 7 = .ok (.iconst 1, 1) := by decide +kernel
theorem d1_8 : decode method_2_code 8 = .ok (.if_icmp .ne 5, 3) := by decide +kernel
theorem d1_11 : decode method_2_code 11 = .ok (.iconst 2, 1) := by decide +kernel
theorem d1_12 : decode method_2_code 12 = .ok (.ireturn, 1) := by decide +kernel
theorem d1_13 : decode method_2_code 13 = .ok (.iload_n 0, 1) := by decide +kernel
theorem d1_14 : decode method_2_code 14 = .ok (.iconst 2, 1) := by decide +kernel
theorem d1_15 : decode method_2_code 15 = .ok (.if_icmp .ne 5, 3) := by decide +kernel
theorem d1_18 : decode method_2_code 18 = .ok (.iconst 4, 1) := by decide +kernel
theorem d1_19 : decode method_2_code 19 = .ok (.ireturn, 1) := by decide +kernel
theorem d1_20 : decode method_2_code 20 = .ok (.iload_n 0, 1) := by decide +kernel
theorem d1_21 : decode method_2_code 21 = .ok (.iconst 3, 1) := by decide +kernel
theorem d1_22 : decode method_2_code 22 = .ok (.if_icmp .ne 5, 3) := by decide +kernel
theorem d1_25 : decode method_2_code 25 = .ok (.iconst 5, 1) := by decide +kernel
theorem d1_26 : decode method_2_code 26 = .ok (.ireturn, 1) := by decide +kernel
theorem d1_27 : decode method_2_code 27 = .ok (.iload_n 0, 1) := by decide +kernel
theorem d1_28 : decode method_2_code 28 = .ok (.iconst 4, 1) := by decide +kernel
theorem d1_29 : decode method_2_code 29 = .ok (.if_icmp .ne 6, 3) := by decide +kernel
theorem d1_32 : decode method_2_code 32 = .ok (.bipush 7, 2) := by decide +kernel
theorem d1_34 : decode method_2_code 34 = .ok (.ireturn, 1) := by decide +kernel
theorem d1_35 : decode method_2_code 35 = .ok (.iload_n 0, 1) := by decide +kernel
theorem d1_36 : decode method_2_code 36 = .ok (.iconst 5, 1) := by decide +kernel
theorem d1_37 : decode method_2_code 37 = .ok (.if_icmp .ne 6, 3) := by decide +kernel
theorem d1_40 : decode method_2_code 40 = .ok (.bipush 9, 2) := by decide +kernel
theorem d1_42 : decode method_2_code 42 = .ok (.ireturn, 1) := by decide +kernel
theorem d1_43 : decode method_2_code 43 = .ok (.bipush 11, 2) := by decide +kernel
theorem d1_45 : decode method_2_code 45 = .ok (.ireturn, 1) := by decide +kernel
theorem pn_com_example_stavegate_stavegate_model_PitchOfPinLaw : plainName "com/example/stavegate/stavegate/model/PitchOfPinLaw" = true := by first | (simp [plainName, overriddenIn]; done) | decide +kernel
theorem ef_1 (m : MethodId) (p0 : Int32) : entryFrame m #[(.int p0)] 1 = mkF m 0 #[.val (.int p0)] [] := by first | (simp [entryFrame, mkF, argsToLocals, Value.category]; done) | rfl
def Q1 (p0 : Int32) (h0 : Heap) (n0 : Nat) (v : Option Value) (h : Heap) (L : List Loc) : Prop := v = some (.int (own_s p0)) ∧ Fr n0 L ∧ h = h0
set_option maxRecDepth 65536 in
set_option maxHeartbeats 40000000 in
theorem rm1 (l : Launch) (Z : State) (a0 : Array Value) (hw : ∀ d ∈ tables_1, d.before a0 Z = true) (ws : List Jvm.Cond) (p0 : Int32)  (h0 : Heap) (n0 : Nat) (Z0 : n0 ≤ h0.size)  :
    MetFree l (⟨"com/example/stavegate/stavegate/model/PitchOfPinLaw", "semitoneAboveC", "(I)I"⟩ : MethodName) (head1 (Jvm.Cond.code (⟨"com/example/stavegate/stavegate/model/PitchOfPinLaw", "semitoneAboveC", "(I)I"⟩ : MethodName) method_2_code 1 (some .int) :: ws) ({ frames := 0, cells := 0, slots := 0, locals := 0 } : Room)) (fun a U => a = #[(.int p0)] ∧ Z.Warmed39 U.vm ∧ U.heap = h0) (fun _ _ _ _ _ => True) (fun _ U o U' => ∃ v L, o = .returned v ∧ Q1 p0 h0 n0 v U'.heap L ∧ FrameEnd U o U' L ({ frames := 0, cells := 0, slots := 0, locals := 0 } : Room).cells ({ frames := 0, cells := 0, slots := 0, locals := 0 } : Room).slots) := by
  refine MetFree.of_bodySF (plainFor_of_name pn_com_example_stavegate_stavegate_model_PitchOfPinLaw) hisR ?_
  intro p e s m args below meth c s₁ Bd hml0 hP hK
  obtain ⟨rfl, hZ, hh⟩ := hP
  have hx := Bd.exec
  have hby := Bd.bytes
  have hml : c.maxLocals = 1 := hml0
  have hown : s.vm.findClass "com/example/stavegate/stavegate/model/PitchOfPinLaw" = some m.cls := findClass_of_methodNamed Bd.named
  have hnm := (name_of_methodNamed Bd.named Bd.method).1
  have X0 : Stand p l e ({ frames := 0, cells := 0, slots := 0, locals := 0 } : Room) s m #[(.int p0)] below meth c s₁ [] 0 0 := Stand.of_body Bd
  have e0 : s₁.heap = h0 := by rw [← hh, Bd.state]; rfl
  have N0 := Fr.nil n0
  have pre0 : ∀ t, Steps p.tables e below (s₁.setTop (mkF m 0 #[.val (.int p0)] [])) t → Steps p.tables e below (s₁.setTop (entryFrame m #[(.int p0)] 1)) t := fun t k => castTop (ef_1 m p0) k
  have K0 := Keep.refl h0 []
  refine own_start pre0 fun G gs gl => ?_
  show G (s₁.setTop (mkF m 0 #[.val (.int p0)] []))
  refine gs (fun t k => XS.iloadN X0.here hx rfl (hb hby d1_0) rfl k) ?_
  show G (s₁.setTop (mkF m 1 #[.val (.int p0)] [(.int p0)]))
  by_cases hc1 : p0 = (0 : Int32)
  · refine gs (fun t k => XS.ifNo X0.here hx rfl (hb hby d1_1) rfl ((if0 _ _).trans (teq hc1).2) k) ?_
    show G (s₁.setTop (mkF m 4 #[.val (.int p0)] []))
    refine gs (fun t k => XS.iconst X0.here hx rfl (hb hby d1_4) k) ?_
    show G (s₁.setTop (mkF m 5 #[.val (.int p0)] [(.int (0 : Int32))]))
    obtain ⟨fs, hr, hrun, hended, hW, hsame⟩ := X0.leave (v := some (.int (0 : Int32))) (fun h => by rw [Bd.returns] at h; cases h)
    refine gl _ ⟨_, _, own_retI X0 hx Bd.returns (hb hby d1_5) hr, hrun, hended, _, _, rfl, ?_, ⟨_, rfl⟩, hW, hsame.mono (by decide) (by decide)⟩
    show Q1 p0 h0 n0 _ s₁.heap _
    rw [e0]
    exact ⟨congrArg (fun z => some (Value.int z)) (by simp [own_s, hc1]), N0, rfl⟩
  · refine gs (fun t k => XS.ifYes X0.here hx rfl (pc0 := 1) (pc' := 6) rfl (hb hby d1_1) rfl ((if0 _ _).trans (feq hc1).2) (by decide) (by decide) k) ?_
    show G (s₁.setTop (mkF m 6 #[.val (.int p0)] []))
    refine gs (fun t k => XS.iloadN X0.here hx rfl (hb hby d1_6) rfl k) ?_
    show G (s₁.setTop (mkF m 7 #[.val (.int p0)] [(.int p0)]))
    refine gs (fun t k => XS.iconst X0.here hx rfl (hb hby d1_7) k) ?_
    show G (s₁.setTop (mkF m 8 #[.val (.int p0)] [(.int (1 : Int32)), (.int p0)]))
    by_cases hc8 : p0 = (1 : Int32)
    · refine gs (fun t k => XS.icmpNo X0.here hx rfl (hb hby d1_8) rfl (teq hc8).2 k) ?_
      show G (s₁.setTop (mkF m 11 #[.val (.int p0)] []))
      refine gs (fun t k => XS.iconst X0.here hx rfl (hb hby d1_11) k) ?_
      show G (s₁.setTop (mkF m 12 #[.val (.int p0)] [(.int (2 : Int32))]))
      obtain ⟨fs, hr, hrun, hended, hW, hsame⟩ := X0.leave (v := some (.int (2 : Int32))) (fun h => by rw [Bd.returns] at h; cases h)
      refine gl _ ⟨_, _, own_retI X0 hx Bd.returns (hb hby d1_12) hr, hrun, hended, _, _, rfl, ?_, ⟨_, rfl⟩, hW, hsame.mono (by decide) (by decide)⟩
      show Q1 p0 h0 n0 _ s₁.heap _
      rw [e0]
      exact ⟨congrArg (fun z => some (Value.int z)) (by simp [own_s, hc1, hc8]), N0, rfl⟩
    · refine gs (fun t k => XS.icmpYes X0.here hx rfl (pc0 := 8) (pc' := 13) rfl (hb hby d1_8) rfl (feq hc8).2 (by decide) (by decide) k) ?_
      show G (s₁.setTop (mkF m 13 #[.val (.int p0)] []))
      refine gs (fun t k => XS.iloadN X0.here hx rfl (hb hby d1_13) rfl k) ?_
      show G (s₁.setTop (mkF m 14 #[.val (.int p0)] [(.int p0)]))
      refine gs (fun t k => XS.iconst X0.here hx rfl (hb hby d1_14) k) ?_
      show G (s₁.setTop (mkF m 15 #[.val (.int p0)] [(.int (2 : Int32)), (.int p0)]))
      by_cases hc15 : p0 = (2 : Int32)
      · refine gs (fun t k => XS.icmpNo X0.here hx rfl (hb hby d1_15) rfl (teq hc15).2 k) ?_
        show G (s₁.setTop (mkF m 18 #[.val (.int p0)] []))
        refine gs (fun t k => XS.iconst X0.here hx rfl (hb hby d1_18) k) ?_
        show G (s₁.setTop (mkF m 19 #[.val (.int p0)] [(.int (4 : Int32))]))
        obtain ⟨fs, hr, hrun, hended, hW, hsame⟩ := X0.leave (v := some (.int (4 : Int32))) (fun h => by rw [Bd.returns] at h; cases h)
        refine gl _ ⟨_, _, own_retI X0 hx Bd.returns (hb hby d1_19) hr, hrun, hended, _, _, rfl, ?_, ⟨_, rfl⟩, hW, hsame.mono (by decide) (by decide)⟩
        show Q1 p0 h0 n0 _ s₁.heap _
        rw [e0]
        exact ⟨congrArg (fun z => some (Value.int z)) (by simp [own_s, hc1, hc8, hc15]), N0, rfl⟩
      · refine gs (fun t k => XS.icmpYes X0.here hx rfl (pc0 := 15) (pc' := 20) rfl (hb hby d1_15) rfl (feq hc15).2 (by decide) (by decide) k) ?_
        show G (s₁.setTop (mkF m 20 #[.val (.int p0)] []))
        refine gs (fun t k => XS.iloadN X0.here hx rfl (hb hby d1_20) rfl k) ?_
        show G (s₁.setTop (mkF m 21 #[.val (.int p0)] [(.int p0)]))
        refine gs (fun t k => XS.iconst X0.here hx rfl (hb hby d1_21) k) ?_
        show G (s₁.setTop (mkF m 22 #[.val (.int p0)] [(.int (3 : Int32)), (.int p0)]))
        by_cases hc22 : p0 = (3 : Int32)
        · refine gs (fun t k => XS.icmpNo X0.here hx rfl (hb hby d1_22) rfl (teq hc22).2 k) ?_
          show G (s₁.setTop (mkF m 25 #[.val (.int p0)] []))
          refine gs (fun t k => XS.iconst X0.here hx rfl (hb hby d1_25) k) ?_
          show G (s₁.setTop (mkF m 26 #[.val (.int p0)] [(.int (5 : Int32))]))
          obtain ⟨fs, hr, hrun, hended, hW, hsame⟩ := X0.leave (v := some (.int (5 : Int32))) (fun h => by rw [Bd.returns] at h; cases h)
          refine gl _ ⟨_, _, own_retI X0 hx Bd.returns (hb hby d1_26) hr, hrun, hended, _, _, rfl, ?_, ⟨_, rfl⟩, hW, hsame.mono (by decide) (by decide)⟩
          show Q1 p0 h0 n0 _ s₁.heap _
          rw [e0]
          exact ⟨congrArg (fun z => some (Value.int z)) (by simp [own_s, hc1, hc8, hc15, hc22]), N0, rfl⟩
        · refine gs (fun t k => XS.icmpYes X0.here hx rfl (pc0 := 22) (pc' := 27) rfl (hb hby d1_22) rfl (feq hc22).2 (by decide) (by decide) k) ?_
          show G (s₁.setTop (mkF m 27 #[.val (.int p0)] []))
          refine gs (fun t k => XS.iloadN X0.here hx rfl (hb hby d1_27) rfl k) ?_
          show G (s₁.setTop (mkF m 28 #[.val (.int p0)] [(.int p0)]))
          refine gs (fun t k => XS.iconst X0.here hx rfl (hb hby d1_28) k) ?_
          show G (s₁.setTop (mkF m 29 #[.val (.int p0)] [(.int (4 : Int32)), (.int p0)]))
          by_cases hc29 : p0 = (4 : Int32)
          · refine gs (fun t k => XS.icmpNo X0.here hx rfl (hb hby d1_29) rfl (teq hc29).2 k) ?_
            show G (s₁.setTop (mkF m 32 #[.val (.int p0)] []))
            refine gs (fun t k => XS.bipush X0.here hx rfl (hb hby d1_32) k) ?_
            show G (s₁.setTop (mkF m 34 #[.val (.int p0)] [(.int (7 : Int32))]))
            obtain ⟨fs, hr, hrun, hended, hW, hsame⟩ := X0.leave (v := some (.int (7 : Int32))) (fun h => by rw [Bd.returns] at h; cases h)
            refine gl _ ⟨_, _, own_retI X0 hx Bd.returns (hb hby d1_34) hr, hrun, hended, _, _, rfl, ?_, ⟨_, rfl⟩, hW, hsame.mono (by decide) (by decide)⟩
            show Q1 p0 h0 n0 _ s₁.heap _
            rw [e0]
            exact ⟨congrArg (fun z => some (Value.int z)) (by simp [own_s, hc1, hc8, hc15, hc22, hc29]), N0, rfl⟩
          · refine gs (fun t k => XS.icmpYes X0.here hx rfl (pc0 := 29) (pc' := 35) rfl (hb hby d1_29) rfl (feq hc29).2 (by decide) (by decide) k) ?_
            show G (s₁.setTop (mkF m 35 #[.val (.int p0)] []))
            refine gs (fun t k => XS.iloadN X0.here hx rfl (hb hby d1_35) rfl k) ?_
            show G (s₁.setTop (mkF m 36 #[.val (.int p0)] [(.int p0)]))
            refine gs (fun t k => XS.iconst X0.here hx rfl (hb hby d1_36) k) ?_
            show G (s₁.setTop (mkF m 37 #[.val (.int p0)] [(.int (5 : Int32)), (.int p0)]))
            by_cases hc37 : p0 = (5 : Int32)
            · refine gs (fun t k => XS.icmpNo X0.here hx rfl (hb hby d1_37) rfl (teq hc37).2 k) ?_
              show G (s₁.setTop (mkF m 40 #[.val (.int p0)] []))
              refine gs (fun t k => XS.bipush X0.here hx rfl (hb hby d1_40) k) ?_
              show G (s₁.setTop (mkF m 42 #[.val (.int p0)] [(.int (9 : Int32))]))
              obtain ⟨fs, hr, hrun, hended, hW, hsame⟩ := X0.leave (v := some (.int (9 : Int32))) (fun h => by rw [Bd.returns] at h; cases h)
              refine gl _ ⟨_, _, own_retI X0 hx Bd.returns (hb hby d1_42) hr, hrun, hended, _, _, rfl, ?_, ⟨_, rfl⟩, hW, hsame.mono (by decide) (by decide)⟩
              show Q1 p0 h0 n0 _ s₁.heap _
              rw [e0]
              exact ⟨congrArg (fun z => some (Value.int z)) (by simp [own_s, hc1, hc8, hc15, hc22, hc29, hc37]), N0, rfl⟩
            · refine gs (fun t k => XS.icmpYes X0.here hx rfl (pc0 := 37) (pc' := 43) rfl (hb hby d1_37) rfl (feq hc37).2 (by decide) (by decide) k) ?_
              show G (s₁.setTop (mkF m 43 #[.val (.int p0)] []))
              refine gs (fun t k => XS.bipush X0.here hx rfl (hb hby d1_43) k) ?_
              show G (s₁.setTop (mkF m 45 #[.val (.int p0)] [(.int (11 : Int32))]))
              obtain ⟨fs, hr, hrun, hended, hW, hsame⟩ := X0.leave (v := some (.int (11 : Int32))) (fun h => by rw [Bd.returns] at h; cases h)
              refine gl _ ⟨_, _, own_retI X0 hx Bd.returns (hb hby d1_45) hr, hrun, hended, _, _, rfl, ?_, ⟨_, rfl⟩, hW, hsame.mono (by decide) (by decide)⟩
              show Q1 p0 h0 n0 _ s₁.heap _
              rw [e0]
              exact ⟨congrArg (fun z => some (Value.int z)) (by simp [own_s, hc1, hc8, hc15, hc22, hc29, hc37]), N0, rfl⟩
theorem d2_0 : decode prog_79_method_4_code 0 = .ok (.bipush 12, 2) := by decide +kernel
theorem d2_2 : decode prog_79_method_4_code 2 = .ok (.iload_n 2, 1) := by decide +kernel
theorem d2_3 : decode prog_79_method_4_code 3 = .ok (.iconst 1, 1) := by decide +kernel
theorem d2_4 : decode prog_79_method_4_code 4 = .ok (.iadd, 1) := by decide +kernel
theorem d2_5 : decode prog_79_method_4_code 5 = .ok (.imul, 1) := by decide +kernel
theorem d2_6 : decode prog_79_method_4_code 6 = .ok (.getstatic 18, 3) := by decide +kernel
theorem d2_9 : decode prog_79_method_4_code 9 = .ok (.iload_n 0, 1) := by decide +kernel
theorem d2_10 : decode prog_79_method_4_code 10 = .ok (.iaload, 1) := by decide +kernel
theorem d2_11 : decode prog_79_method_4_code 11 = .ok (.iadd, 1) := by decide +kernel
theorem d2_12 : decode prog_79_method_4_code 12 = .ok (.iload_n 1, 1) := by decide +kernel
theorem d2_13 : decode prog_79_method_4_code 13 = .ok (.iadd, 1) := by decide +kernel
theorem d2_14 : decode prog_79_method_4_code 14 = .ok (.ireturn, 1) := by decide +kernel
theorem pn_com_example_stavegate_stavegate_model_Pitch : plainName "com/example/stavegate/stavegate/model/Pitch" = true := by first | (simp [plainName, overriddenIn]; done) | decide +kernel
theorem ef_2 (m : MethodId) (p0 : Int32) (p1 : Int32) (p2 : Int32) : entryFrame m #[(.int p0), (.int p1), (.int p2)] 3 = mkF m 0 #[.val (.int p0), .val (.int p1), .val (.int p2)] [] := by first | (simp [entryFrame, mkF, argsToLocals, Value.category]; done) | rfl
def Q2 (p0 p1 p2 : Int32) (h0 : Heap) (n0 : Nat) (v : Option Value) (h : Heap) (L : List Loc) : Prop := v = some (.int ((12 : Int32) * (p2 + (1 : Int32)) + own_s p0 + p1)) ∧ Fr n0 L ∧ h = h0
set_option maxRecDepth 65536 in
set_option maxHeartbeats 40000000 in
theorem rm2 (l : Launch) (Z : State) (a0 : Array Value) (hw : ∀ d ∈ tables_1, d.before a0 Z = true) (ws : List Jvm.Cond) (p0 : Int32) (p1 : Int32) (p2 : Int32) (r0 : Addr) (cl : Cell) (h0 : Heap) (n0 : Nat) (Z0 : n0 ≤ h0.size) (S0 : Sta Z h0 "com/example/stavegate/stavegate/model/Pitch" "SEMITONES" "[I" (.ref r0)) (Ar : Arr Z h0 r0 cl .int) (hin : ¬ (p0 < 0 ∨ cl.slots.size ≤ p0.toNatClampNeg)) (hat : cl.slots[p0.toNatClampNeg]? = some (.int (own_s p0))) :
    MetFree l (⟨"com/example/stavegate/stavegate/model/Pitch", "of", "(III)I"⟩ : MethodName) (head1 (Jvm.Cond.code (⟨"com/example/stavegate/stavegate/model/Pitch", "of", "(III)I"⟩ : MethodName) prog_79_method_4_code 3 (some .int) :: ws) ({ frames := 0, cells := 0, slots := 0, locals := 0 } : Room)) (fun a U => a = #[(.int p0), (.int p1), (.int p2)] ∧ Z.Warmed39 U.vm ∧ U.heap = h0) (fun _ _ _ _ _ => True) (fun _ U o U' => ∃ v L, o = .returned v ∧ Q2 p0 p1 p2 h0 n0 v U'.heap L ∧ FrameEnd U o U' L ({ frames := 0, cells := 0, slots := 0, locals := 0 } : Room).cells ({ frames := 0, cells := 0, slots := 0, locals := 0 } : Room).slots) := by
  refine MetFree.of_bodySF (plainFor_of_name pn_com_example_stavegate_stavegate_model_Pitch) hisR ?_
  intro p e s m args below meth c s₁ Bd hml0 hP hK
  obtain ⟨rfl, hZ, hh⟩ := hP
  have hx := Bd.exec
  have hby := Bd.bytes
  have hml : c.maxLocals = 3 := hml0
  have hown : s.vm.findClass "com/example/stavegate/stavegate/model/Pitch" = some m.cls := findClass_of_methodNamed Bd.named
  have hnm := (name_of_methodNamed Bd.named Bd.method).1
  have X0 : Stand p l e ({ frames := 0, cells := 0, slots := 0, locals := 0 } : Room) s m #[(.int p0), (.int p1), (.int p2)] below meth c s₁ [] 0 0 := Stand.of_body Bd
  have e0 : s₁.heap = h0 := by rw [← hh, Bd.state]; rfl
  have N0 := Fr.nil n0
  have pre0 : ∀ t, Steps p.tables e below (s₁.setTop (mkF m 0 #[.val (.int p0), .val (.int p1), .val (.int p2)] [])) t → Steps p.tables e below (s₁.setTop (entryFrame m #[(.int p0), (.int p1), (.int p2)] 3)) t := fun t k => castTop (ef_2 m p0 p1 p2) k
  have K0 := Keep.refl h0 []
  refine own_start pre0 fun G gs gl => ?_
  show G (s₁.setTop (mkF m 0 #[.val (.int p0), .val (.int p1), .val (.int p2)] []))
  refine gs (fun t k => XS.bipush X0.here hx rfl (hb hby d2_0) k) ?_
  show G (s₁.setTop (mkF m 2 #[.val (.int p0), .val (.int p1), .val (.int p2)] [(.int (12 : Int32))]))
  refine gs (fun t k => XS.iloadN X0.here hx rfl (hb hby d2_2) rfl k) ?_
  show G (s₁.setTop (mkF m 3 #[.val (.int p0), .val (.int p1), .val (.int p2)] [(.int p2), (.int (12 : Int32))]))
  refine gs (fun t k => XS.iconst X0.here hx rfl (hb hby d2_3) k) ?_
  show G (s₁.setTop (mkF m 4 #[.val (.int p0), .val (.int p1), .val (.int p2)] [(.int (1 : Int32)), (.int p2), (.int (12 : Int32))]))
  refine gs (fun t k => XS.iadd X0.here hx rfl (hb hby d2_4) rfl k) ?_
  show G (s₁.setTop (mkF m 5 #[.val (.int p0), .val (.int p1), .val (.int p2)] [(.int (p2 + (1 : Int32))), (.int (12 : Int32))]))
  refine gs (fun t k => XS.imul X0.here hx rfl (hb hby d2_5) rfl k) ?_
  show G (s₁.setTop (mkF m 6 #[.val (.int p0), .val (.int p1), .val (.int p2)] [(.int ((12 : Int32) * (p2 + (1 : Int32))))]))
  obtain ⟨T1, X1, e1, st1⟩ := getS2 X0 hx hZ hown (host := "") (Or.inl (hw _ (List.mem_of_getElem? (i := 9) rfl))) Via.refl e0 S0 (g := (mkF m 6 #[.val (.int p0), .val (.int p1), .val (.int p2)] [(.int ((12 : Int32) * (p2 + (1 : Int32))))])) rfl (hb hby d2_6)
  refine gs (fun t k => st1 _ k) ?_
  show G (T1.setTop (mkF m 9 #[.val (.int p0), .val (.int p1), .val (.int p2)] [(.ref r0), (.int ((12 : Int32) * (p2 + (1 : Int32))))]))
  refine gs (fun t k => XS.iloadN X1.here hx rfl (hb hby d2_9) rfl k) ?_
  show G (T1.setTop (mkF m 10 #[.val (.int p0), .val (.int p1), .val (.int p2)] [(.int p0), (.ref r0), (.int ((12 : Int32) * (p2 + (1 : Int32))))]))
  refine gs (fun t k => X1.iaload hx (j := p0) (v := (.int (own_s p0))) (by rw [e1]; exact Ar.1) (State.isArrayOf_alike hZ.alike Ar.2.1) Ar.2.2 hin hat (g := (mkF m 10 #[.val (.int p0), .val (.int p1), .val (.int p2)] [(.int p0), (.ref r0), (.int ((12 : Int32) * (p2 + (1 : Int32))))])) rfl rfl (hb hby d2_10) _ k) ?_
  show G (T1.setTop (mkF m 11 #[.val (.int p0), .val (.int p1), .val (.int p2)] [(.int (own_s p0)), (.int ((12 : Int32) * (p2 + (1 : Int32))))]))
  refine gs (fun t k => XS.iadd X1.here hx rfl (hb hby d2_11) rfl k) ?_
  show G (T1.setTop (mkF m 12 #[.val (.int p0), .val (.int p1), .val (.int p2)] [(.int (((12 : Int32) * (p2 + (1 : Int32))) + (own_s p0)))]))
  refine gs (fun t k => XS.iloadN X1.here hx rfl (hb hby d2_12) rfl k) ?_
  show G (T1.setTop (mkF m 13 #[.val (.int p0), .val (.int p1), .val (.int p2)] [(.int p1), (.int (((12 : Int32) * (p2 + (1 : Int32))) + (own_s p0)))]))
  refine gs (fun t k => XS.iadd X1.here hx rfl (hb hby d2_13) rfl k) ?_
  show G (T1.setTop (mkF m 14 #[.val (.int p0), .val (.int p1), .val (.int p2)] [(.int ((((12 : Int32) * (p2 + (1 : Int32))) + (own_s p0)) + p1))]))
  obtain ⟨fs, hr, hrun, hended, hW, hsame⟩ := X1.leave (v := some (.int ((((12 : Int32) * (p2 + (1 : Int32))) + (own_s p0)) + p1))) (fun h => by rw [Bd.returns] at h; cases h)
  refine gl _ ⟨_, _, own_retI X1 hx Bd.returns (hb hby d2_14) hr, hrun, hended, _, _, rfl, ?_, ⟨_, rfl⟩, hW, hsame.mono (by decide) (by decide)⟩
  show Q2 p0 p1 p2 h0 n0 _ T1.heap _
  rw [e1]
  exact ⟨rfl, N0, rfl⟩
theorem pd_0 : parseMethodDescriptor "(I)I" = some ⟨[.int], some .int⟩ := by decide +kernel
theorem pd_1 : parseMethodDescriptor "(III)I" = some ⟨[.int, .int, .int], some .int⟩ := by decide +kernel
theorem ef_0 (m : MethodId) (p0 : Int32) (p1 : Int32) (p2 : Int32) : entryFrame m #[(.int p0), (.int p1), (.int p2)] maxLocals = mkF m 0 #[.val (.int p0), .val (.int p1), .val (.int p2), .unset, .unset] [] := by first | (simp [entryFrame, mkF, argsToLocals, Value.category, maxLocals]; done) | rfl
def Q0 (h0 : Heap) (n0 : Nat) (v : Option Value) (h : Heap) (L : List Loc) : Prop := v = some (.int 1) ∧ Fr n0 L
set_option maxRecDepth 65536 in
set_option maxHeartbeats 40000000 in
theorem rm0 (l : Launch) (Z : State) (a0 : Array Value) (hw : ∀ d ∈ tables_1, d.before a0 Z = true) (ws : List Jvm.Cond) (p0 : Int32) (p1 : Int32) (p2 : Int32) (r0 : Addr) (cl : Cell) (h0 : Heap) (n0 : Nat) (Z0 : n0 ≤ h0.size) (S0 : Sta Z h0 "com/example/stavegate/stavegate/model/Pitch" "SEMITONES" "[I" (.ref r0)) (Ar : Arr Z h0 r0 cl .int) (hall : ∀ q : Int32, ¬ q < (0 : Int32) → q < (7 : Int32) → ¬ (q < 0 ∨ cl.slots.size ≤ q.toNatClampNeg) ∧ cl.slots[q.toNatClampNeg]? = some (.int (own_s q))) :
    MetFree l x (head1 (Jvm.Cond.code x code maxLocals ret :: ws) room_1) (fun a U => a = #[(.int p0), (.int p1), (.int p2)] ∧ Z.Warmed39 U.vm ∧ U.heap = h0) (fun _ _ _ _ _ => True) (fun _ U o U' => ∃ v L, o = .returned v ∧ Q0 h0 n0 v U'.heap L ∧ FrameEnd U o U' L room_1.cells room_1.slots) := by
  refine MetFree.of_bodySF (plainFor_of_name pn_com_example_stavegate_stavegate_model_PitchOfPinLaw) hisR ?_
  intro p e s m args below meth c s₁ Bd hml0 hP hK
  obtain ⟨rfl, hZ, hh⟩ := hP
  have hx := Bd.exec
  have hby := Bd.bytes
  have hml : c.maxLocals = 5 := hml0
  have hown : s.vm.findClass "com/example/stavegate/stavegate/model/PitchOfPinLaw" = some m.cls := findClass_of_methodNamed Bd.named
  have hnm := (name_of_methodNamed Bd.named Bd.method).1
  have X0 : Stand p l e room_1 s m #[(.int p0), (.int p1), (.int p2)] below meth c s₁ [] 0 0 := Stand.of_body Bd
  have e0 : s₁.heap = h0 := by rw [← hh, Bd.state]; rfl
  have N0 := Fr.nil n0
  have pre0 : ∀ t, Steps p.tables e below (s₁.setTop (mkF m 0 #[.val (.int p0), .val (.int p1), .val (.int p2), .unset, .unset] [])) t → Steps p.tables e below (s₁.setTop (entryFrame m #[(.int p0), (.int p1), (.int p2)] maxLocals)) t := fun t k => castTop (ef_0 m p0 p1 p2) k
  have K0 := Keep.refl h0 []
  refine own_start pre0 fun G gs gl => ?_
  show G (s₁.setTop (mkF m 0 #[.val (.int p0), .val (.int p1), .val (.int p2), .unset, .unset] []))
  refine gs (fun t k => XS.iloadN X0.here hx rfl (hb hby at_0) rfl k) ?_
  show G (s₁.setTop (mkF m 1 #[.val (.int p0), .val (.int p1), .val (.int p2), .unset, .unset] [(.int p0)]))
  refine gs (fun t k => X0.ldcInt hx hown (mvT hZ (hw _ (List.mem_of_getElem? (i := 0) rfl))) (g := (mkF m 1 #[.val (.int p0), .val (.int p1), .val (.int p2), .unset, .unset] [(.int p0)])) rfl (hb hby at_1) _ k) ?_
  show G (s₁.setTop (mkF m 3 #[.val (.int p0), .val (.int p1), .val (.int p2), .unset, .unset] [(.int (2147483647 : Int32)), (.int p0)]))
  refine gs (fun t k => XS.iand X0.here hx rfl (hb hby at_3) rfl k) ?_
  show G (s₁.setTop (mkF m 4 #[.val (.int p0), .val (.int p1), .val (.int p2), .unset, .unset] [(.int (p0 &&& (2147483647 : Int32)))]))
  refine gs (fun t k => XS.bipush X0.here hx rfl (hb hby at_4) k) ?_
  show G (s₁.setTop (mkF m 6 #[.val (.int p0), .val (.int p1), .val (.int p2), .unset, .unset] [(.int (7 : Int32)), (.int (p0 &&& (2147483647 : Int32)))]))
  refine gs (fun t k => iremM X0 hx rfl (hb hby at_6) rfl (by decide) k) ?_
  show G (s₁.setTop (mkF m 7 #[.val (.int p0), .val (.int p1), .val (.int p2), .unset, .unset] [(.int ((p0 &&& (2147483647 : Int32)) % (7 : Int32)))]))
  obtain ⟨q, hq⟩ : ∃ z : Int32, z = ((p0 &&& (2147483647 : Int32)) % (7 : Int32)) := ⟨_, rfl⟩
  rw [← hq]
  show G (s₁.setTop (mkF m 7 #[.val (.int p0), .val (.int p1), .val (.int p2), .unset, .unset] [(.int q)]))
  obtain ⟨hq0, hq7⟩ := own_q p0 q hq
  refine gs (fun t k => XS.istoreN X0.here hx rfl (hb hby at_7) rfl (l' := #[.val (.int p0), .val (.int p1), .val (.int p2), .val (.int q), .unset]) rfl k) ?_
  show G (s₁.setTop (mkF m 8 #[.val (.int p0), .val (.int p1), .val (.int p2), .val (.int q), .unset] []))
  refine gs (fun t k => XS.bipush X0.here hx rfl (hb hby at_8) k) ?_
  show G (s₁.setTop (mkF m 10 #[.val (.int p0), .val (.int p1), .val (.int p2), .val (.int q), .unset] [(.int (12 : Int32))]))
  refine gs (fun t k => XS.iloadN X0.here hx rfl (hb hby at_10) rfl k) ?_
  show G (s₁.setTop (mkF m 11 #[.val (.int p0), .val (.int p1), .val (.int p2), .val (.int q), .unset] [(.int p2), (.int (12 : Int32))]))
  refine gs (fun t k => XS.imul X0.here hx rfl (hb hby at_11) rfl k) ?_
  show G (s₁.setTop (mkF m 12 #[.val (.int p0), .val (.int p1), .val (.int p2), .val (.int q), .unset] [(.int ((12 : Int32) * p2))]))
  refine gs (fun t k => XS.bipush X0.here hx rfl (hb hby at_12) k) ?_
  show G (s₁.setTop (mkF m 14 #[.val (.int p0), .val (.int p1), .val (.int p2), .val (.int q), .unset] [(.int (12 : Int32)), (.int ((12 : Int32) * p2))]))
  refine gs (fun t k => XS.iadd X0.here hx rfl (hb hby at_14) rfl k) ?_
  show G (s₁.setTop (mkF m 15 #[.val (.int p0), .val (.int p1), .val (.int p2), .val (.int q), .unset] [(.int (((12 : Int32) * p2) + (12 : Int32)))]))
  refine gs (fun t k => XS.iloadN X0.here hx rfl (hb hby at_15) rfl k) ?_
  show G (s₁.setTop (mkF m 16 #[.val (.int p0), .val (.int p1), .val (.int p2), .val (.int q), .unset] [(.int q), (.int (((12 : Int32) * p2) + (12 : Int32)))]))
  obtain ⟨_, _, ⟨T1, L1, k1, n1⟩, -, X1, ⟨Lc1, hQ1, l1, y1, z1⟩, st1⟩ := Jvm.LawKit.callS X0 hx (y := (⟨"com/example/stavegate/stavegate/model/PitchOfPinLaw", "semitoneAboveC", "(I)I"⟩ : MethodName)) hown (mvT hZ (hw _ (List.mem_of_getElem? (i := 1) rfl))) (mvT hZ (hw _ (List.mem_of_getElem? (i := 2) rfl))) (mvT hZ (hw _ (List.mem_of_getElem? (i := 3) rfl))) (mvT hZ (hw _ (List.mem_of_getElem? (i := 4) rfl))) (by decide) (backOf (W := 1) (rm1 l Z a0 hw [] q h0 n0 Z0) hZ (hw _ (List.mem_of_getElem? (i := 4) rfl)) (hw _ (List.mem_of_getElem? (i := 3) rfl)) (by decide) (by decide)) (g := (mkF m 16 #[.val (.int p0), .val (.int p1), .val (.int p2), .val (.int q), .unset] [(.int q), (.int (((12 : Int32) * p2) + (12 : Int32)))])) rfl (by rw [hml]; rfl) (argsL := [(.int q)]) (rest := [(.int (((12 : Int32) * p2) + (12 : Int32)))]) (lenOf pd_0 rfl) rfl (by show 2 * 0 + _ ≤ _; exact Nat.le_of_eq rfl) (hb hby at_16) (fun _ _ => ⟨rfl, e0, (by decide : 0 + 0 ≤ _), (by decide : 0 + 0 ≤ _)⟩)
  dsimp only [Pt.U, Pt.locs, Pt.cells, Pt.slots] at X1 l1 y1 z1 st1 hQ1
  subst y1 z1
  obtain ⟨rfl, N1q, e1⟩ := hQ1
  have N1 : Fr n0 L1 := by rw [l1]; exact Fr.app N0 N1q
  refine gs (fun t k => st1 _ k) ?_
  show G (T1.setTop (mkF m 19 #[.val (.int p0), .val (.int p1), .val (.int p2), .val (.int q), .unset] [(.int (own_s q)), (.int (((12 : Int32) * p2) + (12 : Int32)))]))
  refine gs (fun t k => XS.iadd X1.here hx rfl (hb hby at_19) rfl k) ?_
  show G (T1.setTop (mkF m 20 #[.val (.int p0), .val (.int p1), .val (.int p2), .val (.int q), .unset] [(.int ((((12 : Int32) * p2) + (12 : Int32)) + (own_s q)))]))
  refine gs (fun t k => XS.iloadN X1.here hx rfl (hb hby at_20) rfl k) ?_
  show G (T1.setTop (mkF m 21 #[.val (.int p0), .val (.int p1), .val (.int p2), .val (.int q), .unset] [(.int p1), (.int ((((12 : Int32) * p2) + (12 : Int32)) + (own_s q)))]))
  refine gs (fun t k => XS.iadd X1.here hx rfl (hb hby at_21) rfl k) ?_
  show G (T1.setTop (mkF m 22 #[.val (.int p0), .val (.int p1), .val (.int p2), .val (.int q), .unset] [(.int (((((12 : Int32) * p2) + (12 : Int32)) + (own_s q)) + p1))]))
  refine gs (fun t k => XS.istore X1.here hx rfl (hb hby at_22) rfl (l' := #[.val (.int p0), .val (.int p1), .val (.int p2), .val (.int q), .val (.int (((((12 : Int32) * p2) + (12 : Int32)) + (own_s q)) + p1))]) rfl k) ?_
  show G (T1.setTop (mkF m 24 #[.val (.int p0), .val (.int p1), .val (.int p2), .val (.int q), .val (.int (((((12 : Int32) * p2) + (12 : Int32)) + (own_s q)) + p1))] []))
  refine gs (fun t k => XS.iloadN X1.here hx rfl (hb hby at_24) rfl k) ?_
  show G (T1.setTop (mkF m 25 #[.val (.int p0), .val (.int p1), .val (.int p2), .val (.int q), .val (.int (((((12 : Int32) * p2) + (12 : Int32)) + (own_s q)) + p1))] [(.int q)]))
  refine gs (fun t k => XS.iloadN X1.here hx rfl (hb hby at_25) rfl k) ?_
  show G (T1.setTop (mkF m 26 #[.val (.int p0), .val (.int p1), .val (.int p2), .val (.int q), .val (.int (((((12 : Int32) * p2) + (12 : Int32)) + (own_s q)) + p1))] [(.int p1), (.int q)]))
  refine gs (fun t k => XS.iloadN X1.here hx rfl (hb hby at_26) rfl k) ?_
  show G (T1.setTop (mkF m 27 #[.val (.int p0), .val (.int p1), .val (.int p2), .val (.int q), .val (.int (((((12 : Int32) * p2) + (12 : Int32)) + (own_s q)) + p1))] [(.int p2), (.int p1), (.int q)]))
  obtain ⟨_, _, ⟨T2, L2, k2, n2⟩, -, X2, ⟨Lc2, hQ2, l2, y2, z2⟩, st2⟩ := Jvm.LawKit.callS X1 hx (y := (⟨"com/example/stavegate/stavegate/model/Pitch", "of", "(III)I"⟩ : MethodName)) hown (mvT hZ (hw _ (List.mem_of_getElem? (i := 5) rfl))) (mvT hZ (hw _ (List.mem_of_getElem? (i := 6) rfl))) (mvT hZ (hw _ (List.mem_of_getElem? (i := 7) rfl))) (mvT hZ (hw _ (List.mem_of_getElem? (i := 8) rfl))) (by decide) (backOf (W := 0) (rm2 l Z a0 hw [] q p1 p2 r0 cl h0 n0 Z0 S0 Ar (hall q hq0 hq7).1 (hall q hq0 hq7).2) hZ (hw _ (List.mem_of_getElem? (i := 8) rfl)) (hw _ (List.mem_of_getElem? (i := 7) rfl)) (by decide) (by decide)) (g := (mkF m 27 #[.val (.int p0), .val (.int p1), .val (.int p2), .val (.int q), .val (.int (((((12 : Int32) * p2) + (12 : Int32)) + (own_s q)) + p1))] [(.int p2), (.int p1), (.int q)])) rfl (by rw [hml]; rfl) (argsL := [(.int q), (.int p1), (.int p2)]) (rest := []) (lenOf pd_1 rfl) rfl (by show 2 * 0 + _ ≤ _; exact Nat.le_of_eq rfl) (hb hby at_27) (fun _ _ => ⟨rfl, e1, (by decide : 0 + 0 ≤ _), (by decide : 0 + 0 ≤ _)⟩)
  dsimp only [Pt.U, Pt.locs, Pt.cells, Pt.slots] at X2 l2 y2 z2 st2 hQ2
  subst y2 z2
  obtain ⟨rfl, N2q, e2⟩ := hQ2
  have N2 : Fr n0 L2 := by rw [l2]; exact Fr.app N1 N2q
  refine gs (fun t k => st2 _ k) ?_
  show G (T2.setTop (mkF m 30 #[.val (.int p0), .val (.int p1), .val (.int p2), .val (.int q), .val (.int (((((12 : Int32) * p2) + (12 : Int32)) + (own_s q)) + p1))] [(.int ((12 : Int32) * (p2 + (1 : Int32)) + own_s q + p1))]))
  refine gs (fun t k => XS.iload X2.here hx rfl (hb hby at_30) rfl k) ?_
  show G (T2.setTop (mkF m 32 #[.val (.int p0), .val (.int p1), .val (.int p2), .val (.int q), .val (.int (((((12 : Int32) * p2) + (12 : Int32)) + (own_s q)) + p1))] [(.int (((((12 : Int32) * p2) + (12 : Int32)) + (own_s q)) + p1)), (.int ((12 : Int32) * (p2 + (1 : Int32)) + own_s q + p1))]))
  refine gs (fun t k => XS.icmpNo X2.here hx rfl (hb hby at_32) rfl (teq (own_eq p2 (own_s q) p1)).2 k) ?_
  show G (T2.setTop (mkF m 35 #[.val (.int p0), .val (.int p1), .val (.int p2), .val (.int q), .val (.int (((((12 : Int32) * p2) + (12 : Int32)) + (own_s q)) + p1))] []))
  refine gs (fun t k => XS.iconst X2.here hx rfl (hb hby at_35) k) ?_
  show G (T2.setTop (mkF m 36 #[.val (.int p0), .val (.int p1), .val (.int p2), .val (.int q), .val (.int (((((12 : Int32) * p2) + (12 : Int32)) + (own_s q)) + p1))] [(.int (1 : Int32))]))
  refine gs (fun t k => XS.goto X2.here hx rfl (pc0 := 36) (pc' := 40) rfl (hb hby at_36) (by decide) (by decide) k) ?_
  show G (T2.setTop (mkF m 40 #[.val (.int p0), .val (.int p1), .val (.int p2), .val (.int q), .val (.int (((((12 : Int32) * p2) + (12 : Int32)) + (own_s q)) + p1))] [(.int (1 : Int32))]))
  obtain ⟨fs, hr, hrun, hended, hW, hsame⟩ := X2.leave (v := some (.int (1 : Int32))) (fun h => by rw [Bd.returns] at h; cases h)
  refine gl _ ⟨_, _, retN X2 hx (t := .boolean) Bd.returns (by simp) (hb hby at_40) hr, hrun, hended, _, _, rfl, ?_, ⟨_, rfl⟩, hW, hsame.mono (by decide) (by decide)⟩
  show Q0 h0 n0 _ T2.heap _
  rw [e2]
  exact ⟨rfl, N2⟩
set_option maxRecDepth 65536 in
set_option maxHeartbeats 40000000 in
theorem comes_1 {Post : Tables → Env → Array Value → State → Outcome → State → Prop} (hpost : ∀ tb e args s v u, (limb_1_1.after args s (.returned v) u = true ∧ limb_1_2.after args s (.returned v) u = true ∧ True) → FrameEnd s (.returned v) u (Jvm.fieldLocs frame_1_writes args s ++ Jvm.arrayLocs frame_1_arrays args s ++ Jvm.staticLocs frame_1_statics s) 0 0 → Post tb e args s (.returned v) u) :
    ArmFor flags0 classFile x code maxLocals ret World_1 tables_1 room_1 Calls_1 rest_1 Pre_1 Post := by
  intro l hfl _ _ p e ha hc hk s m args below hf hA hF happ hP
  obtain ⟨hcalls, hrest, hpre⟩ := hP
  obtain ⟨-, -, -, hnamed, -, -, -, hat⟩ := (Spec.applies_iff hf).mp happ
  obtain ⟨hg, hn⟩ := and_e (Cond.before_iff.mp (show (Jvm.Cond.and given_1 narrow_1).before args s = true from hpre))
  obtain ⟨hg0, hg1⟩ := and_e hg
  obtain ⟨hv0, ht0⟩ := and_e hg1
  obtain ⟨hv1, ht1⟩ := and_e ht0
  have hv2 := ht1
  obtain ⟨w0, w1, w2, rfl⟩ : ∃ w0 w1 w2 : Value, args = #[w0, w1, w2] := by
    have hs : args.size = 3 := by simpa [Cond.value, given_1] using hg0
    obtain ⟨L⟩ := args
    match L, hs with
    | [w0, w1, w2], _ => exact ⟨w0, w1, w2, rfl⟩
  have hw := fun d (hd : d ∈ tables_1) => atoms_spec (ws := Jvm.Cond.code x code maxLocals ret :: tables_1) hat d (List.mem_cons_of_mem _ hd)
  have hfit : Fit s := fun {y c} hc i hi => by
    obtain ⟨ha, rfl⟩ := Array.getElem?_eq_some_iff.mp hc
    have q := List.all_eq_true.mp ((Array.all_eq_true_iff_forall_mem.mp hF) _ (Array.getElem_mem ha)) i (List.mem_range.mpr hi)
    simpa [Array.getElem?_eq_getElem hi] using q
  obtain ⟨i0, ei0⟩ := is_v hv0
  obtain rfl : w0 = (.int i0) := Option.some.inj ei0
  obtain ⟨i1, ei1⟩ := is_v hv1
  obtain rfl : w1 = (.int i1) := Option.some.inj ei1
  obtain ⟨i2, ei2⟩ := is_v hv2
  obtain rfl : w2 = (.int i2) := Option.some.inj ei2
  obtain ⟨hn0, hn1⟩ := and_e hn
  obtain ⟨hn2, hn3⟩ := and_e hn1
  obtain ⟨he0, hf0⟩ := and_e hn3
  obtain ⟨he1, hf1⟩ := and_e hf0
  obtain ⟨he2, hf2⟩ := and_e hf1
  obtain ⟨he3, hf3⟩ := and_e hf2
  obtain ⟨he4, hf4⟩ := and_e hf3
  obtain ⟨he5, hf5⟩ := and_e hf4
  obtain ⟨r0, ev0⟩ := arr_v hn0
  obtain ⟨cl, Ar⟩ := Arr.start ev0 hn0
  have hA := Ar.fin (Vm.Alike.refl s.vm)
  have S0 := Sta.start ev0 (Or.inr ⟨(hw _ (List.mem_of_getElem? (i := 7) rfl)), (hw _ (List.mem_of_getElem? (i := 10) rfl))⟩)
  have hall := own_all (own_el ev0 hA (by decide) he0) (own_el ev0 hA (by decide) he1) (own_el ev0 hA (by decide) he2) (own_el ev0 hA (by decide) he3) (own_el ev0 hA (by decide) he4) (own_el ev0 hA (by decide) he5) (own_el ev0 hA (by decide) hf5)
  obtain ⟨n, o, h1, h2, h3, _, L, rfl, ⟨rfl, N⟩, hq⟩ := rm0 l s _ hw tables_1 i0 i1 i2 r0 cl s.heap s.heap.size (Nat.le_refl _) S0 Ar hall p e ha hc hk s m _ below hf ((Spec.applies_iff_loose hf).mp happ).1 ⟨rfl, State.Warmed39.refl s, rfl⟩ trivial
  refine ⟨n, _, h1, h2, h3, hpost _ _ _ _ _ _ ⟨Cond.after_iff.mpr rfl, Cond.after_iff.mpr (eq_i res_at (Term.int_eval (1)) rfl), trivial⟩ ⟨hq.1, hq.2.1, (hq.2.2.sift fun y hy => Or.inr (N y hy)).mono (by decide) (by decide)⟩⟩
theorem main_1_1 : Claimed_1_1 := comes_1 fun _ _ _ _ _ _ h hF => ⟨h.1, hF⟩
theorem main_1_2 : Claimed_1_2 := comes_1 fun _ _ _ _ _ _ h hF => ⟨h.2.1, hF⟩
end Jvm.Pilot.@@N@@
namespace Jvm.Pilot.@@N@@
open Jvm Jvm.ClassFile Sem Op Lib Jvm.Free Jvm.Stand Jvm.Pilot.@@N@@.Jvm.D
/-! MADE BY PROGRAM (witnessworld.py) out of the Statement's table words and the real class files: 9 classes; the members and pool entries that the words name. The judged class is class 1, her method 2. -/
namespace start1
open Jvm.ClassFile
def u (s : String) : CpInfo := .utf8 (stringToUtf16 s)
/-- a pool by its gaps: so many unusable entries, then the entry; so many at the end -/
def gap : Nat → List CpInfo → List CpInfo
  | 0, r => r
  | n + 1, r => .unusable :: gap n r
def poolList (es : List (Nat × CpInfo)) (last : Nat) : List CpInfo := es.foldr (fun e r => gap e.1 (e.2 :: r)) (gap last [])
def pool (es : List (Nat × CpInfo)) (last : Nat) : Array CpInfo := ⟨poolList es last⟩
def fileOf (pool : Array CpInfo) (this : Nat) (attrs : Array Attribute := #[]) (ms : Array MethodInfo := #[]) (fl : Nat := 33) (sup : Nat := 0) (ifs : Array Nat := #[]) (fds : Array FieldInfo := #[]) : ClassFile where
  minorVersion := 0
  majorVersion := 65
  constantPool := pool
  accessFlags := fl
  thisClass := this
  superClass := sup
  interfaces := ifs
  fields := fds
  methods := ms
  attributes := attrs
def plain (name : String) (sup : Option ClassId) : Class where
  name := name
  kind := .ordinary
  loader := none
  accessFlags := 33
  super := sup
  interfaces := #[]
  cf := none
  fields := #[]
  methods := #[]
  instanceTypes := #[]
  staticTypes := #[]
  resolved := #[]
  callSites := []
  init := .initialized
  statics := none
  mirror := none

def pool0 : Array CpInfo := pool [(5, u "<init>"), (0, u "()V"), (1, .class_ 10), (1, u "java/lang/Object")] 113

def k0m0 : Method := { name := "<init>", desc := "()V", sig := { parameters := [], returnType := none }, accessFlags := 1, code := none }
/-- java/lang/Object -/
def k0 : Class := { plain "java/lang/Object" none with
  accessFlags := 33
  interfaces := #[]
  cf := some (fileOf pool0 8 #[] #[{ accessFlags := 1, nameIndex := 5, descriptorIndex := 6, attributes := #[] }] 33 0 #[] #[])
  fields := #[]
  methods := #[k0m0]
  instanceTypes := #[]
  staticTypes := #[]
  resolved := Array.replicate 124 none
  statics := none }

def pool1 : Array CpInfo := pool [(2, .class_ 4), (1, u "java/lang/Object"), (0, u "<init>"), (0, u "()V"), (0, .integer 2147483647), (0, .methodref 9 10), (0, .class_ 11), (0, .nameAndType 12 13), (0, u "com/example/stavegate/stavegate/model/PitchOfPinLaw"), (0, u "semitoneAboveC"), (0, u "(I)I"), (0, .methodref 15 16), (0, .class_ 17), (0, .nameAndType 18 19), (0, u "com/example/stavegate/stavegate/model/Pitch"), (0, u "of"), (0, u "(III)I"), (3, u "law"), (0, u "(III)Z")] 2

def k1m0 : Method := { name := "<init>", desc := "()V", sig := { parameters := [], returnType := none }, accessFlags := 2, code := none }
def k1c1 : Code := { maxStack := 2, maxLocals := 1, code := method_2_code, exceptionTable := #[], attributes := #[] }
def k1m1 : Method := { name := "semitoneAboveC", desc := "(I)I", sig := { parameters := [.int], returnType := some .int }, accessFlags := 10, code := some k1c1 }
def k1c2 : Code := { maxStack := 3, maxLocals := 5, code := code, exceptionTable := #[], attributes := #[] }
def k1m2 : Method := { name := "law", desc := "(III)Z", sig := { parameters := [.int, .int, .int], returnType := some .boolean }, accessFlags := 9, code := some k1c2 }
/-- com/example/stavegate/stavegate/model/PitchOfPinLaw -/
def k1 : Class := { plain "com/example/stavegate/stavegate/model/PitchOfPinLaw" (some 0) with
  accessFlags := 49
  interfaces := #[]
  cf := some (fileOf pool1 9 #[] #[{ accessFlags := 2, nameIndex := 5, descriptorIndex := 6, attributes := #[] }, { accessFlags := 10, nameIndex := 12, descriptorIndex := 13, attributes := #[] }, { accessFlags := 9, nameIndex := 23, descriptorIndex := 24, attributes := #[] }] 49 2 #[] #[])
  fields := #[]
  methods := #[k1m0, k1m1, k1m2]
  instanceTypes := #[]
  staticTypes := #[]
  resolved := Array.replicate 27 none
  statics := none }

def pool2 : Array CpInfo := pool [(2, .class_ 4), (1, u "java/lang/Object"), (0, u "<init>"), (0, u "()V"), (0, .class_ 8), (0, u "com/example/stavegate/stavegate/model/Pitch"), (9, .fieldref 7 19), (0, .nameAndType 20 21), (0, u "SEMITONES"), (0, u "[I"), (16, u "of"), (3, u "SIGNS"), (0, u "Ljava/util/Map;"), (0, u "LETTERS"), (0, u "Ljava/lang/String;"), (3, u "CLASSES"), (0, u "I"), (8, u "(III)I"), (4, .class_ 65), (0, u "com/example/stavegate/stavegate/model/Pitch$Name")] 2

def k2m0 : Method := { name := "<init>", desc := "()V", sig := { parameters := [], returnType := none }, accessFlags := 2, code := none }
def k2c1 : Code := { maxStack := 3, maxLocals := 3, code := prog_79_method_4_code, exceptionTable := #[], attributes := #[] }
def k2m1 : Method := { name := "of", desc := "(III)I", sig := { parameters := [.int, .int, .int], returnType := some .int }, accessFlags := 9, code := some k2c1 }
/-- com/example/stavegate/stavegate/model/Pitch -/
def k2 : Class := { plain "com/example/stavegate/stavegate/model/Pitch" (some 0) with
  accessFlags := 49
  interfaces := #[]
  cf := some (fileOf pool2 7 #[.nestMembers #[64]] #[{ accessFlags := 2, nameIndex := 5, descriptorIndex := 6, attributes := #[] }, { accessFlags := 9, nameIndex := 38, descriptorIndex := 59, attributes := #[] }] 49 2 #[] #[{ accessFlags := 25, nameIndex := 44, descriptorIndex := 45, attributes := #[] }, { accessFlags := 25, nameIndex := 49, descriptorIndex := 50, attributes := #[] }, { accessFlags := 26, nameIndex := 20, descriptorIndex := 21, attributes := #[] }, { accessFlags := 26, nameIndex := 42, descriptorIndex := 43, attributes := #[] }])
  fields := #[{ name := "LETTERS", type := (.object "java/lang/String"), accessFlags := 25, slot := 0, constantValue := 0 }, { name := "CLASSES", type := .int, accessFlags := 25, slot := 1, constantValue := 0 }, { name := "SEMITONES", type := (.array .int), accessFlags := 26, slot := 2, constantValue := 0 }, { name := "SIGNS", type := (.object "java/util/Map"), accessFlags := 26, slot := 3, constantValue := 0 }]
  methods := #[k2m0, k2m1]
  instanceTypes := #[]
  staticTypes := #[(.object "java/lang/String"), .int, (.array .int), (.object "java/util/Map")]
  resolved := Array.replicate 68 none
  statics := some 0 }

def pool3 : Array CpInfo := pool [(1, u "java/lang/Cloneable"), (0, .class_ 1), (0, u "java/lang/Object"), (0, .class_ 3)] 3

/-- java/lang/Cloneable -/
def k3 : Class := { plain "java/lang/Cloneable" (some 0) with
  accessFlags := 1537
  interfaces := #[]
  cf := some (fileOf pool3 2 #[] #[] 1537 4 #[] #[])
  fields := #[]
  methods := #[]
  instanceTypes := #[]
  staticTypes := #[]
  resolved := Array.replicate 8 none
  statics := none }

def pool4 : Array CpInfo := pool [(1, u "java/io/Serializable"), (0, .class_ 1), (0, u "java/lang/Object"), (0, .class_ 3)] 3

/-- java/io/Serializable -/
def k4 : Class := { plain "java/io/Serializable" (some 0) with
  accessFlags := 1537
  interfaces := #[]
  cf := some (fileOf pool4 2 #[] #[] 1537 4 #[] #[])
  fields := #[]
  methods := #[]
  instanceTypes := #[]
  staticTypes := #[]
  resolved := Array.replicate 8 none
  statics := none }

/-- the primitive byte -/
def k5 : Class := { plain "byte" none with kind := .primitive 'B', accessFlags := 0x411 }
/-- [B -/
def k6 : Class := { plain "[B" (some 0) with kind := .array 5 .byte, interfaces := #[3, 4], accessFlags := 1041 }

/-- the primitive int -/
def k7 : Class := { plain "int" none with kind := .primitive 'I', accessFlags := 0x411 }
/-- [I -/
def k8 : Class := { plain "[I" (some 0) with kind := .array 7 .int, interfaces := #[3, 4], accessFlags := 1041 }

def heap : Heap := #[{ cls := 2, slots := #[.null, .int 0, .ref 1, .null], vm := .statics 2 },
  { cls := 8, slots := #[.int 0, .int 2, .int 4, .int 5, .int 7, .int 9, .int 11], vm := .none }]
def classes : Array Class := #[k0, k1, k2, k3, k4, k5, k6, k7, k8]
def interned : List (Array UInt16 × Addr) := []
def slotsUsed : Nat := 11
def theMethod : MethodId := ⟨1, 2⟩
def args0 : Array Value := #[.int 5, .int 1, .int 4]
def aboutOver (below : List Frame) : State where
  vm := { classes := classes, interned := interned.toArray }
  heap := heap
  slotsUsed := slotsUsed
  threads := #[{ frames := .invoking theMethod args0 :: below }]
def below0 : List Frame := [.native { method := ⟨0, 0⟩, args := #[] }]
def about1 : State := aboutOver below0
def p0 : Program := .bare "" "" ""
def e0 : Env := launch0.env 0 0 0
theorem w_frames : about1.frames = Frame.invoking theMethod args0 :: below0 := rfl
set_option maxRecDepth 65536 in
theorem w_args : argsFit about1.vm theMethod args0 = true := by decide +kernel
set_option maxRecDepth 65536 in
theorem w_heap : heapFits about1 = true := by decide +kernel
set_option maxRecDepth 65536 in
theorem w_runnable : about1.curStatus? = some .runnable := by decide +kernel
set_option maxRecDepth 65536 in
theorem w_alone : about1.alone = true := by decide +kernel
set_option maxRecDepth 65536 in
theorem w_named : about1.methodNamed? x = some theMethod := by decide +kernel
set_option maxRecDepth 65536 in
theorem w_hears : about1.hears theMethod below0 = true := by decide +kernel
set_option maxRecDepth 65536 in
theorem w_ripe : about1.ripe theMethod args0 below0 = true := by decide +kernel
theorem w_running : about1.status = .running := rfl
set_option maxRecDepth 65536 in
theorem w_room : about1.hasRoom e0.platform room_1 = true :=
  launch0.hasRoom_least _ room_1 (by decide +kernel) (by decide +kernel) (by decide +kernel) (by decide +kernel) (by decide +kernel) (by decide +kernel)
theorem allAtoms_all (ts : List Jvm.Cond) (a : Array Jvm.Value) (st : Jvm.State) : (allAtoms ts).before a st = ts.all (fun c => c.before a st) := by
  induction ts with
  | nil => rfl
  | cons c t ih =>
    show (Jvm.Cond.and c (allAtoms t)).before a st = _
    rw [Jvm.Cond.before_and, ih, List.all_cons]
def words1 : List Jvm.Cond := Jvm.Cond.code x code maxLocals ret :: tables_1
/-- a 'code' word, met by the world's own term for the bytes: nothing is compared byte by byte -/
theorem code_word {y : MethodName} {bytes : ByteArray} {mx : Nat} {rt : Option FieldType} {a : Array Value} {s : State} {m : MethodId} {meth : Method} {c : Code} (h1 : s.methodNamed? y = some m) (h2 : s.vm.method? m = some meth) (h3 : meth.code = some c) (h4 : c.code = bytes)
    (h5 : (c.maxLocals == mx && c.exceptionTable.isEmpty && decide (c.maxStack ≤ mostOperands) && decide (meth.sig.returnType = rt) && !meth.locks && decide (parseMethodDescriptor y.desc = some meth.sig)) = true) : (Jvm.Cond.code y bytes mx rt).before a s = true := by
  simp only [Bool.and_eq_true, beq_iff_eq, Bool.not_eq_true', decide_eq_true_eq] at h5
  obtain ⟨⟨⟨⟨⟨g1, g2⟩, g3⟩, g4⟩, g5⟩, g6⟩ := h5
  simp [Cond.before, Cond.holds, Cond.value, h1, h2, h3, h4, g1, g2, g3, g4, g5, g6]
def isCode : Jvm.Cond → Bool
  | .code _ _ _ _ => true
  | _ => false
theorem all_split {L : List Jvm.Cond} {P : Jvm.Cond → Bool} (h1 : L.all (fun c => isCode c || P c) = true) (h2 : ∀ c ∈ L.filter isCode, P c = true) : L.all P = true := by
  refine List.all_eq_true.mpr fun c hc => ?_
  have h := List.all_eq_true.mp h1 c hc
  rcases Bool.eq_false_or_eq_true (isCode c) with hi | hi
  · exact h2 c (List.mem_filter.mpr ⟨hc, hi⟩)
  · simpa [hi] using h
set_option maxRecDepth 65536 in
theorem w_c0 : (Jvm.Cond.code x code maxLocals ret).before args0 about1 = true := code_word (m := ⟨1, 2⟩) (meth := k1m2) (c := k1c2) (by decide +kernel) rfl rfl rfl (by decide +kernel)
set_option maxRecDepth 65536 in
theorem w_c1 : (Jvm.Cond.code ({ cls := "com/example/stavegate/stavegate/model/PitchOfPinLaw", name := "semitoneAboveC", desc := "(I)I" } : Jvm.MethodName) method_2_code (1 : Nat) (Option.some Jvm.ClassFile.FieldType.int)).before args0 about1 = true := code_word (m := ⟨1, 1⟩) (meth := k1m1) (c := k1c1) (by decide +kernel) rfl rfl rfl (by decide +kernel)
set_option maxRecDepth 65536 in
theorem w_c2 : (Jvm.Cond.code ({ cls := "com/example/stavegate/stavegate/model/Pitch", name := "of", desc := "(III)I" } : Jvm.MethodName) prog_79_method_4_code (3 : Nat) (Option.some Jvm.ClassFile.FieldType.int)).before args0 about1 = true := code_word (m := ⟨2, 1⟩) (meth := k2m1) (c := k2c1) (by decide +kernel) rfl rfl rfl (by decide +kernel)
def codes1 : List Jvm.Cond := [Jvm.Cond.code x code maxLocals ret, Jvm.Cond.code ({ cls := "com/example/stavegate/stavegate/model/PitchOfPinLaw", name := "semitoneAboveC", desc := "(I)I" } : Jvm.MethodName) method_2_code (1 : Nat) (Option.some Jvm.ClassFile.FieldType.int), Jvm.Cond.code ({ cls := "com/example/stavegate/stavegate/model/Pitch", name := "of", desc := "(III)I" } : Jvm.MethodName) prog_79_method_4_code (3 : Nat) (Option.some Jvm.ClassFile.FieldType.int)]
set_option maxRecDepth 65536 in
theorem codes_eq : words1.filter isCode = codes1 := rfl
theorem w_codes : ∀ c ∈ words1.filter isCode, c.before args0 about1 = true := by
  rw [codes_eq]
  intro c hc
  simp only [codes1, List.mem_cons, List.not_mem_nil, or_false] at hc
  rcases hc with rfl | rfl | rfl
  · exact w_c0
  · exact w_c1
  · exact w_c2
set_option maxRecDepth 65536 in
theorem w_t1 : words1.all (fun c => isCode c || c.before args0 about1) = true := by decide +kernel
theorem w_tables : (allAtoms (Jvm.Cond.code x code maxLocals ret :: tables_1)).before args0 about1 = true := by
  rw [allAtoms_all]
  show words1.all (fun c => c.before args0 about1) = true
  refine all_split ?_ w_codes
  rw [w_t1]
set_option maxRecDepth 65536 in
theorem w_case : (Jvm.Cond.and given_1 narrow_1).before args0 about1 = true := by decide +kernel
theorem w_applies : (headSpec (Jvm.Cond.code x code maxLocals ret :: tables_1) room_1).applies x e0.platform about1 = true :=
  (Spec.applies_iff w_frames).mpr ⟨w_running, w_runnable, w_alone, w_named, w_hears, w_ripe, w_room, w_tables⟩
theorem atStart : AtStart classFile x code maxLocals ret World_1 tables_1 room_1 Calls_1 rest_1 Pre_1 launch0 p0 e0 about1 theMethod args0 below0 :=
  ⟨lists_1, trivial, launch0.admits_env _ _ _, launch0.least_env, fairChoices_fair.cas, fairChoices_fair.clock, w_frames, w_args, w_heap, w_applies, trivial, trivial, w_case⟩
end start1
theorem witness_1 : WitnessClaimed_1 := ⟨start1.p0, start1.e0, start1.about1, start1.theMethod, start1.args0, start1.below0, start1.atStart⟩
end Jvm.Pilot.@@N@@
