import JvmDerived
import JvmDerived.Pilot.@@N@@Statement
import JvmDerived.Pilot.@@N@@Code
set_option linter.unusedVariables false
set_option linter.unusedSimpArgs false
namespace Jvm.RoadKit
open Sem ClassFile Op Lib Jvm.Stand Jvm.Free Jvm.LawKit
section New
variable {p : Program} {l : Launch} {e : Env} {R : Room} {s : State} {m : MethodId} {args : Array Value} {below : List Frame} {meth : Method} {c : Code} {T : State} {locs : List Loc} {cells slots : Nat}
theorem own_retI (X : Stand p l e R s m args below meth c T locs cells slots) (hx : p.tables.exec = Jvm.exec) {pc : Nat} {Ls : Array Slot} {z : Int32} {rest : List Value} (hret : meth.sig.returnType = some .int) (hd : decode c.code pc = .ok (.ireturn, 1)) {fs : List Frame}
    (hl : ∀ (f : JFrame) (acts : List Action), f.method = m → f.locked = none → f.entered = [] → (doReturn e (T.setTop f) acts (some (.int z))).1 = T.setFrames fs) : Steps p.tables e below (T.setTop (mkF m pc Ls (.int z :: rest))) (T.setFrames fs) :=
  retOut X hx hret rfl (Or.inl ⟨rfl, Or.inl rfl, z, rfl⟩) hd hl
theorem own_start {S S0 : State} {P : State → Outcome → Prop} (pre : ∀ t, Steps p.tables e below S t → Steps p.tables e below S0 t)
    (k : ∀ G : State → Prop, (∀ {U U' : State}, (∀ t, Steps p.tables e below U' t → Steps p.tables e below U t) → G U' → G U) → (∀ U, (∃ s₂ o, Steps p.tables e below U s₂ ∧ P s₂ o) → G U) → G S) :
    ∃ s₂ o, Steps p.tables e below S0 s₂ ∧ P s₂ o := by
  obtain ⟨t, o, h1, h2⟩ := k (fun U => ∃ s₂ o, Steps p.tables e below U s₂ ∧ P s₂ o) (fun f ⟨t, o, h1, h2⟩ => ⟨t, o, f t h1, h2⟩) (fun _ h => h)
  exact ⟨t, o, pre t h1, h2⟩
theorem own_lsw {g : JFrame} {target : State} (X : Stand p l e R s m args below meth c T locs cells slots) (hx : p.tables.exec = Jvm.exec) (hg : g.method = m) {dflt : Int} {ps : Array (Int × Int)} {len : Nat} {pc0 pc' : Nat} (hpc : g.pc = pc0) (hd : decode c.code g.pc = .ok (.lookupswitch dflt ps, len)) {i : Int32} {rest : List Value} (hs : g.stack = .int i :: rest)
    (hsort : (ps.toList.zip ps.toList.tail).all (fun q => decide (q.1.1 < q.2.1)) = true) {o : Int} (hoff : lookupswitch.offset ps.toList dflt i.toInt = o) (ho : 0 ≤ (pc0 : Int) + o) (hp : ((pc0 : Int) + o).toNat = pc') (hr : Steps p.tables e below (T.setTop { g with pc := pc', stack := rest }) target) : Steps p.tables e below (T.setTop g) target := by
  subst hg hpc hp hoff
  jvm_step X.here [X.here.top, hx, hd, hs, ho, lookupswitch.wp_chain]
  exact ⟨fun a b a1 b1 hm => by simpa using List.all_eq_true.mp hsort _ hm, hr⟩
theorem own_lt {a b : Int32} (h : a < b) : a.toInt < b.toInt := Int32.lt_iff_toInt_lt.mp h
theorem own_nlt {a b : Int32} (h : ¬ a < b) : b.toInt ≤ a.toInt := Int.not_lt.mp fun q => h (Int32.lt_iff_toInt_lt.mpr q)
theorem own_miss {a o : Int} {r : List (Int × Int)} {d k : Int} (h : a ≠ k) : lookupswitch.offset ((a, o) :: r) d k = lookupswitch.offset r d k := by rw [lookupswitch.offset_cons, if_neg h]
theorem own_nek {x K : Int32} {k : Int} (h : ¬ x = K) (e : K.toInt = k) : k ≠ x.toInt := fun q => h (Int32.toInt_inj.mp (q.symm.trans e.symm))
theorem own_sta_keep {Z : State} {h h' : Heap} {C n d : String} {v : Value} (F : Sta Z h C n d v) (K : Keep h h' []) : Sta Z h' C n d v := by
  obtain ⟨cf, i, k, f, st, cell, h1, h2, h3, h4, h5, r⟩ := F; exact ⟨cf, i, k, f, st, cell, h1, h2, h3, h4, K.2.1 _ _ h5 nin0, r⟩
theorem own_sta_keepE {Z : State} {h h' : Heap} {C n d D : String} {v : Value} {a : Addr} (F : Sta Z h C n d v) (K : Keep h h' [a]) (E : Exa Z h a D) : Sta Z h' C n d v := by
  obtain ⟨cf, i, k, f, st, cell, h1, h2, h3, h4, h5, h6, r⟩ := F
  obtain ⟨c2, k2, q1, -, -, q4, -⟩ := E
  refine ⟨cf, i, k, f, st, cell, h1, h2, h3, h4, K.2.1 _ _ h5 (ninS (fun z => ?_) nin0), h6, r⟩
  subst z; cases q1.symm.trans h5; rw [q4] at h6; cases h6
theorem own_arvset {Z : State} {h h' : Heap} {a : Addr} {c : Cell} {ty : FieldType} {k : ClassId} {z j : Int32} {vs : List Value} {dv v : Value} {N : Nat} (A : Arr Z h a c ty) (q1 : c.cls = k) (S : c.slots.size = z.toNatClampNeg) (q3 : ¬ z < 0) (H : Has c vs dv) (F : ∀ i, i < c.slots.size → fits ty (vs.getD i dv) = true) (hv : fits ty v = true) (W : Wr h h' a j.toNatClampNeg v) (i : Nat) (hj : j.toNatClampNeg = i) (hl : vs.length = N) (hi : i < N) :
    ∃ vs', vs'.length = N ∧ Arv Z h' a k ty z vs' dv := ⟨_, by rw [List.length_set]; exact hl, Arv.set A q1 S q3 H F hv W i hj (by rw [hl]; exact hi)⟩
end New
end Jvm.RoadKit
namespace Jvm.Pilot.@@N@@
open Jvm Jvm.ClassFile Sem Op Lib Jvm.Free Jvm.Stand Jvm.LawKit Jvm.RoadKit Bundle Jvm.Pilot.@@N@@.Jvm.D
def own_to (r0 r1 r2 r3 r4 : Addr) (p : Int32) : Addr := if p = (0 : Int32) then r0 else if p = (79 : Int32) ∨ p = (27 : Int32) ∨ p = (22 : Int32) then r1 else if p = (25 : Int32) ∨ p = (110 : Int32) then r2 else if p = (111 : Int32) then r3 else r4
theorem own_q (p : Int32) : ¬ ((p &&& (2147483647 : Int32)) % (20 : Int32)) < (0 : Int32) ∧ ((p &&& (2147483647 : Int32)) % (20 : Int32)) < (20 : Int32) := by
  have h1 := c_and p 2147483647 (by decide)
  have h2 := (c_irem (p &&& 2147483647) 20 20 (by decide)).1 h1.1
  have e0 : (0 : Int32).toInt = 0 := by decide
  have e7 : (20 : Int32).toInt = 20 := by decide
  rw [Int32.lt_iff_toInt_lt, Int32.lt_iff_toInt_lt, e0, e7, h2]
  omega
theorem d1_0 : decode prog_131_method_4_code 0 = .ok (.iload_n 0, 1) := by decide +kernel
theorem d1_1 : decode prog_131_method_4_code 1 = .ok (.lookupswitch 91 #[(0, 67), (22, 73), (25, 79), (27, 73), (79, 73), (110, 79), (111, 85)], 67) := by decide +kernel
theorem d1_68 : decode prog_131_method_4_code 68 = .ok (.getstatic 3, 3) := by decide +kernel
theorem d1_71 : decode prog_131_method_4_code 71 = .ok (.goto 24, 3) := by decide +kernel
theorem d1_74 : decode prog_131_method_4_code 74 = .ok (.getstatic 7, 3) := by decide +kernel
theorem d1_77 : decode prog_131_method_4_code 77 = .ok (.goto 18, 3) := by decide +kernel
theorem d1_80 : decode prog_131_method_4_code 80 = .ok (.getstatic 10, 3) := by decide +kernel
theorem d1_83 : decode prog_131_method_4_code 83 = .ok (.goto 12, 3) := by decide +kernel
theorem d1_86 : decode prog_131_method_4_code 86 = .ok (.getstatic 13, 3) := by decide +kernel
theorem d1_89 : decode prog_131_method_4_code 89 = .ok (.goto 6, 3) := by decide +kernel
theorem d1_92 : decode prog_131_method_4_code 92 = .ok (.getstatic 16, 3) := by decide +kernel
theorem d1_95 : decode prog_131_method_4_code 95 = .ok (.areturn, 1) := by decide +kernel
theorem pn_io_evenkeel_member_Reaction : plainName "io/evenkeel/member/Reaction" = true := by first | (simp [plainName, overriddenIn]; done) | decide +kernel
theorem ef_1 (m : MethodId) (p0 : Int32) : entryFrame m #[(.int p0)] 1 = mkF m 0 #[.val (.int p0)] [] := by first | (simp [entryFrame, mkF, argsToLocals, Value.category]; done) | rfl
def Q1 (p0 : Int32) (r0 r1 r2 r3 r4 : Addr) (h0 : Heap) (n0 : Nat) (v : Option Value) (h : Heap) (L : List Loc) : Prop := v = some (.ref (own_to r0 r1 r2 r3 r4 p0)) ∧ Fr n0 L ∧ h = h0
set_option maxRecDepth 65536 in
set_option maxHeartbeats 40000000 in
theorem rm1 (l : Launch) (Z : State) (a0 : Array Value) (hw : ∀ d ∈ tables_1, d.before a0 Z = true) (ws : List Jvm.Cond) (p0 : Int32) (r0 r1 r2 r3 r4 : Addr) (h0 : Heap) (n0 : Nat) (Z0 : n0 ≤ h0.size) (S0 : Sta Z h0 "io/evenkeel/member/Reaction" "GO_ON" "Lio/evenkeel/member/Reaction;" (.ref r0)) (S1 : Sta Z h0 "io/evenkeel/member/Reaction" "JOIN_AGAIN" "Lio/evenkeel/member/Reaction;" (.ref r1)) (S2 : Sta Z h0 "io/evenkeel/member/Reaction" "JOIN_AS_NEW" "Lio/evenkeel/member/Reaction;" (.ref r2)) (S3 : Sta Z h0 "io/evenkeel/member/Reaction" "JOIN_LATER" "Lio/evenkeel/member/Reaction;" (.ref r3)) (S4 : Sta Z h0 "io/evenkeel/member/Reaction" "STOP" "Lio/evenkeel/member/Reaction;" (.ref r4)) :
    MetFree l (⟨"io/evenkeel/member/Reaction", "to", "(S)Lio/evenkeel/member/Reaction;"⟩ : MethodName) (head1 (Jvm.Cond.code (⟨"io/evenkeel/member/Reaction", "to", "(S)Lio/evenkeel/member/Reaction;"⟩ : MethodName) prog_131_method_4_code 1 (some (.object "io/evenkeel/member/Reaction")) :: ws) ({ frames := 0, cells := 0, slots := 0, locals := 0 } : Room)) (fun a U => a = #[(.int p0)] ∧ Z.Warmed39 U.vm ∧ U.heap = h0) (fun _ _ _ _ _ => True) (fun _ U o U' => ∃ v L, o = .returned v ∧ Q1 p0 r0 r1 r2 r3 r4 h0 n0 v U'.heap L ∧ FrameEnd U o U' L ({ frames := 0, cells := 0, slots := 0, locals := 0 } : Room).cells ({ frames := 0, cells := 0, slots := 0, locals := 0 } : Room).slots) := by
  refine MetFree.of_bodySF (plainFor_of_name pn_io_evenkeel_member_Reaction) hisR ?_
  intro p e s m args below meth c s₁ Bd hml0 hP hK
  obtain ⟨rfl, hZ, hh⟩ := hP
  have hx := Bd.exec
  have hby := Bd.bytes
  have hml : c.maxLocals = 1 := hml0
  have hown : s.vm.findClass "io/evenkeel/member/Reaction" = some m.cls := findClass_of_methodNamed Bd.named
  have hnm := (name_of_methodNamed Bd.named Bd.method).1
  have X0 : Stand p l e ({ frames := 0, cells := 0, slots := 0, locals := 0 } : Room) s m #[(.int p0)] below meth c s₁ [] 0 0 := Stand.of_body Bd
  have e0 : s₁.heap = h0 := by rw [← hh, Bd.state]; rfl
  have N0 := Fr.nil n0
  have pre0 : ∀ t, Steps p.tables e below (s₁.setTop (mkF m 0 #[.val (.int p0)] [])) t → Steps p.tables e below (s₁.setTop (entryFrame m #[(.int p0)] 1)) t := fun t k => castTop (ef_1 m p0) k
  have K0 := Keep.refl h0 []
  refine own_start pre0 fun G gs gl => ?_
  show G (s₁.setTop (mkF m 0 #[.val (.int p0)] []))
  refine gs (fun t k => XS.iloadN X0.here hx rfl (hb hby d1_0) rfl k) ?_
  show G (s₁.setTop (mkF m 1 #[.val (.int p0)] [(.int p0)]))
  by_cases hk1_0 : p0 = (0 : Int32)
  · refine gs (fun t k => own_lsw X0 hx rfl (pc0 := 1) (pc' := 68) rfl (hb hby d1_1) rfl (by decide) (o := 67) (by rw [hk1_0]; decide) (by decide) (by decide) k) ?_
    show G (s₁.setTop (mkF m 68 #[.val (.int p0)] []))
    obtain ⟨T1, X1, e1, st1⟩ := getS2 X0 hx hZ hown (host := "") (Or.inl (hw _ (List.mem_of_getElem? (i := 12) rfl))) Via.refl e0 S0 (g := (mkF m 68 #[.val (.int p0)] [])) rfl (hb hby d1_68)
    refine gs (fun t k => st1 _ k) ?_
    show G (T1.setTop (mkF m 71 #[.val (.int p0)] [(.ref r0)]))
    refine gs (fun t k => XS.goto X1.here hx rfl (pc0 := 71) (pc' := 95) rfl (hb hby d1_71) (by decide) (by decide) k) ?_
    show G (T1.setTop (mkF m 95 #[.val (.int p0)] [(.ref r0)]))
    obtain ⟨fs, hr, hrun, hended, hW, hsame⟩ := X1.leave (v := some (.ref r0)) (fun h => by rw [Bd.returns] at h; cases h)
    refine gl _ ⟨_, _, retOut X1 hx Bd.returns rfl (Or.inr (Or.inr (Or.inr (Or.inr ⟨rfl, rfl, rfl⟩)))) (hb hby d1_95) hr, hrun, hended, _, _, rfl, ?_, ⟨_, rfl⟩, hW, hsame.mono (by decide) (by decide)⟩
    show Q1 p0 r0 r1 r2 r3 r4 h0 n0 _ T1.heap _
    rw [e1]
    exact ⟨congrArg (fun z => some (Value.ref z)) (by simp +decide [own_to, hk1_0]), N0, rfl⟩
  by_cases hk1_22 : p0 = (22 : Int32)
  · refine gs (fun t k => own_lsw X0 hx rfl (pc0 := 1) (pc' := 74) rfl (hb hby d1_1) rfl (by decide) (o := 73) (by rw [hk1_22]; decide) (by decide) (by decide) k) ?_
    show G (s₁.setTop (mkF m 74 #[.val (.int p0)] []))
    obtain ⟨T2, X2, e2, st2⟩ := getS2 X0 hx hZ hown (host := "") (Or.inl (hw _ (List.mem_of_getElem? (i := 16) rfl))) Via.refl e0 S1 (g := (mkF m 74 #[.val (.int p0)] [])) rfl (hb hby d1_74)
    refine gs (fun t k => st2 _ k) ?_
    show G (T2.setTop (mkF m 77 #[.val (.int p0)] [(.ref r1)]))
    refine gs (fun t k => XS.goto X2.here hx rfl (pc0 := 77) (pc' := 95) rfl (hb hby d1_77) (by decide) (by decide) k) ?_
    show G (T2.setTop (mkF m 95 #[.val (.int p0)] [(.ref r1)]))
    obtain ⟨fs, hr, hrun, hended, hW, hsame⟩ := X2.leave (v := some (.ref r1)) (fun h => by rw [Bd.returns] at h; cases h)
    refine gl _ ⟨_, _, retOut X2 hx Bd.returns rfl (Or.inr (Or.inr (Or.inr (Or.inr ⟨rfl, rfl, rfl⟩)))) (hb hby d1_95) hr, hrun, hended, _, _, rfl, ?_, ⟨_, rfl⟩, hW, hsame.mono (by decide) (by decide)⟩
    show Q1 p0 r0 r1 r2 r3 r4 h0 n0 _ T2.heap _
    rw [e2]
    exact ⟨congrArg (fun z => some (Value.ref z)) (by simp +decide [own_to, hk1_0, hk1_22]), N0, rfl⟩
  by_cases hk1_25 : p0 = (25 : Int32)
  · refine gs (fun t k => own_lsw X0 hx rfl (pc0 := 1) (pc' := 80) rfl (hb hby d1_1) rfl (by decide) (o := 79) (by rw [hk1_25]; decide) (by decide) (by decide) k) ?_
    show G (s₁.setTop (mkF m 80 #[.val (.int p0)] []))
    obtain ⟨T3, X3, e3, st3⟩ := getS2 X0 hx hZ hown (host := "") (Or.inl (hw _ (List.mem_of_getElem? (i := 19) rfl))) Via.refl e0 S2 (g := (mkF m 80 #[.val (.int p0)] [])) rfl (hb hby d1_80)
    refine gs (fun t k => st3 _ k) ?_
    show G (T3.setTop (mkF m 83 #[.val (.int p0)] [(.ref r2)]))
    refine gs (fun t k => XS.goto X3.here hx rfl (pc0 := 83) (pc' := 95) rfl (hb hby d1_83) (by decide) (by decide) k) ?_
    show G (T3.setTop (mkF m 95 #[.val (.int p0)] [(.ref r2)]))
    obtain ⟨fs, hr, hrun, hended, hW, hsame⟩ := X3.leave (v := some (.ref r2)) (fun h => by rw [Bd.returns] at h; cases h)
    refine gl _ ⟨_, _, retOut X3 hx Bd.returns rfl (Or.inr (Or.inr (Or.inr (Or.inr ⟨rfl, rfl, rfl⟩)))) (hb hby d1_95) hr, hrun, hended, _, _, rfl, ?_, ⟨_, rfl⟩, hW, hsame.mono (by decide) (by decide)⟩
    show Q1 p0 r0 r1 r2 r3 r4 h0 n0 _ T3.heap _
    rw [e3]
    exact ⟨congrArg (fun z => some (Value.ref z)) (by simp +decide [own_to, hk1_0, hk1_22, hk1_25]), N0, rfl⟩
  by_cases hk1_27 : p0 = (27 : Int32)
  · refine gs (fun t k => own_lsw X0 hx rfl (pc0 := 1) (pc' := 74) rfl (hb hby d1_1) rfl (by decide) (o := 73) (by rw [hk1_27]; decide) (by decide) (by decide) k) ?_
    show G (s₁.setTop (mkF m 74 #[.val (.int p0)] []))
    obtain ⟨T4, X4, e4, st4⟩ := getS2 X0 hx hZ hown (host := "") (Or.inl (hw _ (List.mem_of_getElem? (i := 16) rfl))) Via.refl e0 S1 (g := (mkF m 74 #[.val (.int p0)] [])) rfl (hb hby d1_74)
    refine gs (fun t k => st4 _ k) ?_
    show G (T4.setTop (mkF m 77 #[.val (.int p0)] [(.ref r1)]))
    refine gs (fun t k => XS.goto X4.here hx rfl (pc0 := 77) (pc' := 95) rfl (hb hby d1_77) (by decide) (by decide) k) ?_
    show G (T4.setTop (mkF m 95 #[.val (.int p0)] [(.ref r1)]))
    obtain ⟨fs, hr, hrun, hended, hW, hsame⟩ := X4.leave (v := some (.ref r1)) (fun h => by rw [Bd.returns] at h; cases h)
    refine gl _ ⟨_, _, retOut X4 hx Bd.returns rfl (Or.inr (Or.inr (Or.inr (Or.inr ⟨rfl, rfl, rfl⟩)))) (hb hby d1_95) hr, hrun, hended, _, _, rfl, ?_, ⟨_, rfl⟩, hW, hsame.mono (by decide) (by decide)⟩
    show Q1 p0 r0 r1 r2 r3 r4 h0 n0 _ T4.heap _
    rw [e4]
    exact ⟨congrArg (fun z => some (Value.ref z)) (by simp +decide [own_to, hk1_0, hk1_22, hk1_25, hk1_27]), N0, rfl⟩
  by_cases hk1_79 : p0 = (79 : Int32)
  · refine gs (fun t k => own_lsw X0 hx rfl (pc0 := 1) (pc' := 74) rfl (hb hby d1_1) rfl (by decide) (o := 73) (by rw [hk1_79]; decide) (by decide) (by decide) k) ?_
    show G (s₁.setTop (mkF m 74 #[.val (.int p0)] []))
    obtain ⟨T5, X5, e5, st5⟩ := getS2 X0 hx hZ hown (host := "") (Or.inl (hw _ (List.mem_of_getElem? (i := 16) rfl))) Via.refl e0 S1 (g := (mkF m 74 #[.val (.int p0)] [])) rfl (hb hby d1_74)
    refine gs (fun t k => st5 _ k) ?_
    show G (T5.setTop (mkF m 77 #[.val (.int p0)] [(.ref r1)]))
    refine gs (fun t k => XS.goto X5.here hx rfl (pc0 := 77) (pc' := 95) rfl (hb hby d1_77) (by decide) (by decide) k) ?_
    show G (T5.setTop (mkF m 95 #[.val (.int p0)] [(.ref r1)]))
    obtain ⟨fs, hr, hrun, hended, hW, hsame⟩ := X5.leave (v := some (.ref r1)) (fun h => by rw [Bd.returns] at h; cases h)
    refine gl _ ⟨_, _, retOut X5 hx Bd.returns rfl (Or.inr (Or.inr (Or.inr (Or.inr ⟨rfl, rfl, rfl⟩)))) (hb hby d1_95) hr, hrun, hended, _, _, rfl, ?_, ⟨_, rfl⟩, hW, hsame.mono (by decide) (by decide)⟩
    show Q1 p0 r0 r1 r2 r3 r4 h0 n0 _ T5.heap _
    rw [e5]
    exact ⟨congrArg (fun z => some (Value.ref z)) (by simp +decide [own_to, hk1_0, hk1_22, hk1_25, hk1_27, hk1_79]), N0, rfl⟩
  by_cases hk1_110 : p0 = (110 : Int32)
  · refine gs (fun t k => own_lsw X0 hx rfl (pc0 := 1) (pc' := 80) rfl (hb hby d1_1) rfl (by decide) (o := 79) (by rw [hk1_110]; decide) (by decide) (by decide) k) ?_
    show G (s₁.setTop (mkF m 80 #[.val (.int p0)] []))
    obtain ⟨T6, X6, e6, st6⟩ := getS2 X0 hx hZ hown (host := "") (Or.inl (hw _ (List.mem_of_getElem? (i := 19) rfl))) Via.refl e0 S2 (g := (mkF m 80 #[.val (.int p0)] [])) rfl (hb hby d1_80)
    refine gs (fun t k => st6 _ k) ?_
    show G (T6.setTop (mkF m 83 #[.val (.int p0)] [(.ref r2)]))
    refine gs (fun t k => XS.goto X6.here hx rfl (pc0 := 83) (pc' := 95) rfl (hb hby d1_83) (by decide) (by decide) k) ?_
    show G (T6.setTop (mkF m 95 #[.val (.int p0)] [(.ref r2)]))
    obtain ⟨fs, hr, hrun, hended, hW, hsame⟩ := X6.leave (v := some (.ref r2)) (fun h => by rw [Bd.returns] at h; cases h)
    refine gl _ ⟨_, _, retOut X6 hx Bd.returns rfl (Or.inr (Or.inr (Or.inr (Or.inr ⟨rfl, rfl, rfl⟩)))) (hb hby d1_95) hr, hrun, hended, _, _, rfl, ?_, ⟨_, rfl⟩, hW, hsame.mono (by decide) (by decide)⟩
    show Q1 p0 r0 r1 r2 r3 r4 h0 n0 _ T6.heap _
    rw [e6]
    exact ⟨congrArg (fun z => some (Value.ref z)) (by simp +decide [own_to, hk1_0, hk1_22, hk1_25, hk1_27, hk1_79, hk1_110]), N0, rfl⟩
  by_cases hk1_111 : p0 = (111 : Int32)
  · refine gs (fun t k => own_lsw X0 hx rfl (pc0 := 1) (pc' := 86) rfl (hb hby d1_1) rfl (by decide) (o := 85) (by rw [hk1_111]; decide) (by decide) (by decide) k) ?_
    show G (s₁.setTop (mkF m 86 #[.val (.int p0)] []))
    obtain ⟨T7, X7, e7, st7⟩ := getS2 X0 hx hZ hown (host := "") (Or.inl (hw _ (List.mem_of_getElem? (i := 22) rfl))) Via.refl e0 S3 (g := (mkF m 86 #[.val (.int p0)] [])) rfl (hb hby d1_86)
    refine gs (fun t k => st7 _ k) ?_
    show G (T7.setTop (mkF m 89 #[.val (.int p0)] [(.ref r3)]))
    refine gs (fun t k => XS.goto X7.here hx rfl (pc0 := 89) (pc' := 95) rfl (hb hby d1_89) (by decide) (by decide) k) ?_
    show G (T7.setTop (mkF m 95 #[.val (.int p0)] [(.ref r3)]))
    obtain ⟨fs, hr, hrun, hended, hW, hsame⟩ := X7.leave (v := some (.ref r3)) (fun h => by rw [Bd.returns] at h; cases h)
    refine gl _ ⟨_, _, retOut X7 hx Bd.returns rfl (Or.inr (Or.inr (Or.inr (Or.inr ⟨rfl, rfl, rfl⟩)))) (hb hby d1_95) hr, hrun, hended, _, _, rfl, ?_, ⟨_, rfl⟩, hW, hsame.mono (by decide) (by decide)⟩
    show Q1 p0 r0 r1 r2 r3 r4 h0 n0 _ T7.heap _
    rw [e7]
    exact ⟨congrArg (fun z => some (Value.ref z)) (by simp +decide [own_to, hk1_0, hk1_22, hk1_25, hk1_27, hk1_79, hk1_110, hk1_111]), N0, rfl⟩
  refine gs (fun t k => own_lsw X0 hx rfl (pc0 := 1) (pc' := 92) rfl (hb hby d1_1) rfl (by decide) (o := 91) ((own_miss (own_nek hk1_0 (by decide))).trans ((own_miss (own_nek hk1_22 (by decide))).trans ((own_miss (own_nek hk1_25 (by decide))).trans ((own_miss (own_nek hk1_27 (by decide))).trans ((own_miss (own_nek hk1_79 (by decide))).trans ((own_miss (own_nek hk1_110 (by decide))).trans ((own_miss (own_nek hk1_111 (by decide))).trans rfl))))))) (by decide) (by decide) k) ?_
  show G (s₁.setTop (mkF m 92 #[.val (.int p0)] []))
  obtain ⟨T8, X8, e8, st8⟩ := getS2 X0 hx hZ hown (host := "") (Or.inl (hw _ (List.mem_of_getElem? (i := 5) rfl))) Via.refl e0 S4 (g := (mkF m 92 #[.val (.int p0)] [])) rfl (hb hby d1_92)
  refine gs (fun t k => st8 _ k) ?_
  show G (T8.setTop (mkF m 95 #[.val (.int p0)] [(.ref r4)]))
  obtain ⟨fs, hr, hrun, hended, hW, hsame⟩ := X8.leave (v := some (.ref r4)) (fun h => by rw [Bd.returns] at h; cases h)
  refine gl _ ⟨_, _, retOut X8 hx Bd.returns rfl (Or.inr (Or.inr (Or.inr (Or.inr ⟨rfl, rfl, rfl⟩)))) (hb hby d1_95) hr, hrun, hended, _, _, rfl, ?_, ⟨_, rfl⟩, hW, hsame.mono (by decide) (by decide)⟩
  show Q1 p0 r0 r1 r2 r3 r4 h0 n0 _ T8.heap _
  rw [e8]
  exact ⟨congrArg (fun z => some (Value.ref z)) (by simp +decide [own_to, hk1_0, hk1_22, hk1_25, hk1_27, hk1_79, hk1_110, hk1_111]), N0, rfl⟩
theorem d2_0 : decode method_2_code 0 = .ok (.iload_n 0, 1) := by decide +kernel
theorem d2_1 : decode method_2_code 1 = .ok (.ifCond .ne 7, 3) := by decide +kernel
theorem d2_4 : decode method_2_code 4 = .ok (.getstatic 7, 3) := by decide +kernel
theorem d2_7 : decode method_2_code 7 = .ok (.areturn, 1) := by decide +kernel
theorem d2_8 : decode method_2_code 8 = .ok (.iload_n 0, 1) := by decide +kernel
theorem d2_9 : decode method_2_code 9 = .ok (.bipush 79, 2) := by decide +kernel
theorem d2_11 : decode method_2_code 11 = .ok (.if_icmp .eq 15, 3) := by decide +kernel
theorem d2_14 : decode method_2_code 14 = .ok (.iload_n 0, 1) := by decide +kernel
theorem d2_15 : decode method_2_code 15 = .ok (.bipush 27, 2) := by decide +kernel
theorem d2_17 : decode method_2_code 17 = .ok (.if_icmp .eq 9, 3) := by decide +kernel
theorem d2_20 : decode method_2_code 20 = .ok (.iload_n 0, 1) := by decide +kernel
theorem d2_21 : decode method_2_code 21 = .ok (.bipush 22, 2) := by decide +kernel
theorem d2_23 : decode method_2_code 23 = .ok (.if_icmp .ne 7, 3) := by decide +kernel
theorem d2_26 : decode method_2_code 26 = .ok (.getstatic 13, 3) := by decide +kernel
theorem d2_29 : decode method_2_code 29 = .ok (.areturn, 1) := by decide +kernel
theorem d2_30 : decode method_2_code 30 = .ok (.iload_n 0, 1) := by decide +kernel
theorem d2_31 : decode method_2_code 31 = .ok (.bipush 25, 2) := by decide +kernel
theorem d2_33 : decode method_2_code 33 = .ok (.if_icmp .eq 9, 3) := by decide +kernel
theorem d2_36 : decode method_2_code 36 = .ok (.iload_n 0, 1) := by decide +kernel
theorem d2_37 : decode method_2_code 37 = .ok (.bipush 110, 2) := by decide +kernel
theorem d2_39 : decode method_2_code 39 = .ok (.if_icmp .ne 7, 3) := by decide +kernel
theorem d2_42 : decode method_2_code 42 = .ok (.getstatic 16, 3) := by decide +kernel
theorem d2_45 : decode method_2_code 45 = .ok (.areturn, 1) := by decide +kernel
theorem d2_46 : decode method_2_code 46 = .ok (.iload_n 0, 1) := by decide +kernel
theorem d2_47 : decode method_2_code 47 = .ok (.bipush 111, 2) := by decide +kernel
theorem d2_49 : decode method_2_code 49 = .ok (.if_icmp .ne 7, 3) := by decide +kernel
theorem d2_52 : decode method_2_code 52 = .ok (.getstatic 19, 3) := by decide +kernel
theorem d2_55 : decode method_2_code 55 = .ok (.areturn, 1) := by decide +kernel
theorem d2_56 : decode method_2_code 56 = .ok (.getstatic 22, 3) := by decide +kernel
theorem d2_59 : decode method_2_code 59 = .ok (.areturn, 1) := by decide +kernel
theorem pn_io_evenkeel_member_ReactionToPinLaw : plainName "io/evenkeel/member/ReactionToPinLaw" = true := by first | (simp [plainName, overriddenIn]; done) | decide +kernel
theorem ef_2 (m : MethodId) (p0 : Int32) : entryFrame m #[(.int p0)] 1 = mkF m 0 #[.val (.int p0)] [] := by first | (simp [entryFrame, mkF, argsToLocals, Value.category]; done) | rfl
def Q2 (p0 : Int32) (r0 r1 r2 r3 r4 : Addr) (h0 : Heap) (n0 : Nat) (v : Option Value) (h : Heap) (L : List Loc) : Prop := v = some (.ref (own_to r0 r1 r2 r3 r4 p0)) ∧ Fr n0 L ∧ h = h0
set_option maxRecDepth 65536 in
set_option maxHeartbeats 40000000 in
theorem rm2 (l : Launch) (Z : State) (a0 : Array Value) (hw : ∀ d ∈ tables_1, d.before a0 Z = true) (ws : List Jvm.Cond) (p0 : Int32) (r0 r1 r2 r3 r4 : Addr) (h0 : Heap) (n0 : Nat) (Z0 : n0 ≤ h0.size) (S0 : Sta Z h0 "io/evenkeel/member/Reaction" "GO_ON" "Lio/evenkeel/member/Reaction;" (.ref r0)) (S1 : Sta Z h0 "io/evenkeel/member/Reaction" "JOIN_AGAIN" "Lio/evenkeel/member/Reaction;" (.ref r1)) (S2 : Sta Z h0 "io/evenkeel/member/Reaction" "JOIN_AS_NEW" "Lio/evenkeel/member/Reaction;" (.ref r2)) (S3 : Sta Z h0 "io/evenkeel/member/Reaction" "JOIN_LATER" "Lio/evenkeel/member/Reaction;" (.ref r3)) (S4 : Sta Z h0 "io/evenkeel/member/Reaction" "STOP" "Lio/evenkeel/member/Reaction;" (.ref r4)) :
    MetFree l (⟨"io/evenkeel/member/ReactionToPinLaw", "expected", "(I)Lio/evenkeel/member/Reaction;"⟩ : MethodName) (head1 (Jvm.Cond.code (⟨"io/evenkeel/member/ReactionToPinLaw", "expected", "(I)Lio/evenkeel/member/Reaction;"⟩ : MethodName) method_2_code 1 (some (.object "io/evenkeel/member/Reaction")) :: ws) ({ frames := 0, cells := 0, slots := 0, locals := 0 } : Room)) (fun a U => a = #[(.int p0)] ∧ Z.Warmed39 U.vm ∧ U.heap = h0) (fun _ _ _ _ _ => True) (fun _ U o U' => ∃ v L, o = .returned v ∧ Q2 p0 r0 r1 r2 r3 r4 h0 n0 v U'.heap L ∧ FrameEnd U o U' L ({ frames := 0, cells := 0, slots := 0, locals := 0 } : Room).cells ({ frames := 0, cells := 0, slots := 0, locals := 0 } : Room).slots) := by
  refine MetFree.of_bodySF (plainFor_of_name pn_io_evenkeel_member_ReactionToPinLaw) hisR ?_
  intro p e s m args below meth c s₁ Bd hml0 hP hK
  obtain ⟨rfl, hZ, hh⟩ := hP
  have hx := Bd.exec
  have hby := Bd.bytes
  have hml : c.maxLocals = 1 := hml0
  have hown : s.vm.findClass "io/evenkeel/member/ReactionToPinLaw" = some m.cls := findClass_of_methodNamed Bd.named
  have hnm := (name_of_methodNamed Bd.named Bd.method).1
  have X0 : Stand p l e ({ frames := 0, cells := 0, slots := 0, locals := 0 } : Room) s m #[(.int p0)] below meth c s₁ [] 0 0 := Stand.of_body Bd
  have e0 : s₁.heap = h0 := by rw [← hh, Bd.state]; rfl
  have N0 := Fr.nil n0
  have pre0 : ∀ t, Steps p.tables e below (s₁.setTop (mkF m 0 #[.val (.int p0)] [])) t → Steps p.tables e below (s₁.setTop (entryFrame m #[(.int p0)] 1)) t := fun t k => castTop (ef_2 m p0) k
  have K0 := Keep.refl h0 []
  refine own_start pre0 fun G gs gl => ?_
  show G (s₁.setTop (mkF m 0 #[.val (.int p0)] []))
  refine gs (fun t k => XS.iloadN X0.here hx rfl (hb hby d2_0) rfl k) ?_
  show G (s₁.setTop (mkF m 1 #[.val (.int p0)] [(.int p0)]))
  by_cases hc1 : p0 = (0 : Int32)
  · refine gs (fun t k => XS.ifNo X0.here hx rfl (hb hby d2_1) rfl ((if0 _ _).trans (teq hc1).2) k) ?_
    show G (s₁.setTop (mkF m 4 #[.val (.int p0)] []))
    obtain ⟨T1, X1, e1, st1⟩ := getS2 X0 hx hZ hown (host := "") (Or.inl (hw _ (List.mem_of_getElem? (i := 14) rfl))) Via.refl e0 S0 (g := (mkF m 4 #[.val (.int p0)] [])) rfl (hb hby d2_4)
    refine gs (fun t k => st1 _ k) ?_
    show G (T1.setTop (mkF m 7 #[.val (.int p0)] [(.ref r0)]))
    obtain ⟨fs, hr, hrun, hended, hW, hsame⟩ := X1.leave (v := some (.ref r0)) (fun h => by rw [Bd.returns] at h; cases h)
    refine gl _ ⟨_, _, retOut X1 hx Bd.returns rfl (Or.inr (Or.inr (Or.inr (Or.inr ⟨rfl, rfl, rfl⟩)))) (hb hby d2_7) hr, hrun, hended, _, _, rfl, ?_, ⟨_, rfl⟩, hW, hsame.mono (by decide) (by decide)⟩
    show Q2 p0 r0 r1 r2 r3 r4 h0 n0 _ T1.heap _
    rw [e1]
    exact ⟨congrArg (fun z => some (Value.ref z)) (by simp +decide [own_to, hc1]), N0, rfl⟩
  · refine gs (fun t k => XS.ifYes X0.here hx rfl (pc0 := 1) (pc' := 8) rfl (hb hby d2_1) rfl ((if0 _ _).trans (feq hc1).2) (by decide) (by decide) k) ?_
    show G (s₁.setTop (mkF m 8 #[.val (.int p0)] []))
    refine gs (fun t k => XS.iloadN X0.here hx rfl (hb hby d2_8) rfl k) ?_
    show G (s₁.setTop (mkF m 9 #[.val (.int p0)] [(.int p0)]))
    refine gs (fun t k => XS.bipush X0.here hx rfl (hb hby d2_9) k) ?_
    show G (s₁.setTop (mkF m 11 #[.val (.int p0)] [(.int (79 : Int32)), (.int p0)]))
    by_cases hc11 : p0 = (79 : Int32)
    · refine gs (fun t k => XS.icmpYes X0.here hx rfl (pc0 := 11) (pc' := 26) rfl (hb hby d2_11) rfl (teq hc11).1 (by decide) (by decide) k) ?_
      show G (s₁.setTop (mkF m 26 #[.val (.int p0)] []))
      obtain ⟨T2, X2, e2, st2⟩ := getS2 X0 hx hZ hown (host := "") (Or.inl (hw _ (List.mem_of_getElem? (i := 18) rfl))) Via.refl e0 S1 (g := (mkF m 26 #[.val (.int p0)] [])) rfl (hb hby d2_26)
      refine gs (fun t k => st2 _ k) ?_
      show G (T2.setTop (mkF m 29 #[.val (.int p0)] [(.ref r1)]))
      obtain ⟨fs, hr, hrun, hended, hW, hsame⟩ := X2.leave (v := some (.ref r1)) (fun h => by rw [Bd.returns] at h; cases h)
      refine gl _ ⟨_, _, retOut X2 hx Bd.returns rfl (Or.inr (Or.inr (Or.inr (Or.inr ⟨rfl, rfl, rfl⟩)))) (hb hby d2_29) hr, hrun, hended, _, _, rfl, ?_, ⟨_, rfl⟩, hW, hsame.mono (by decide) (by decide)⟩
      show Q2 p0 r0 r1 r2 r3 r4 h0 n0 _ T2.heap _
      rw [e2]
      exact ⟨congrArg (fun z => some (Value.ref z)) (by simp +decide [own_to, hc1, hc11]), N0, rfl⟩
    · refine gs (fun t k => XS.icmpNo X0.here hx rfl (hb hby d2_11) rfl (feq hc11).1 k) ?_
      show G (s₁.setTop (mkF m 14 #[.val (.int p0)] []))
      refine gs (fun t k => XS.iloadN X0.here hx rfl (hb hby d2_14) rfl k) ?_
      show G (s₁.setTop (mkF m 15 #[.val (.int p0)] [(.int p0)]))
      refine gs (fun t k => XS.bipush X0.here hx rfl (hb hby d2_15) k) ?_
      show G (s₁.setTop (mkF m 17 #[.val (.int p0)] [(.int (27 : Int32)), (.int p0)]))
      by_cases hc17 : p0 = (27 : Int32)
      · refine gs (fun t k => XS.icmpYes X0.here hx rfl (pc0 := 17) (pc' := 26) rfl (hb hby d2_17) rfl (teq hc17).1 (by decide) (by decide) k) ?_
        show G (s₁.setTop (mkF m 26 #[.val (.int p0)] []))
        obtain ⟨T3, X3, e3, st3⟩ := getS2 X0 hx hZ hown (host := "") (Or.inl (hw _ (List.mem_of_getElem? (i := 18) rfl))) Via.refl e0 S1 (g := (mkF m 26 #[.val (.int p0)] [])) rfl (hb hby d2_26)
        refine gs (fun t k => st3 _ k) ?_
        show G (T3.setTop (mkF m 29 #[.val (.int p0)] [(.ref r1)]))
        obtain ⟨fs, hr, hrun, hended, hW, hsame⟩ := X3.leave (v := some (.ref r1)) (fun h => by rw [Bd.returns] at h; cases h)
        refine gl _ ⟨_, _, retOut X3 hx Bd.returns rfl (Or.inr (Or.inr (Or.inr (Or.inr ⟨rfl, rfl, rfl⟩)))) (hb hby d2_29) hr, hrun, hended, _, _, rfl, ?_, ⟨_, rfl⟩, hW, hsame.mono (by decide) (by decide)⟩
        show Q2 p0 r0 r1 r2 r3 r4 h0 n0 _ T3.heap _
        rw [e3]
        exact ⟨congrArg (fun z => some (Value.ref z)) (by simp +decide [own_to, hc1, hc11, hc17]), N0, rfl⟩
      · refine gs (fun t k => XS.icmpNo X0.here hx rfl (hb hby d2_17) rfl (feq hc17).1 k) ?_
        show G (s₁.setTop (mkF m 20 #[.val (.int p0)] []))
        refine gs (fun t k => XS.iloadN X0.here hx rfl (hb hby d2_20) rfl k) ?_
        show G (s₁.setTop (mkF m 21 #[.val (.int p0)] [(.int p0)]))
        refine gs (fun t k => XS.bipush X0.here hx rfl (hb hby d2_21) k) ?_
        show G (s₁.setTop (mkF m 23 #[.val (.int p0)] [(.int (22 : Int32)), (.int p0)]))
        by_cases hc23 : p0 = (22 : Int32)
        · refine gs (fun t k => XS.icmpNo X0.here hx rfl (hb hby d2_23) rfl (teq hc23).2 k) ?_
          show G (s₁.setTop (mkF m 26 #[.val (.int p0)] []))
          obtain ⟨T4, X4, e4, st4⟩ := getS2 X0 hx hZ hown (host := "") (Or.inl (hw _ (List.mem_of_getElem? (i := 18) rfl))) Via.refl e0 S1 (g := (mkF m 26 #[.val (.int p0)] [])) rfl (hb hby d2_26)
          refine gs (fun t k => st4 _ k) ?_
          show G (T4.setTop (mkF m 29 #[.val (.int p0)] [(.ref r1)]))
          obtain ⟨fs, hr, hrun, hended, hW, hsame⟩ := X4.leave (v := some (.ref r1)) (fun h => by rw [Bd.returns] at h; cases h)
          refine gl _ ⟨_, _, retOut X4 hx Bd.returns rfl (Or.inr (Or.inr (Or.inr (Or.inr ⟨rfl, rfl, rfl⟩)))) (hb hby d2_29) hr, hrun, hended, _, _, rfl, ?_, ⟨_, rfl⟩, hW, hsame.mono (by decide) (by decide)⟩
          show Q2 p0 r0 r1 r2 r3 r4 h0 n0 _ T4.heap _
          rw [e4]
          exact ⟨congrArg (fun z => some (Value.ref z)) (by simp +decide [own_to, hc1, hc11, hc17, hc23]), N0, rfl⟩
        · refine gs (fun t k => XS.icmpYes X0.here hx rfl (pc0 := 23) (pc' := 30) rfl (hb hby d2_23) rfl (feq hc23).2 (by decide) (by decide) k) ?_
          show G (s₁.setTop (mkF m 30 #[.val (.int p0)] []))
          refine gs (fun t k => XS.iloadN X0.here hx rfl (hb hby d2_30) rfl k) ?_
          show G (s₁.setTop (mkF m 31 #[.val (.int p0)] [(.int p0)]))
          refine gs (fun t k => XS.bipush X0.here hx rfl (hb hby d2_31) k) ?_
          show G (s₁.setTop (mkF m 33 #[.val (.int p0)] [(.int (25 : Int32)), (.int p0)]))
          by_cases hc33 : p0 = (25 : Int32)
          · refine gs (fun t k => XS.icmpYes X0.here hx rfl (pc0 := 33) (pc' := 42) rfl (hb hby d2_33) rfl (teq hc33).1 (by decide) (by decide) k) ?_
            show G (s₁.setTop (mkF m 42 #[.val (.int p0)] []))
            obtain ⟨T5, X5, e5, st5⟩ := getS2 X0 hx hZ hown (host := "") (Or.inl (hw _ (List.mem_of_getElem? (i := 21) rfl))) Via.refl e0 S2 (g := (mkF m 42 #[.val (.int p0)] [])) rfl (hb hby d2_42)
            refine gs (fun t k => st5 _ k) ?_
            show G (T5.setTop (mkF m 45 #[.val (.int p0)] [(.ref r2)]))
            obtain ⟨fs, hr, hrun, hended, hW, hsame⟩ := X5.leave (v := some (.ref r2)) (fun h => by rw [Bd.returns] at h; cases h)
            refine gl _ ⟨_, _, retOut X5 hx Bd.returns rfl (Or.inr (Or.inr (Or.inr (Or.inr ⟨rfl, rfl, rfl⟩)))) (hb hby d2_45) hr, hrun, hended, _, _, rfl, ?_, ⟨_, rfl⟩, hW, hsame.mono (by decide) (by decide)⟩
            show Q2 p0 r0 r1 r2 r3 r4 h0 n0 _ T5.heap _
            rw [e5]
            exact ⟨congrArg (fun z => some (Value.ref z)) (by simp +decide [own_to, hc1, hc11, hc17, hc23, hc33]), N0, rfl⟩
          · refine gs (fun t k => XS.icmpNo X0.here hx rfl (hb hby d2_33) rfl (feq hc33).1 k) ?_
            show G (s₁.setTop (mkF m 36 #[.val (.int p0)] []))
            refine gs (fun t k => XS.iloadN X0.here hx rfl (hb hby d2_36) rfl k) ?_
            show G (s₁.setTop (mkF m 37 #[.val (.int p0)] [(.int p0)]))
            refine gs (fun t k => XS.bipush X0.here hx rfl (hb hby d2_37) k) ?_
            show G (s₁.setTop (mkF m 39 #[.val (.int p0)] [(.int (110 : Int32)), (.int p0)]))
            by_cases hc39 : p0 = (110 : Int32)
            · refine gs (fun t k => XS.icmpNo X0.here hx rfl (hb hby d2_39) rfl (teq hc39).2 k) ?_
              show G (s₁.setTop (mkF m 42 #[.val (.int p0)] []))
              obtain ⟨T6, X6, e6, st6⟩ := getS2 X0 hx hZ hown (host := "") (Or.inl (hw _ (List.mem_of_getElem? (i := 21) rfl))) Via.refl e0 S2 (g := (mkF m 42 #[.val (.int p0)] [])) rfl (hb hby d2_42)
              refine gs (fun t k => st6 _ k) ?_
              show G (T6.setTop (mkF m 45 #[.val (.int p0)] [(.ref r2)]))
              obtain ⟨fs, hr, hrun, hended, hW, hsame⟩ := X6.leave (v := some (.ref r2)) (fun h => by rw [Bd.returns] at h; cases h)
              refine gl _ ⟨_, _, retOut X6 hx Bd.returns rfl (Or.inr (Or.inr (Or.inr (Or.inr ⟨rfl, rfl, rfl⟩)))) (hb hby d2_45) hr, hrun, hended, _, _, rfl, ?_, ⟨_, rfl⟩, hW, hsame.mono (by decide) (by decide)⟩
              show Q2 p0 r0 r1 r2 r3 r4 h0 n0 _ T6.heap _
              rw [e6]
              exact ⟨congrArg (fun z => some (Value.ref z)) (by simp +decide [own_to, hc1, hc11, hc17, hc23, hc33, hc39]), N0, rfl⟩
            · refine gs (fun t k => XS.icmpYes X0.here hx rfl (pc0 := 39) (pc' := 46) rfl (hb hby d2_39) rfl (feq hc39).2 (by decide) (by decide) k) ?_
              show G (s₁.setTop (mkF m 46 #[.val (.int p0)] []))
              refine gs (fun t k => XS.iloadN X0.here hx rfl (hb hby d2_46) rfl k) ?_
              show G (s₁.setTop (mkF m 47 #[.val (.int p0)] [(.int p0)]))
              refine gs (fun t k => XS.bipush X0.here hx rfl (hb hby d2_47) k) ?_
              show G (s₁.setTop (mkF m 49 #[.val (.int p0)] [(.int (111 : Int32)), (.int p0)]))
              by_cases hc49 : p0 = (111 : Int32)
              · refine gs (fun t k => XS.icmpNo X0.here hx rfl (hb hby d2_49) rfl (teq hc49).2 k) ?_
                show G (s₁.setTop (mkF m 52 #[.val (.int p0)] []))
                obtain ⟨T7, X7, e7, st7⟩ := getS2 X0 hx hZ hown (host := "") (Or.inl (hw _ (List.mem_of_getElem? (i := 24) rfl))) Via.refl e0 S3 (g := (mkF m 52 #[.val (.int p0)] [])) rfl (hb hby d2_52)
                refine gs (fun t k => st7 _ k) ?_
                show G (T7.setTop (mkF m 55 #[.val (.int p0)] [(.ref r3)]))
                obtain ⟨fs, hr, hrun, hended, hW, hsame⟩ := X7.leave (v := some (.ref r3)) (fun h => by rw [Bd.returns] at h; cases h)
                refine gl _ ⟨_, _, retOut X7 hx Bd.returns rfl (Or.inr (Or.inr (Or.inr (Or.inr ⟨rfl, rfl, rfl⟩)))) (hb hby d2_55) hr, hrun, hended, _, _, rfl, ?_, ⟨_, rfl⟩, hW, hsame.mono (by decide) (by decide)⟩
                show Q2 p0 r0 r1 r2 r3 r4 h0 n0 _ T7.heap _
                rw [e7]
                exact ⟨congrArg (fun z => some (Value.ref z)) (by simp +decide [own_to, hc1, hc11, hc17, hc23, hc33, hc39, hc49]), N0, rfl⟩
              · refine gs (fun t k => XS.icmpYes X0.here hx rfl (pc0 := 49) (pc' := 56) rfl (hb hby d2_49) rfl (feq hc49).2 (by decide) (by decide) k) ?_
                show G (s₁.setTop (mkF m 56 #[.val (.int p0)] []))
                obtain ⟨T8, X8, e8, st8⟩ := getS2 X0 hx hZ hown (host := "") (Or.inl (hw _ (List.mem_of_getElem? (i := 11) rfl))) Via.refl e0 S4 (g := (mkF m 56 #[.val (.int p0)] [])) rfl (hb hby d2_56)
                refine gs (fun t k => st8 _ k) ?_
                show G (T8.setTop (mkF m 59 #[.val (.int p0)] [(.ref r4)]))
                obtain ⟨fs, hr, hrun, hended, hW, hsame⟩ := X8.leave (v := some (.ref r4)) (fun h => by rw [Bd.returns] at h; cases h)
                refine gl _ ⟨_, _, retOut X8 hx Bd.returns rfl (Or.inr (Or.inr (Or.inr (Or.inr ⟨rfl, rfl, rfl⟩)))) (hb hby d2_59) hr, hrun, hended, _, _, rfl, ?_, ⟨_, rfl⟩, hW, hsame.mono (by decide) (by decide)⟩
                show Q2 p0 r0 r1 r2 r3 r4 h0 n0 _ T8.heap _
                rw [e8]
                exact ⟨congrArg (fun z => some (Value.ref z)) (by simp +decide [own_to, hc1, hc11, hc17, hc23, hc33, hc39, hc49]), N0, rfl⟩
theorem pd_0 : parseMethodDescriptor "(S)Lio/evenkeel/member/Reaction;" = some ⟨[.short], some (.object "io/evenkeel/member/Reaction")⟩ := by decide +kernel
theorem pd_1 : parseMethodDescriptor "(I)Lio/evenkeel/member/Reaction;" = some ⟨[.int], some (.object "io/evenkeel/member/Reaction")⟩ := by decide +kernel
theorem ef_0 (m : MethodId) (p0 : Int32) (p1 : Int32) : entryFrame m #[(.int p0), (.int p1)] maxLocals = mkF m 0 #[.val (.int p0), .val (.int p1), .unset, .unset, .unset] [] := by first | (simp [entryFrame, mkF, argsToLocals, Value.category, maxLocals]; done) | rfl
def Q0 (h0 : Heap) (n0 : Nat) (v : Option Value) (h : Heap) (L : List Loc) : Prop := v = some (.int 1) ∧ Fr n0 L
set_option maxRecDepth 65536 in
set_option maxHeartbeats 40000000 in
theorem rm0 (l : Launch) (Z : State) (a0 : Array Value) (hw : ∀ d ∈ tables_1, d.before a0 Z = true) (ws : List Jvm.Cond) (p0 : Int32) (p1 : Int32) (r0 r1 r2 r3 r4 : Addr) (h0 : Heap) (n0 : Nat) (Z0 : n0 ≤ h0.size) (S0 : Sta Z h0 "io/evenkeel/member/Reaction" "GO_ON" "Lio/evenkeel/member/Reaction;" (.ref r0)) (S1 : Sta Z h0 "io/evenkeel/member/Reaction" "JOIN_AGAIN" "Lio/evenkeel/member/Reaction;" (.ref r1)) (S2 : Sta Z h0 "io/evenkeel/member/Reaction" "JOIN_AS_NEW" "Lio/evenkeel/member/Reaction;" (.ref r2)) (S3 : Sta Z h0 "io/evenkeel/member/Reaction" "JOIN_LATER" "Lio/evenkeel/member/Reaction;" (.ref r3)) (S4 : Sta Z h0 "io/evenkeel/member/Reaction" "STOP" "Lio/evenkeel/member/Reaction;" (.ref r4)) :
    MetFree l x (head1 (Jvm.Cond.code x code maxLocals ret :: ws) room_1) (fun a U => a = #[(.int p0), (.int p1)] ∧ Z.Warmed39 U.vm ∧ U.heap = h0) (fun _ _ _ _ _ => True) (fun _ U o U' => ∃ v L, o = .returned v ∧ Q0 h0 n0 v U'.heap L ∧ FrameEnd U o U' L room_1.cells room_1.slots) := by
  refine MetFree.of_bodySF (plainFor_of_name pn_io_evenkeel_member_ReactionToPinLaw) hisR ?_
  intro p e s m args below meth c s₁ Bd hml0 hP hK
  obtain ⟨rfl, hZ, hh⟩ := hP
  have hx := Bd.exec
  have hby := Bd.bytes
  have hml : c.maxLocals = 5 := hml0
  have hown : s.vm.findClass "io/evenkeel/member/ReactionToPinLaw" = some m.cls := findClass_of_methodNamed Bd.named
  have hnm := (name_of_methodNamed Bd.named Bd.method).1
  have X0 : Stand p l e room_1 s m #[(.int p0), (.int p1)] below meth c s₁ [] 0 0 := Stand.of_body Bd
  have e0 : s₁.heap = h0 := by rw [← hh, Bd.state]; rfl
  have N0 := Fr.nil n0
  have pre0 : ∀ t, Steps p.tables e below (s₁.setTop (mkF m 0 #[.val (.int p0), .val (.int p1), .unset, .unset, .unset] [])) t → Steps p.tables e below (s₁.setTop (entryFrame m #[(.int p0), (.int p1)] maxLocals)) t := fun t k => castTop (ef_0 m p0 p1) k
  have K0 := Keep.refl h0 []
  refine own_start pre0 fun G gs gl => ?_
  show G (s₁.setTop (mkF m 0 #[.val (.int p0), .val (.int p1), .unset, .unset, .unset] []))
  refine gs (fun t k => XS.bipush X0.here hx rfl (hb hby at_0) k) ?_
  show G (s₁.setTop (mkF m 2 #[.val (.int p0), .val (.int p1), .unset, .unset, .unset] [(.int (20 : Int32))]))
  obtain ⟨T1, h1, k1, X1, e1, E1, A1, st1⟩ := newP X0 hx hZ (hw _ (List.mem_of_getElem? (i := 0) rfl)) e0 (g := (mkF m 2 #[.val (.int p0), .val (.int p1), .unset, .unset, .unset] [(.int (20 : Int32))])) rfl (hb hby at_2) rfl (by decide) (cap := 20) (by decide) (by decide) (by decide) (by decide)
  obtain ⟨b1, g1⟩ : ∃ z, z = h0.size := ⟨_, rfl⟩
  rw [← g1] at A1 st1
  have sz_b1 : h0.size ≤ b1 := Nat.le_trans K0.1 (Nat.le_of_eq g1.symm)
  have g_b1 : n0 ≤ b1 := Nat.le_trans Z0 sz_b1
  have S0_q2 := S0.ext E1
  have S1_q3 := S1.ext E1
  have S2_q4 := S2.ext E1
  have S3_q5 := S3.ext E1
  have S4_q6 := S4.ext E1
  have K7 := K0.ext E1
  have V_b1 : Arv Z h1 b1 k1 .short (20 : Int32) [(.int (0 : Int32)), (.int (0 : Int32)), (.int (0 : Int32)), (.int (0 : Int32)), (.int (0 : Int32)), (.int (0 : Int32)), (.int (0 : Int32)), (.int (0 : Int32)), (.int (0 : Int32)), (.int (0 : Int32)), (.int (0 : Int32)), (.int (0 : Int32)), (.int (0 : Int32)), (.int (0 : Int32)), (.int (0 : Int32)), (.int (0 : Int32)), (.int (0 : Int32)), (.int (0 : Int32)), (.int (0 : Int32)), (.int (0 : Int32))] (.int (0 : Int32)) := (Arv.new A1 (by decide)).pad (pad_rep [] (.int (0 : Int32)) 20)
  obtain ⟨vl1, hl1, V_b1a⟩ : ∃ vs, vs.length = 20 ∧ Arv Z h1 b1 k1 .short (20 : Int32) vs (.int (0 : Int32)) := ⟨_, rfl, V_b1⟩
  refine gs (fun t k => st1 _ k) ?_
  show G (T1.setTop (mkF m 4 #[.val (.int p0), .val (.int p1), .unset, .unset, .unset] [(.ref b1)]))
  refine gs (fun t k => XS.dup X1.here hx rfl (hb hby at_4) rfl rfl k) ?_
  show G (T1.setTop (mkF m 5 #[.val (.int p0), .val (.int p1), .unset, .unset, .unset] [(.ref b1), (.ref b1)]))
  refine gs (fun t k => XS.iconst X1.here hx rfl (hb hby at_5) k) ?_
  show G (T1.setTop (mkF m 6 #[.val (.int p0), .val (.int p1), .unset, .unset, .unset] [(.int (0 : Int32)), (.ref b1), (.ref b1)]))
  refine gs (fun t k => XS.iconst X1.here hx rfl (hb hby at_6) k) ?_
  show G (T1.setTop (mkF m 7 #[.val (.int p0), .val (.int p1), .unset, .unset, .unset] [(.int (0 : Int32)), (.int (0 : Int32)), (.ref b1), (.ref b1)]))
  obtain ⟨vc8, vA8, vq8, vS8, vN8, vH8, vG8⟩ := V_b1a
  have hin8 : ¬ ((0 : Int32) < 0 ∨ vc8.slots.size ≤ ((0 : Int32)).toNatClampNeg) := inb_of vS8 ⟨by decide, by decide⟩
  obtain ⟨T8, h8, X8, e8, W8, st8⟩ := stS X1 hx hZ e1 vA8 (j := (0 : Int32)) hin8 (g := (mkF m 7 #[.val (.int p0), .val (.int p1), .unset, .unset, .unset] [(.int (0 : Int32)), (.int (0 : Int32)), (.ref b1), (.ref b1)])) rfl rfl (hb hby at_7)
  have S0_q9 := S0_q2.wr W8
  have S1_q10 := S1_q3.wr W8
  have S2_q11 := S2_q4.wr W8
  have S3_q12 := S3_q5.wr W8
  have S4_q13 := S4_q6.wr W8
  have K14 := K7.wr W8 (Or.inr sz_b1)
  obtain ⟨vl8, hl8, V_b1_q8⟩ := own_arvset vA8 vq8 vS8 vN8 vH8 vG8 (fits_nar_short _) W8 0 rfl hl1 (by decide)
  have N8 := Fr.snoc X8 N0 g_b1
  refine gs (fun t k => st8 _ k) ?_
  show G (T8.setTop (mkF m 8 #[.val (.int p0), .val (.int p1), .unset, .unset, .unset] [(.ref b1)]))
  refine gs (fun t k => XS.dup X8.here hx rfl (hb hby at_8) rfl rfl k) ?_
  show G (T8.setTop (mkF m 9 #[.val (.int p0), .val (.int p1), .unset, .unset, .unset] [(.ref b1), (.ref b1)]))
  refine gs (fun t k => XS.iconst X8.here hx rfl (hb hby at_9) k) ?_
  show G (T8.setTop (mkF m 10 #[.val (.int p0), .val (.int p1), .unset, .unset, .unset] [(.int (1 : Int32)), (.ref b1), (.ref b1)]))
  refine gs (fun t k => XS.bipush X8.here hx rfl (hb hby at_10) k) ?_
  show G (T8.setTop (mkF m 12 #[.val (.int p0), .val (.int p1), .unset, .unset, .unset] [(.int (79 : Int32)), (.int (1 : Int32)), (.ref b1), (.ref b1)]))
  obtain ⟨vc15, vA15, vq15, vS15, vN15, vH15, vG15⟩ := V_b1_q8
  have hin15 : ¬ ((1 : Int32) < 0 ∨ vc15.slots.size ≤ ((1 : Int32)).toNatClampNeg) := inb_of vS15 ⟨by decide, by decide⟩
  obtain ⟨T15, h15, X15, e15, W15, st15⟩ := stS X8 hx hZ e8 vA15 (j := (1 : Int32)) hin15 (g := (mkF m 12 #[.val (.int p0), .val (.int p1), .unset, .unset, .unset] [(.int (79 : Int32)), (.int (1 : Int32)), (.ref b1), (.ref b1)])) rfl rfl (hb hby at_12)
  have S0_q16 := S0_q9.wr W15
  have S1_q17 := S1_q10.wr W15
  have S2_q18 := S2_q11.wr W15
  have S3_q19 := S3_q12.wr W15
  have S4_q20 := S4_q13.wr W15
  have K21 := K14.wr W15 (Or.inr sz_b1)
  obtain ⟨vl15, hl15, V_b1_q15⟩ := own_arvset vA15 vq15 vS15 vN15 vH15 vG15 (fits_nar_short _) W15 1 rfl hl8 (by decide)
  have N15 := Fr.snoc X15 N8 g_b1
  refine gs (fun t k => st15 _ k) ?_
  show G (T15.setTop (mkF m 13 #[.val (.int p0), .val (.int p1), .unset, .unset, .unset] [(.ref b1)]))
  refine gs (fun t k => XS.dup X15.here hx rfl (hb hby at_13) rfl rfl k) ?_
  show G (T15.setTop (mkF m 14 #[.val (.int p0), .val (.int p1), .unset, .unset, .unset] [(.ref b1), (.ref b1)]))
  refine gs (fun t k => XS.iconst X15.here hx rfl (hb hby at_14) k) ?_
  show G (T15.setTop (mkF m 15 #[.val (.int p0), .val (.int p1), .unset, .unset, .unset] [(.int (2 : Int32)), (.ref b1), (.ref b1)]))
  refine gs (fun t k => XS.bipush X15.here hx rfl (hb hby at_15) k) ?_
  show G (T15.setTop (mkF m 17 #[.val (.int p0), .val (.int p1), .unset, .unset, .unset] [(.int (27 : Int32)), (.int (2 : Int32)), (.ref b1), (.ref b1)]))
  obtain ⟨vc22, vA22, vq22, vS22, vN22, vH22, vG22⟩ := V_b1_q15
  have hin22 : ¬ ((2 : Int32) < 0 ∨ vc22.slots.size ≤ ((2 : Int32)).toNatClampNeg) := inb_of vS22 ⟨by decide, by decide⟩
  obtain ⟨T22, h22, X22, e22, W22, st22⟩ := stS X15 hx hZ e15 vA22 (j := (2 : Int32)) hin22 (g := (mkF m 17 #[.val (.int p0), .val (.int p1), .unset, .unset, .unset] [(.int (27 : Int32)), (.int (2 : Int32)), (.ref b1), (.ref b1)])) rfl rfl (hb hby at_17)
  have S0_q23 := S0_q16.wr W22
  have S1_q24 := S1_q17.wr W22
  have S2_q25 := S2_q18.wr W22
  have S3_q26 := S3_q19.wr W22
  have S4_q27 := S4_q20.wr W22
  have K28 := K21.wr W22 (Or.inr sz_b1)
  obtain ⟨vl22, hl22, V_b1_q22⟩ := own_arvset vA22 vq22 vS22 vN22 vH22 vG22 (fits_nar_short _) W22 2 rfl hl15 (by decide)
  have N22 := Fr.snoc X22 N15 g_b1
  refine gs (fun t k => st22 _ k) ?_
  show G (T22.setTop (mkF m 18 #[.val (.int p0), .val (.int p1), .unset, .unset, .unset] [(.ref b1)]))
  refine gs (fun t k => XS.dup X22.here hx rfl (hb hby at_18) rfl rfl k) ?_
  show G (T22.setTop (mkF m 19 #[.val (.int p0), .val (.int p1), .unset, .unset, .unset] [(.ref b1), (.ref b1)]))
  refine gs (fun t k => XS.iconst X22.here hx rfl (hb hby at_19) k) ?_
  show G (T22.setTop (mkF m 20 #[.val (.int p0), .val (.int p1), .unset, .unset, .unset] [(.int (3 : Int32)), (.ref b1), (.ref b1)]))
  refine gs (fun t k => XS.bipush X22.here hx rfl (hb hby at_20) k) ?_
  show G (T22.setTop (mkF m 22 #[.val (.int p0), .val (.int p1), .unset, .unset, .unset] [(.int (22 : Int32)), (.int (3 : Int32)), (.ref b1), (.ref b1)]))
  obtain ⟨vc29, vA29, vq29, vS29, vN29, vH29, vG29⟩ := V_b1_q22
  have hin29 : ¬ ((3 : Int32) < 0 ∨ vc29.slots.size ≤ ((3 : Int32)).toNatClampNeg) := inb_of vS29 ⟨by decide, by decide⟩
  obtain ⟨T29, h29, X29, e29, W29, st29⟩ := stS X22 hx hZ e22 vA29 (j := (3 : Int32)) hin29 (g := (mkF m 22 #[.val (.int p0), .val (.int p1), .unset, .unset, .unset] [(.int (22 : Int32)), (.int (3 : Int32)), (.ref b1), (.ref b1)])) rfl rfl (hb hby at_22)
  have S0_q30 := S0_q23.wr W29
  have S1_q31 := S1_q24.wr W29
  have S2_q32 := S2_q25.wr W29
  have S3_q33 := S3_q26.wr W29
  have S4_q34 := S4_q27.wr W29
  have K35 := K28.wr W29 (Or.inr sz_b1)
  obtain ⟨vl29, hl29, V_b1_q29⟩ := own_arvset vA29 vq29 vS29 vN29 vH29 vG29 (fits_nar_short _) W29 3 rfl hl22 (by decide)
  have N29 := Fr.snoc X29 N22 g_b1
  refine gs (fun t k => st29 _ k) ?_
  show G (T29.setTop (mkF m 23 #[.val (.int p0), .val (.int p1), .unset, .unset, .unset] [(.ref b1)]))
  refine gs (fun t k => XS.dup X29.here hx rfl (hb hby at_23) rfl rfl k) ?_
  show G (T29.setTop (mkF m 24 #[.val (.int p0), .val (.int p1), .unset, .unset, .unset] [(.ref b1), (.ref b1)]))
  refine gs (fun t k => XS.iconst X29.here hx rfl (hb hby at_24) k) ?_
  show G (T29.setTop (mkF m 25 #[.val (.int p0), .val (.int p1), .unset, .unset, .unset] [(.int (4 : Int32)), (.ref b1), (.ref b1)]))
  refine gs (fun t k => XS.bipush X29.here hx rfl (hb hby at_25) k) ?_
  show G (T29.setTop (mkF m 27 #[.val (.int p0), .val (.int p1), .unset, .unset, .unset] [(.int (25 : Int32)), (.int (4 : Int32)), (.ref b1), (.ref b1)]))
  obtain ⟨vc36, vA36, vq36, vS36, vN36, vH36, vG36⟩ := V_b1_q29
  have hin36 : ¬ ((4 : Int32) < 0 ∨ vc36.slots.size ≤ ((4 : Int32)).toNatClampNeg) := inb_of vS36 ⟨by decide, by decide⟩
  obtain ⟨T36, h36, X36, e36, W36, st36⟩ := stS X29 hx hZ e29 vA36 (j := (4 : Int32)) hin36 (g := (mkF m 27 #[.val (.int p0), .val (.int p1), .unset, .unset, .unset] [(.int (25 : Int32)), (.int (4 : Int32)), (.ref b1), (.ref b1)])) rfl rfl (hb hby at_27)
  have S0_q37 := S0_q30.wr W36
  have S1_q38 := S1_q31.wr W36
  have S2_q39 := S2_q32.wr W36
  have S3_q40 := S3_q33.wr W36
  have S4_q41 := S4_q34.wr W36
  have K42 := K35.wr W36 (Or.inr sz_b1)
  obtain ⟨vl36, hl36, V_b1_q36⟩ := own_arvset vA36 vq36 vS36 vN36 vH36 vG36 (fits_nar_short _) W36 4 rfl hl29 (by decide)
  have N36 := Fr.snoc X36 N29 g_b1
  refine gs (fun t k => st36 _ k) ?_
  show G (T36.setTop (mkF m 28 #[.val (.int p0), .val (.int p1), .unset, .unset, .unset] [(.ref b1)]))
  refine gs (fun t k => XS.dup X36.here hx rfl (hb hby at_28) rfl rfl k) ?_
  show G (T36.setTop (mkF m 29 #[.val (.int p0), .val (.int p1), .unset, .unset, .unset] [(.ref b1), (.ref b1)]))
  refine gs (fun t k => XS.iconst X36.here hx rfl (hb hby at_29) k) ?_
  show G (T36.setTop (mkF m 30 #[.val (.int p0), .val (.int p1), .unset, .unset, .unset] [(.int (5 : Int32)), (.ref b1), (.ref b1)]))
  refine gs (fun t k => XS.bipush X36.here hx rfl (hb hby at_30) k) ?_
  show G (T36.setTop (mkF m 32 #[.val (.int p0), .val (.int p1), .unset, .unset, .unset] [(.int (110 : Int32)), (.int (5 : Int32)), (.ref b1), (.ref b1)]))
  obtain ⟨vc43, vA43, vq43, vS43, vN43, vH43, vG43⟩ := V_b1_q36
  have hin43 : ¬ ((5 : Int32) < 0 ∨ vc43.slots.size ≤ ((5 : Int32)).toNatClampNeg) := inb_of vS43 ⟨by decide, by decide⟩
  obtain ⟨T43, h43, X43, e43, W43, st43⟩ := stS X36 hx hZ e36 vA43 (j := (5 : Int32)) hin43 (g := (mkF m 32 #[.val (.int p0), .val (.int p1), .unset, .unset, .unset] [(.int (110 : Int32)), (.int (5 : Int32)), (.ref b1), (.ref b1)])) rfl rfl (hb hby at_32)
  have S0_q44 := S0_q37.wr W43
  have S1_q45 := S1_q38.wr W43
  have S2_q46 := S2_q39.wr W43
  have S3_q47 := S3_q40.wr W43
  have S4_q48 := S4_q41.wr W43
  have K49 := K42.wr W43 (Or.inr sz_b1)
  obtain ⟨vl43, hl43, V_b1_q43⟩ := own_arvset vA43 vq43 vS43 vN43 vH43 vG43 (fits_nar_short _) W43 5 rfl hl36 (by decide)
  have N43 := Fr.snoc X43 N36 g_b1
  refine gs (fun t k => st43 _ k) ?_
  show G (T43.setTop (mkF m 33 #[.val (.int p0), .val (.int p1), .unset, .unset, .unset] [(.ref b1)]))
  refine gs (fun t k => XS.dup X43.here hx rfl (hb hby at_33) rfl rfl k) ?_
  show G (T43.setTop (mkF m 34 #[.val (.int p0), .val (.int p1), .unset, .unset, .unset] [(.ref b1), (.ref b1)]))
  refine gs (fun t k => XS.bipush X43.here hx rfl (hb hby at_34) k) ?_
  show G (T43.setTop (mkF m 36 #[.val (.int p0), .val (.int p1), .unset, .unset, .unset] [(.int (6 : Int32)), (.ref b1), (.ref b1)]))
  refine gs (fun t k => XS.bipush X43.here hx rfl (hb hby at_36) k) ?_
  show G (T43.setTop (mkF m 38 #[.val (.int p0), .val (.int p1), .unset, .unset, .unset] [(.int (111 : Int32)), (.int (6 : Int32)), (.ref b1), (.ref b1)]))
  obtain ⟨vc50, vA50, vq50, vS50, vN50, vH50, vG50⟩ := V_b1_q43
  have hin50 : ¬ ((6 : Int32) < 0 ∨ vc50.slots.size ≤ ((6 : Int32)).toNatClampNeg) := inb_of vS50 ⟨by decide, by decide⟩
  obtain ⟨T50, h50, X50, e50, W50, st50⟩ := stS X43 hx hZ e43 vA50 (j := (6 : Int32)) hin50 (g := (mkF m 38 #[.val (.int p0), .val (.int p1), .unset, .unset, .unset] [(.int (111 : Int32)), (.int (6 : Int32)), (.ref b1), (.ref b1)])) rfl rfl (hb hby at_38)
  have S0_q51 := S0_q44.wr W50
  have S1_q52 := S1_q45.wr W50
  have S2_q53 := S2_q46.wr W50
  have S3_q54 := S3_q47.wr W50
  have S4_q55 := S4_q48.wr W50
  have K56 := K49.wr W50 (Or.inr sz_b1)
  obtain ⟨vl50, hl50, V_b1_q50⟩ := own_arvset vA50 vq50 vS50 vN50 vH50 vG50 (fits_nar_short _) W50 6 rfl hl43 (by decide)
  have N50 := Fr.snoc X50 N43 g_b1
  refine gs (fun t k => st50 _ k) ?_
  show G (T50.setTop (mkF m 39 #[.val (.int p0), .val (.int p1), .unset, .unset, .unset] [(.ref b1)]))
  refine gs (fun t k => XS.dup X50.here hx rfl (hb hby at_39) rfl rfl k) ?_
  show G (T50.setTop (mkF m 40 #[.val (.int p0), .val (.int p1), .unset, .unset, .unset] [(.ref b1), (.ref b1)]))
  refine gs (fun t k => XS.bipush X50.here hx rfl (hb hby at_40) k) ?_
  show G (T50.setTop (mkF m 42 #[.val (.int p0), .val (.int p1), .unset, .unset, .unset] [(.int (7 : Int32)), (.ref b1), (.ref b1)]))
  refine gs (fun t k => XS.bipush X50.here hx rfl (hb hby at_42) k) ?_
  show G (T50.setTop (mkF m 44 #[.val (.int p0), .val (.int p1), .unset, .unset, .unset] [(.int (82 : Int32)), (.int (7 : Int32)), (.ref b1), (.ref b1)]))
  obtain ⟨vc57, vA57, vq57, vS57, vN57, vH57, vG57⟩ := V_b1_q50
  have hin57 : ¬ ((7 : Int32) < 0 ∨ vc57.slots.size ≤ ((7 : Int32)).toNatClampNeg) := inb_of vS57 ⟨by decide, by decide⟩
  obtain ⟨T57, h57, X57, e57, W57, st57⟩ := stS X50 hx hZ e50 vA57 (j := (7 : Int32)) hin57 (g := (mkF m 44 #[.val (.int p0), .val (.int p1), .unset, .unset, .unset] [(.int (82 : Int32)), (.int (7 : Int32)), (.ref b1), (.ref b1)])) rfl rfl (hb hby at_44)
  have S0_q58 := S0_q51.wr W57
  have S1_q59 := S1_q52.wr W57
  have S2_q60 := S2_q53.wr W57
  have S3_q61 := S3_q54.wr W57
  have S4_q62 := S4_q55.wr W57
  have K63 := K56.wr W57 (Or.inr sz_b1)
  obtain ⟨vl57, hl57, V_b1_q57⟩ := own_arvset vA57 vq57 vS57 vN57 vH57 vG57 (fits_nar_short _) W57 7 rfl hl50 (by decide)
  have N57 := Fr.snoc X57 N50 g_b1
  refine gs (fun t k => st57 _ k) ?_
  show G (T57.setTop (mkF m 45 #[.val (.int p0), .val (.int p1), .unset, .unset, .unset] [(.ref b1)]))
  refine gs (fun t k => XS.dup X57.here hx rfl (hb hby at_45) rfl rfl k) ?_
  show G (T57.setTop (mkF m 46 #[.val (.int p0), .val (.int p1), .unset, .unset, .unset] [(.ref b1), (.ref b1)]))
  refine gs (fun t k => XS.bipush X57.here hx rfl (hb hby at_46) k) ?_
  show G (T57.setTop (mkF m 48 #[.val (.int p0), .val (.int p1), .unset, .unset, .unset] [(.int (8 : Int32)), (.ref b1), (.ref b1)]))
  refine gs (fun t k => XS.bipush X57.here hx rfl (hb hby at_48) k) ?_
  show G (T57.setTop (mkF m 50 #[.val (.int p0), .val (.int p1), .unset, .unset, .unset] [(.int (81 : Int32)), (.int (8 : Int32)), (.ref b1), (.ref b1)]))
  obtain ⟨vc64, vA64, vq64, vS64, vN64, vH64, vG64⟩ := V_b1_q57
  have hin64 : ¬ ((8 : Int32) < 0 ∨ vc64.slots.size ≤ ((8 : Int32)).toNatClampNeg) := inb_of vS64 ⟨by decide, by decide⟩
  obtain ⟨T64, h64, X64, e64, W64, st64⟩ := stS X57 hx hZ e57 vA64 (j := (8 : Int32)) hin64 (g := (mkF m 50 #[.val (.int p0), .val (.int p1), .unset, .unset, .unset] [(.int (81 : Int32)), (.int (8 : Int32)), (.ref b1), (.ref b1)])) rfl rfl (hb hby at_50)
  have S0_q65 := S0_q58.wr W64
  have S1_q66 := S1_q59.wr W64
  have S2_q67 := S2_q60.wr W64
  have S3_q68 := S3_q61.wr W64
  have S4_q69 := S4_q62.wr W64
  have K70 := K63.wr W64 (Or.inr sz_b1)
  obtain ⟨vl64, hl64, V_b1_q64⟩ := own_arvset vA64 vq64 vS64 vN64 vH64 vG64 (fits_nar_short _) W64 8 rfl hl57 (by decide)
  have N64 := Fr.snoc X64 N57 g_b1
  refine gs (fun t k => st64 _ k) ?_
  show G (T64.setTop (mkF m 51 #[.val (.int p0), .val (.int p1), .unset, .unset, .unset] [(.ref b1)]))
  refine gs (fun t k => XS.dup X64.here hx rfl (hb hby at_51) rfl rfl k) ?_
  show G (T64.setTop (mkF m 52 #[.val (.int p0), .val (.int p1), .unset, .unset, .unset] [(.ref b1), (.ref b1)]))
  refine gs (fun t k => XS.bipush X64.here hx rfl (hb hby at_52) k) ?_
  show G (T64.setTop (mkF m 54 #[.val (.int p0), .val (.int p1), .unset, .unset, .unset] [(.int (9 : Int32)), (.ref b1), (.ref b1)]))
  refine gs (fun t k => XS.bipush X64.here hx rfl (hb hby at_54) k) ?_
  show G (T64.setTop (mkF m 56 #[.val (.int p0), .val (.int p1), .unset, .unset, .unset] [(.int (112 : Int32)), (.int (9 : Int32)), (.ref b1), (.ref b1)]))
  obtain ⟨vc71, vA71, vq71, vS71, vN71, vH71, vG71⟩ := V_b1_q64
  have hin71 : ¬ ((9 : Int32) < 0 ∨ vc71.slots.size ≤ ((9 : Int32)).toNatClampNeg) := inb_of vS71 ⟨by decide, by decide⟩
  obtain ⟨T71, h71, X71, e71, W71, st71⟩ := stS X64 hx hZ e64 vA71 (j := (9 : Int32)) hin71 (g := (mkF m 56 #[.val (.int p0), .val (.int p1), .unset, .unset, .unset] [(.int (112 : Int32)), (.int (9 : Int32)), (.ref b1), (.ref b1)])) rfl rfl (hb hby at_56)
  have S0_q72 := S0_q65.wr W71
  have S1_q73 := S1_q66.wr W71
  have S2_q74 := S2_q67.wr W71
  have S3_q75 := S3_q68.wr W71
  have S4_q76 := S4_q69.wr W71
  have K77 := K70.wr W71 (Or.inr sz_b1)
  obtain ⟨vl71, hl71, V_b1_q71⟩ := own_arvset vA71 vq71 vS71 vN71 vH71 vG71 (fits_nar_short _) W71 9 rfl hl64 (by decide)
  have N71 := Fr.snoc X71 N64 g_b1
  refine gs (fun t k => st71 _ k) ?_
  show G (T71.setTop (mkF m 57 #[.val (.int p0), .val (.int p1), .unset, .unset, .unset] [(.ref b1)]))
  refine gs (fun t k => XS.dup X71.here hx rfl (hb hby at_57) rfl rfl k) ?_
  show G (T71.setTop (mkF m 58 #[.val (.int p0), .val (.int p1), .unset, .unset, .unset] [(.ref b1), (.ref b1)]))
  refine gs (fun t k => XS.bipush X71.here hx rfl (hb hby at_58) k) ?_
  show G (T71.setTop (mkF m 60 #[.val (.int p0), .val (.int p1), .unset, .unset, .unset] [(.int (10 : Int32)), (.ref b1), (.ref b1)]))
  refine gs (fun t k => XS.iconst X71.here hx rfl (hb hby at_60) k) ?_
  show G (T71.setTop (mkF m 61 #[.val (.int p0), .val (.int p1), .unset, .unset, .unset] [(.int (-1 : Int32)), (.int (10 : Int32)), (.ref b1), (.ref b1)]))
  obtain ⟨vc78, vA78, vq78, vS78, vN78, vH78, vG78⟩ := V_b1_q71
  have hin78 : ¬ ((10 : Int32) < 0 ∨ vc78.slots.size ≤ ((10 : Int32)).toNatClampNeg) := inb_of vS78 ⟨by decide, by decide⟩
  obtain ⟨T78, h78, X78, e78, W78, st78⟩ := stS X71 hx hZ e71 vA78 (j := (10 : Int32)) hin78 (g := (mkF m 61 #[.val (.int p0), .val (.int p1), .unset, .unset, .unset] [(.int (-1 : Int32)), (.int (10 : Int32)), (.ref b1), (.ref b1)])) rfl rfl (hb hby at_61)
  have S0_q79 := S0_q72.wr W78
  have S1_q80 := S1_q73.wr W78
  have S2_q81 := S2_q74.wr W78
  have S3_q82 := S3_q75.wr W78
  have S4_q83 := S4_q76.wr W78
  have K84 := K77.wr W78 (Or.inr sz_b1)
  obtain ⟨vl78, hl78, V_b1_q78⟩ := own_arvset vA78 vq78 vS78 vN78 vH78 vG78 (fits_nar_short _) W78 10 rfl hl71 (by decide)
  have N78 := Fr.snoc X78 N71 g_b1
  refine gs (fun t k => st78 _ k) ?_
  show G (T78.setTop (mkF m 62 #[.val (.int p0), .val (.int p1), .unset, .unset, .unset] [(.ref b1)]))
  refine gs (fun t k => XS.dup X78.here hx rfl (hb hby at_62) rfl rfl k) ?_
  show G (T78.setTop (mkF m 63 #[.val (.int p0), .val (.int p1), .unset, .unset, .unset] [(.ref b1), (.ref b1)]))
  refine gs (fun t k => XS.bipush X78.here hx rfl (hb hby at_63) k) ?_
  show G (T78.setTop (mkF m 65 #[.val (.int p0), .val (.int p1), .unset, .unset, .unset] [(.int (11 : Int32)), (.ref b1), (.ref b1)]))
  refine gs (fun t k => XS.iconst X78.here hx rfl (hb hby at_65) k) ?_
  show G (T78.setTop (mkF m 66 #[.val (.int p0), .val (.int p1), .unset, .unset, .unset] [(.int (1 : Int32)), (.int (11 : Int32)), (.ref b1), (.ref b1)]))
  obtain ⟨vc85, vA85, vq85, vS85, vN85, vH85, vG85⟩ := V_b1_q78
  have hin85 : ¬ ((11 : Int32) < 0 ∨ vc85.slots.size ≤ ((11 : Int32)).toNatClampNeg) := inb_of vS85 ⟨by decide, by decide⟩
  obtain ⟨T85, h85, X85, e85, W85, st85⟩ := stS X78 hx hZ e78 vA85 (j := (11 : Int32)) hin85 (g := (mkF m 66 #[.val (.int p0), .val (.int p1), .unset, .unset, .unset] [(.int (1 : Int32)), (.int (11 : Int32)), (.ref b1), (.ref b1)])) rfl rfl (hb hby at_66)
  have S0_q86 := S0_q79.wr W85
  have S1_q87 := S1_q80.wr W85
  have S2_q88 := S2_q81.wr W85
  have S3_q89 := S3_q82.wr W85
  have S4_q90 := S4_q83.wr W85
  have K91 := K84.wr W85 (Or.inr sz_b1)
  obtain ⟨vl85, hl85, V_b1_q85⟩ := own_arvset vA85 vq85 vS85 vN85 vH85 vG85 (fits_nar_short _) W85 11 rfl hl78 (by decide)
  have N85 := Fr.snoc X85 N78 g_b1
  refine gs (fun t k => st85 _ k) ?_
  show G (T85.setTop (mkF m 67 #[.val (.int p0), .val (.int p1), .unset, .unset, .unset] [(.ref b1)]))
  refine gs (fun t k => XS.dup X85.here hx rfl (hb hby at_67) rfl rfl k) ?_
  show G (T85.setTop (mkF m 68 #[.val (.int p0), .val (.int p1), .unset, .unset, .unset] [(.ref b1), (.ref b1)]))
  refine gs (fun t k => XS.bipush X85.here hx rfl (hb hby at_68) k) ?_
  show G (T85.setTop (mkF m 70 #[.val (.int p0), .val (.int p1), .unset, .unset, .unset] [(.int (12 : Int32)), (.ref b1), (.ref b1)]))
  refine gs (fun t k => XS.bipush X85.here hx rfl (hb hby at_70) k) ?_
  show G (T85.setTop (mkF m 72 #[.val (.int p0), .val (.int p1), .unset, .unset, .unset] [(.int (21 : Int32)), (.int (12 : Int32)), (.ref b1), (.ref b1)]))
  obtain ⟨vc92, vA92, vq92, vS92, vN92, vH92, vG92⟩ := V_b1_q85
  have hin92 : ¬ ((12 : Int32) < 0 ∨ vc92.slots.size ≤ ((12 : Int32)).toNatClampNeg) := inb_of vS92 ⟨by decide, by decide⟩
  obtain ⟨T92, h92, X92, e92, W92, st92⟩ := stS X85 hx hZ e85 vA92 (j := (12 : Int32)) hin92 (g := (mkF m 72 #[.val (.int p0), .val (.int p1), .unset, .unset, .unset] [(.int (21 : Int32)), (.int (12 : Int32)), (.ref b1), (.ref b1)])) rfl rfl (hb hby at_72)
  have S0_q93 := S0_q86.wr W92
  have S1_q94 := S1_q87.wr W92
  have S2_q95 := S2_q88.wr W92
  have S3_q96 := S3_q89.wr W92
  have S4_q97 := S4_q90.wr W92
  have K98 := K91.wr W92 (Or.inr sz_b1)
  obtain ⟨vl92, hl92, V_b1_q92⟩ := own_arvset vA92 vq92 vS92 vN92 vH92 vG92 (fits_nar_short _) W92 12 rfl hl85 (by decide)
  have N92 := Fr.snoc X92 N85 g_b1
  refine gs (fun t k => st92 _ k) ?_
  show G (T92.setTop (mkF m 73 #[.val (.int p0), .val (.int p1), .unset, .unset, .unset] [(.ref b1)]))
  refine gs (fun t k => XS.dup X92.here hx rfl (hb hby at_73) rfl rfl k) ?_
  show G (T92.setTop (mkF m 74 #[.val (.int p0), .val (.int p1), .unset, .unset, .unset] [(.ref b1), (.ref b1)]))
  refine gs (fun t k => XS.bipush X92.here hx rfl (hb hby at_74) k) ?_
  show G (T92.setTop (mkF m 76 #[.val (.int p0), .val (.int p1), .unset, .unset, .unset] [(.int (13 : Int32)), (.ref b1), (.ref b1)]))
  refine gs (fun t k => XS.bipush X92.here hx rfl (hb hby at_76) k) ?_
  show G (T92.setTop (mkF m 78 #[.val (.int p0), .val (.int p1), .unset, .unset, .unset] [(.int (23 : Int32)), (.int (13 : Int32)), (.ref b1), (.ref b1)]))
  obtain ⟨vc99, vA99, vq99, vS99, vN99, vH99, vG99⟩ := V_b1_q92
  have hin99 : ¬ ((13 : Int32) < 0 ∨ vc99.slots.size ≤ ((13 : Int32)).toNatClampNeg) := inb_of vS99 ⟨by decide, by decide⟩
  obtain ⟨T99, h99, X99, e99, W99, st99⟩ := stS X92 hx hZ e92 vA99 (j := (13 : Int32)) hin99 (g := (mkF m 78 #[.val (.int p0), .val (.int p1), .unset, .unset, .unset] [(.int (23 : Int32)), (.int (13 : Int32)), (.ref b1), (.ref b1)])) rfl rfl (hb hby at_78)
  have S0_q100 := S0_q93.wr W99
  have S1_q101 := S1_q94.wr W99
  have S2_q102 := S2_q95.wr W99
  have S3_q103 := S3_q96.wr W99
  have S4_q104 := S4_q97.wr W99
  have K105 := K98.wr W99 (Or.inr sz_b1)
  obtain ⟨vl99, hl99, V_b1_q99⟩ := own_arvset vA99 vq99 vS99 vN99 vH99 vG99 (fits_nar_short _) W99 13 rfl hl92 (by decide)
  have N99 := Fr.snoc X99 N92 g_b1
  refine gs (fun t k => st99 _ k) ?_
  show G (T99.setTop (mkF m 79 #[.val (.int p0), .val (.int p1), .unset, .unset, .unset] [(.ref b1)]))
  refine gs (fun t k => XS.dup X99.here hx rfl (hb hby at_79) rfl rfl k) ?_
  show G (T99.setTop (mkF m 80 #[.val (.int p0), .val (.int p1), .unset, .unset, .unset] [(.ref b1), (.ref b1)]))
  refine gs (fun t k => XS.bipush X99.here hx rfl (hb hby at_80) k) ?_
  show G (T99.setTop (mkF m 82 #[.val (.int p0), .val (.int p1), .unset, .unset, .unset] [(.int (14 : Int32)), (.ref b1), (.ref b1)]))
  refine gs (fun t k => XS.bipush X99.here hx rfl (hb hby at_82) k) ?_
  show G (T99.setTop (mkF m 84 #[.val (.int p0), .val (.int p1), .unset, .unset, .unset] [(.int (26 : Int32)), (.int (14 : Int32)), (.ref b1), (.ref b1)]))
  obtain ⟨vc106, vA106, vq106, vS106, vN106, vH106, vG106⟩ := V_b1_q99
  have hin106 : ¬ ((14 : Int32) < 0 ∨ vc106.slots.size ≤ ((14 : Int32)).toNatClampNeg) := inb_of vS106 ⟨by decide, by decide⟩
  obtain ⟨T106, h106, X106, e106, W106, st106⟩ := stS X99 hx hZ e99 vA106 (j := (14 : Int32)) hin106 (g := (mkF m 84 #[.val (.int p0), .val (.int p1), .unset, .unset, .unset] [(.int (26 : Int32)), (.int (14 : Int32)), (.ref b1), (.ref b1)])) rfl rfl (hb hby at_84)
  have S0_q107 := S0_q100.wr W106
  have S1_q108 := S1_q101.wr W106
  have S2_q109 := S2_q102.wr W106
  have S3_q110 := S3_q103.wr W106
  have S4_q111 := S4_q104.wr W106
  have K112 := K105.wr W106 (Or.inr sz_b1)
  obtain ⟨vl106, hl106, V_b1_q106⟩ := own_arvset vA106 vq106 vS106 vN106 vH106 vG106 (fits_nar_short _) W106 14 rfl hl99 (by decide)
  have N106 := Fr.snoc X106 N99 g_b1
  refine gs (fun t k => st106 _ k) ?_
  show G (T106.setTop (mkF m 85 #[.val (.int p0), .val (.int p1), .unset, .unset, .unset] [(.ref b1)]))
  refine gs (fun t k => XS.dup X106.here hx rfl (hb hby at_85) rfl rfl k) ?_
  show G (T106.setTop (mkF m 86 #[.val (.int p0), .val (.int p1), .unset, .unset, .unset] [(.ref b1), (.ref b1)]))
  refine gs (fun t k => XS.bipush X106.here hx rfl (hb hby at_86) k) ?_
  show G (T106.setTop (mkF m 88 #[.val (.int p0), .val (.int p1), .unset, .unset, .unset] [(.int (15 : Int32)), (.ref b1), (.ref b1)]))
  refine gs (fun t k => XS.bipush X106.here hx rfl (hb hby at_88) k) ?_
  show G (T106.setTop (mkF m 90 #[.val (.int p0), .val (.int p1), .unset, .unset, .unset] [(.int (28 : Int32)), (.int (15 : Int32)), (.ref b1), (.ref b1)]))
  obtain ⟨vc113, vA113, vq113, vS113, vN113, vH113, vG113⟩ := V_b1_q106
  have hin113 : ¬ ((15 : Int32) < 0 ∨ vc113.slots.size ≤ ((15 : Int32)).toNatClampNeg) := inb_of vS113 ⟨by decide, by decide⟩
  obtain ⟨T113, h113, X113, e113, W113, st113⟩ := stS X106 hx hZ e106 vA113 (j := (15 : Int32)) hin113 (g := (mkF m 90 #[.val (.int p0), .val (.int p1), .unset, .unset, .unset] [(.int (28 : Int32)), (.int (15 : Int32)), (.ref b1), (.ref b1)])) rfl rfl (hb hby at_90)
  have S0_q114 := S0_q107.wr W113
  have S1_q115 := S1_q108.wr W113
  have S2_q116 := S2_q109.wr W113
  have S3_q117 := S3_q110.wr W113
  have S4_q118 := S4_q111.wr W113
  have K119 := K112.wr W113 (Or.inr sz_b1)
  obtain ⟨vl113, hl113, V_b1_q113⟩ := own_arvset vA113 vq113 vS113 vN113 vH113 vG113 (fits_nar_short _) W113 15 rfl hl106 (by decide)
  have N113 := Fr.snoc X113 N106 g_b1
  refine gs (fun t k => st113 _ k) ?_
  show G (T113.setTop (mkF m 91 #[.val (.int p0), .val (.int p1), .unset, .unset, .unset] [(.ref b1)]))
  refine gs (fun t k => XS.dup X113.here hx rfl (hb hby at_91) rfl rfl k) ?_
  show G (T113.setTop (mkF m 92 #[.val (.int p0), .val (.int p1), .unset, .unset, .unset] [(.ref b1), (.ref b1)]))
  refine gs (fun t k => XS.bipush X113.here hx rfl (hb hby at_92) k) ?_
  show G (T113.setTop (mkF m 94 #[.val (.int p0), .val (.int p1), .unset, .unset, .unset] [(.int (16 : Int32)), (.ref b1), (.ref b1)]))
  refine gs (fun t k => XS.bipush X113.here hx rfl (hb hby at_94) k) ?_
  show G (T113.setTop (mkF m 96 #[.val (.int p0), .val (.int p1), .unset, .unset, .unset] [(.int (78 : Int32)), (.int (16 : Int32)), (.ref b1), (.ref b1)]))
  obtain ⟨vc120, vA120, vq120, vS120, vN120, vH120, vG120⟩ := V_b1_q113
  have hin120 : ¬ ((16 : Int32) < 0 ∨ vc120.slots.size ≤ ((16 : Int32)).toNatClampNeg) := inb_of vS120 ⟨by decide, by decide⟩
  obtain ⟨T120, h120, X120, e120, W120, st120⟩ := stS X113 hx hZ e113 vA120 (j := (16 : Int32)) hin120 (g := (mkF m 96 #[.val (.int p0), .val (.int p1), .unset, .unset, .unset] [(.int (78 : Int32)), (.int (16 : Int32)), (.ref b1), (.ref b1)])) rfl rfl (hb hby at_96)
  have S0_q121 := S0_q114.wr W120
  have S1_q122 := S1_q115.wr W120
  have S2_q123 := S2_q116.wr W120
  have S3_q124 := S3_q117.wr W120
  have S4_q125 := S4_q118.wr W120
  have K126 := K119.wr W120 (Or.inr sz_b1)
  obtain ⟨vl120, hl120, V_b1_q120⟩ := own_arvset vA120 vq120 vS120 vN120 vH120 vG120 (fits_nar_short _) W120 16 rfl hl113 (by decide)
  have N120 := Fr.snoc X120 N113 g_b1
  refine gs (fun t k => st120 _ k) ?_
  show G (T120.setTop (mkF m 97 #[.val (.int p0), .val (.int p1), .unset, .unset, .unset] [(.ref b1)]))
  refine gs (fun t k => XS.dup X120.here hx rfl (hb hby at_97) rfl rfl k) ?_
  show G (T120.setTop (mkF m 98 #[.val (.int p0), .val (.int p1), .unset, .unset, .unset] [(.ref b1), (.ref b1)]))
  refine gs (fun t k => XS.bipush X120.here hx rfl (hb hby at_98) k) ?_
  show G (T120.setTop (mkF m 100 #[.val (.int p0), .val (.int p1), .unset, .unset, .unset] [(.int (17 : Int32)), (.ref b1), (.ref b1)]))
  refine gs (fun t k => XS.bipush X120.here hx rfl (hb hby at_100) k) ?_
  show G (T120.setTop (mkF m 102 #[.val (.int p0), .val (.int p1), .unset, .unset, .unset] [(.int (80 : Int32)), (.int (17 : Int32)), (.ref b1), (.ref b1)]))
  obtain ⟨vc127, vA127, vq127, vS127, vN127, vH127, vG127⟩ := V_b1_q120
  have hin127 : ¬ ((17 : Int32) < 0 ∨ vc127.slots.size ≤ ((17 : Int32)).toNatClampNeg) := inb_of vS127 ⟨by decide, by decide⟩
  obtain ⟨T127, h127, X127, e127, W127, st127⟩ := stS X120 hx hZ e120 vA127 (j := (17 : Int32)) hin127 (g := (mkF m 102 #[.val (.int p0), .val (.int p1), .unset, .unset, .unset] [(.int (80 : Int32)), (.int (17 : Int32)), (.ref b1), (.ref b1)])) rfl rfl (hb hby at_102)
  have S0_q128 := S0_q121.wr W127
  have S1_q129 := S1_q122.wr W127
  have S2_q130 := S2_q123.wr W127
  have S3_q131 := S3_q124.wr W127
  have S4_q132 := S4_q125.wr W127
  have K133 := K126.wr W127 (Or.inr sz_b1)
  obtain ⟨vl127, hl127, V_b1_q127⟩ := own_arvset vA127 vq127 vS127 vN127 vH127 vG127 (fits_nar_short _) W127 17 rfl hl120 (by decide)
  have N127 := Fr.snoc X127 N120 g_b1
  refine gs (fun t k => st127 _ k) ?_
  show G (T127.setTop (mkF m 103 #[.val (.int p0), .val (.int p1), .unset, .unset, .unset] [(.ref b1)]))
  refine gs (fun t k => XS.dup X127.here hx rfl (hb hby at_103) rfl rfl k) ?_
  show G (T127.setTop (mkF m 104 #[.val (.int p0), .val (.int p1), .unset, .unset, .unset] [(.ref b1), (.ref b1)]))
  refine gs (fun t k => XS.bipush X127.here hx rfl (hb hby at_104) k) ?_
  show G (T127.setTop (mkF m 106 #[.val (.int p0), .val (.int p1), .unset, .unset, .unset] [(.int (18 : Int32)), (.ref b1), (.ref b1)]))
  refine gs (fun t k => XS.bipush X127.here hx rfl (hb hby at_106) k) ?_
  show G (T127.setTop (mkF m 108 #[.val (.int p0), .val (.int p1), .unset, .unset, .unset] [(.int (109 : Int32)), (.int (18 : Int32)), (.ref b1), (.ref b1)]))
  obtain ⟨vc134, vA134, vq134, vS134, vN134, vH134, vG134⟩ := V_b1_q127
  have hin134 : ¬ ((18 : Int32) < 0 ∨ vc134.slots.size ≤ ((18 : Int32)).toNatClampNeg) := inb_of vS134 ⟨by decide, by decide⟩
  obtain ⟨T134, h134, X134, e134, W134, st134⟩ := stS X127 hx hZ e127 vA134 (j := (18 : Int32)) hin134 (g := (mkF m 108 #[.val (.int p0), .val (.int p1), .unset, .unset, .unset] [(.int (109 : Int32)), (.int (18 : Int32)), (.ref b1), (.ref b1)])) rfl rfl (hb hby at_108)
  have S0_q135 := S0_q128.wr W134
  have S1_q136 := S1_q129.wr W134
  have S2_q137 := S2_q130.wr W134
  have S3_q138 := S3_q131.wr W134
  have S4_q139 := S4_q132.wr W134
  have K140 := K133.wr W134 (Or.inr sz_b1)
  obtain ⟨vl134, hl134, V_b1_q134⟩ := own_arvset vA134 vq134 vS134 vN134 vH134 vG134 (fits_nar_short _) W134 18 rfl hl127 (by decide)
  have N134 := Fr.snoc X134 N127 g_b1
  refine gs (fun t k => st134 _ k) ?_
  show G (T134.setTop (mkF m 109 #[.val (.int p0), .val (.int p1), .unset, .unset, .unset] [(.ref b1)]))
  refine gs (fun t k => XS.dup X134.here hx rfl (hb hby at_109) rfl rfl k) ?_
  show G (T134.setTop (mkF m 110 #[.val (.int p0), .val (.int p1), .unset, .unset, .unset] [(.ref b1), (.ref b1)]))
  refine gs (fun t k => XS.bipush X134.here hx rfl (hb hby at_110) k) ?_
  show G (T134.setTop (mkF m 112 #[.val (.int p0), .val (.int p1), .unset, .unset, .unset] [(.int (19 : Int32)), (.ref b1), (.ref b1)]))
  refine gs (fun t k => XS.bipush X134.here hx rfl (hb hby at_112) k) ?_
  show G (T134.setTop (mkF m 114 #[.val (.int p0), .val (.int p1), .unset, .unset, .unset] [(.int (113 : Int32)), (.int (19 : Int32)), (.ref b1), (.ref b1)]))
  obtain ⟨vc141, vA141, vq141, vS141, vN141, vH141, vG141⟩ := V_b1_q134
  have hin141 : ¬ ((19 : Int32) < 0 ∨ vc141.slots.size ≤ ((19 : Int32)).toNatClampNeg) := inb_of vS141 ⟨by decide, by decide⟩
  obtain ⟨T141, h141, X141, e141, W141, st141⟩ := stS X134 hx hZ e134 vA141 (j := (19 : Int32)) hin141 (g := (mkF m 114 #[.val (.int p0), .val (.int p1), .unset, .unset, .unset] [(.int (113 : Int32)), (.int (19 : Int32)), (.ref b1), (.ref b1)])) rfl rfl (hb hby at_114)
  have S0_q142 := S0_q135.wr W141
  have S1_q143 := S1_q136.wr W141
  have S2_q144 := S2_q137.wr W141
  have S3_q145 := S3_q138.wr W141
  have S4_q146 := S4_q139.wr W141
  have K147 := K140.wr W141 (Or.inr sz_b1)
  obtain ⟨vl141, hl141, V_b1_q141⟩ := own_arvset vA141 vq141 vS141 vN141 vH141 vG141 (fits_nar_short _) W141 19 rfl hl134 (by decide)
  have N141 := Fr.snoc X141 N134 g_b1
  refine gs (fun t k => st141 _ k) ?_
  show G (T141.setTop (mkF m 115 #[.val (.int p0), .val (.int p1), .unset, .unset, .unset] [(.ref b1)]))
  refine gs (fun t k => XS.astoreN X141.here hx rfl (hb hby at_115) rfl rfl (l' := #[.val (.int p0), .val (.int p1), .val (.ref b1), .unset, .unset]) rfl k) ?_
  show G (T141.setTop (mkF m 116 #[.val (.int p0), .val (.int p1), .val (.ref b1), .unset, .unset] []))
  refine gs (fun t k => XS.iloadN X141.here hx rfl (hb hby at_116) rfl k) ?_
  show G (T141.setTop (mkF m 117 #[.val (.int p0), .val (.int p1), .val (.ref b1), .unset, .unset] [(.int p0)]))
  refine gs (fun t k => XS.iconst X141.here hx rfl (hb hby at_117) k) ?_
  show G (T141.setTop (mkF m 118 #[.val (.int p0), .val (.int p1), .val (.ref b1), .unset, .unset] [(.int (1 : Int32)), (.int p0)]))
  refine gs (fun t k => XS.iand X141.here hx rfl (hb hby at_118) rfl k) ?_
  show G (T141.setTop (mkF m 119 #[.val (.int p0), .val (.int p1), .val (.ref b1), .unset, .unset] [(.int (p0 &&& (1 : Int32)))]))
  have J119 : ∀ (cc : Int32), G (T141.setTop (mkF m 138 #[.val (.int p0), .val (.int p1), .val (.ref b1), .val (.int cc), .unset] [])) := by
    intro cc 
    have Z9 : n0 ≤ h141.size := Nat.le_trans Z0 K147.1
    refine gs (fun t k => XS.iloadN X141.here hx rfl (hb hby at_138) rfl k) ?_
    show G (T141.setTop (mkF m 139 #[.val (.int p0), .val (.int p1), .val (.ref b1), .val (.int cc), .unset] [(.int cc)]))
    obtain ⟨_, _, ⟨T148, L148, k148, n148⟩, -, X148, ⟨Lc148, hQ148, l148, y148, z148⟩, st148⟩ := Jvm.LawKit.callS X141 hx (y := (⟨"io/evenkeel/member/Reaction", "to", "(S)Lio/evenkeel/member/Reaction;"⟩ : MethodName)) hown (mvT hZ (hw _ (List.mem_of_getElem? (i := 1) rfl))) (mvT hZ (hw _ (List.mem_of_getElem? (i := 2) rfl))) (mvT hZ (hw _ (List.mem_of_getElem? (i := 3) rfl))) (mvT hZ (hw _ (List.mem_of_getElem? (i := 4) rfl))) (by decide) (backOf (W := 0) (rm1 l Z a0 hw [] cc r0 r1 r2 r3 r4 h141 n0 Z9 S0_q142 S1_q143 S2_q144 S3_q145 S4_q146) hZ (hw _ (List.mem_of_getElem? (i := 4) rfl)) (hw _ (List.mem_of_getElem? (i := 3) rfl)) (by decide) (by decide)) (g := (mkF m 139 #[.val (.int p0), .val (.int p1), .val (.ref b1), .val (.int cc), .unset] [(.int cc)])) rfl (by rw [hml]; rfl) (argsL := [(.int cc)]) (rest := []) (lenOf pd_0 rfl) rfl (by show 2 * 0 + _ ≤ _; exact Nat.le_of_eq rfl) (hb hby at_139) (fun _ _ => ⟨rfl, e141, (by decide : 1 + 0 ≤ _), (by decide : 20 + 0 ≤ _)⟩)
    dsimp only [Pt.U, Pt.locs, Pt.cells, Pt.slots] at X148 l148 y148 z148 st148 hQ148
    subst y148 z148
    obtain ⟨rfl, N148q, e148⟩ := hQ148
    have N148 : Fr n0 L148 := by rw [l148]; exact Fr.app N141 N148q
    refine gs (fun t k => st148 _ k) ?_
    show G (T148.setTop (mkF m 142 #[.val (.int p0), .val (.int p1), .val (.ref b1), .val (.int cc), .unset] [(.ref (own_to r0 r1 r2 r3 r4 cc))]))
    refine gs (fun t k => XS.astore X148.here hx rfl (hb hby at_142) rfl rfl (l' := #[.val (.int p0), .val (.int p1), .val (.ref b1), .val (.int cc), .val (.ref (own_to r0 r1 r2 r3 r4 cc))]) rfl k) ?_
    show G (T148.setTop (mkF m 144 #[.val (.int p0), .val (.int p1), .val (.ref b1), .val (.int cc), .val (.ref (own_to r0 r1 r2 r3 r4 cc))] []))
    refine gs (fun t k => XS.aload X148.here hx rfl (hb hby at_144) rfl rfl k) ?_
    show G (T148.setTop (mkF m 146 #[.val (.int p0), .val (.int p1), .val (.ref b1), .val (.int cc), .val (.ref (own_to r0 r1 r2 r3 r4 cc))] [(.ref (own_to r0 r1 r2 r3 r4 cc))]))
    refine gs (fun t k => XS.iloadN X148.here hx rfl (hb hby at_146) rfl k) ?_
    show G (T148.setTop (mkF m 147 #[.val (.int p0), .val (.int p1), .val (.ref b1), .val (.int cc), .val (.ref (own_to r0 r1 r2 r3 r4 cc))] [(.int cc), (.ref (own_to r0 r1 r2 r3 r4 cc))]))
    obtain ⟨_, _, ⟨T149, L149, k149, n149⟩, -, X149, ⟨Lc149, hQ149, l149, y149, z149⟩, st149⟩ := Jvm.LawKit.callS X148 hx (y := (⟨"io/evenkeel/member/ReactionToPinLaw", "expected", "(I)Lio/evenkeel/member/Reaction;"⟩ : MethodName)) hown (mvT hZ (hw _ (List.mem_of_getElem? (i := 7) rfl))) (mvT hZ (hw _ (List.mem_of_getElem? (i := 8) rfl))) (mvT hZ (hw _ (List.mem_of_getElem? (i := 9) rfl))) (mvT hZ (hw _ (List.mem_of_getElem? (i := 10) rfl))) (by decide) (backOf (W := 1) (rm2 l Z a0 hw [] cc r0 r1 r2 r3 r4 h141 n0 Z9 S0_q142 S1_q143 S2_q144 S3_q145 S4_q146) hZ (hw _ (List.mem_of_getElem? (i := 10) rfl)) (hw _ (List.mem_of_getElem? (i := 9) rfl)) (by decide) (by decide)) (g := (mkF m 147 #[.val (.int p0), .val (.int p1), .val (.ref b1), .val (.int cc), .val (.ref (own_to r0 r1 r2 r3 r4 cc))] [(.int cc), (.ref (own_to r0 r1 r2 r3 r4 cc))])) rfl (by rw [hml]; rfl) (argsL := [(.int cc)]) (rest := [(.ref (own_to r0 r1 r2 r3 r4 cc))]) (lenOf pd_1 rfl) rfl (by show 2 * 0 + _ ≤ _; exact Nat.le_of_eq rfl) (hb hby at_147) (fun _ _ => ⟨rfl, e148, (by decide : 1 + 0 ≤ _), (by decide : 20 + 0 ≤ _)⟩)
    dsimp only [Pt.U, Pt.locs, Pt.cells, Pt.slots] at X149 l149 y149 z149 st149 hQ149
    subst y149 z149
    obtain ⟨rfl, N149q, e149⟩ := hQ149
    have N149 : Fr n0 L149 := by rw [l149]; exact Fr.app N148 N149q
    refine gs (fun t k => st149 _ k) ?_
    show G (T149.setTop (mkF m 150 #[.val (.int p0), .val (.int p1), .val (.ref b1), .val (.int cc), .val (.ref (own_to r0 r1 r2 r3 r4 cc))] [(.ref (own_to r0 r1 r2 r3 r4 cc)), (.ref (own_to r0 r1 r2 r3 r4 cc))]))
    refine gs (fun t k => Jvm.RoadKit.acmp (g := (mkF m 150 #[.val (.int p0), .val (.int p1), .val (.ref b1), .val (.int cc), .val (.ref (own_to r0 r1 r2 r3 r4 cc))] [(.ref (own_to r0 r1 r2 r3 r4 cc)), (.ref (own_to r0 r1 r2 r3 r4 cc))])) X149 hx rfl rfl rfl (pc0 := 150) (pc' := 153) (same := true) rfl (hb hby at_150) rfl (decide_eq_true rfl) (by decide) (by decide) k) ?_
    show G (T149.setTop (mkF m 153 #[.val (.int p0), .val (.int p1), .val (.ref b1), .val (.int cc), .val (.ref (own_to r0 r1 r2 r3 r4 cc))] []))
    refine gs (fun t k => XS.iconst X149.here hx rfl (hb hby at_153) k) ?_
    show G (T149.setTop (mkF m 154 #[.val (.int p0), .val (.int p1), .val (.ref b1), .val (.int cc), .val (.ref (own_to r0 r1 r2 r3 r4 cc))] [(.int (1 : Int32))]))
    refine gs (fun t k => XS.goto X149.here hx rfl (pc0 := 154) (pc' := 158) rfl (hb hby at_154) (by decide) (by decide) k) ?_
    show G (T149.setTop (mkF m 158 #[.val (.int p0), .val (.int p1), .val (.ref b1), .val (.int cc), .val (.ref (own_to r0 r1 r2 r3 r4 cc))] [(.int (1 : Int32))]))
    obtain ⟨fs, hr, hrun, hended, hW, hsame⟩ := X149.leave (v := some (.int (1 : Int32))) (fun h => by rw [Bd.returns] at h; cases h)
    refine gl _ ⟨_, _, retN X149 hx (t := .boolean) Bd.returns (by simp) (hb hby at_158) hr, hrun, hended, _, _, rfl, ?_, ⟨_, rfl⟩, hW, hsame.mono (by decide) (by decide)⟩
    show Q0 h0 n0 _ T149.heap _
    rw [e149]
    exact ⟨rfl, N149⟩
  by_cases hc119 : (p0 &&& (1 : Int32)) = (0 : Int32)
  · refine gs (fun t k => XS.ifNo X141.here hx rfl (hb hby at_119) rfl ((if0 _ _).trans (teq hc119).2) k) ?_
    show G (T141.setTop (mkF m 122 #[.val (.int p0), .val (.int p1), .val (.ref b1), .unset, .unset] []))
    refine gs (fun t k => XS.iloadN X141.here hx rfl (hb hby at_122) rfl k) ?_
    show G (T141.setTop (mkF m 123 #[.val (.int p0), .val (.int p1), .val (.ref b1), .unset, .unset] [(.int p1)]))
    refine gs (fun t k => XS.i2s X141.here hx rfl (hb hby at_123) rfl k) ?_
    show G (T141.setTop (mkF m 124 #[.val (.int p0), .val (.int p1), .val (.ref b1), .unset, .unset] [(.int (p1.toInt16.toInt32))]))
    refine gs (fun t k => XS.istoreN X141.here hx rfl (hb hby at_124) rfl (l' := #[.val (.int p0), .val (.int p1), .val (.ref b1), .val (.int (p1.toInt16.toInt32)), .unset]) rfl k) ?_
    show G (T141.setTop (mkF m 125 #[.val (.int p0), .val (.int p1), .val (.ref b1), .val (.int (p1.toInt16.toInt32)), .unset] []))
    refine gs (fun t k => XS.goto X141.here hx rfl (pc0 := 125) (pc' := 138) rfl (hb hby at_125) (by decide) (by decide) k) ?_
    show G (T141.setTop (mkF m 138 #[.val (.int p0), .val (.int p1), .val (.ref b1), .val (.int (p1.toInt16.toInt32)), .unset] []))
    exact J119 _
  · refine gs (fun t k => XS.ifYes X141.here hx rfl (pc0 := 119) (pc' := 128) rfl (hb hby at_119) rfl ((if0 _ _).trans (feq hc119).2) (by decide) (by decide) k) ?_
    show G (T141.setTop (mkF m 128 #[.val (.int p0), .val (.int p1), .val (.ref b1), .unset, .unset] []))
    refine gs (fun t k => XS.aloadN X141.here hx rfl (hb hby at_128) rfl rfl k) ?_
    show G (T141.setTop (mkF m 129 #[.val (.int p0), .val (.int p1), .val (.ref b1), .unset, .unset] [(.ref b1)]))
    refine gs (fun t k => XS.iloadN X141.here hx rfl (hb hby at_129) rfl k) ?_
    show G (T141.setTop (mkF m 130 #[.val (.int p0), .val (.int p1), .val (.ref b1), .unset, .unset] [(.int p1), (.ref b1)]))
    refine gs (fun t k => X141.ldcInt hx hown (mvT hZ (hw _ (List.mem_of_getElem? (i := 15) rfl))) (g := (mkF m 130 #[.val (.int p0), .val (.int p1), .val (.ref b1), .unset, .unset] [(.int p1), (.ref b1)])) rfl (hb hby at_130) _ k) ?_
    show G (T141.setTop (mkF m 132 #[.val (.int p0), .val (.int p1), .val (.ref b1), .unset, .unset] [(.int (2147483647 : Int32)), (.int p1), (.ref b1)]))
    refine gs (fun t k => XS.iand X141.here hx rfl (hb hby at_132) rfl k) ?_
    show G (T141.setTop (mkF m 133 #[.val (.int p0), .val (.int p1), .val (.ref b1), .unset, .unset] [(.int (p1 &&& (2147483647 : Int32))), (.ref b1)]))
    refine gs (fun t k => XS.bipush X141.here hx rfl (hb hby at_133) k) ?_
    show G (T141.setTop (mkF m 135 #[.val (.int p0), .val (.int p1), .val (.ref b1), .unset, .unset] [(.int (20 : Int32)), (.int (p1 &&& (2147483647 : Int32))), (.ref b1)]))
    refine gs (fun t k => iremM X141 hx rfl (hb hby at_135) rfl (by decide) k) ?_
    show G (T141.setTop (mkF m 136 #[.val (.int p0), .val (.int p1), .val (.ref b1), .unset, .unset] [(.int ((p1 &&& (2147483647 : Int32)) % (20 : Int32))), (.ref b1)]))
    obtain ⟨vc, vA, vq, vS, vN, vH, vG⟩ := V_b1_q141
    have hin := inb_of vS (own_q p1)
    have hlt := Nat.lt_of_not_le fun q => hin (Or.inr q)
    obtain ⟨xx, ex⟩ := fit_I (vG _ hlt) (by simp)
    have hat := vH _ hlt
    rw [ex] at hat
    refine gs (fun t k => X141.saload hx (j := ((p1 &&& (2147483647 : Int32)) % (20 : Int32))) (v := (.int xx)) (by rw [e141]; exact vA.1) (State.isArrayOf_alike hZ.alike vA.2.1) vA.2.2 hin hat (g := (mkF m 136 #[.val (.int p0), .val (.int p1), .val (.ref b1), .unset, .unset] [(.int ((p1 &&& (2147483647 : Int32)) % (20 : Int32))), (.ref b1)])) rfl rfl (hb hby at_136) _ k) ?_
    show G (T141.setTop (mkF m 137 #[.val (.int p0), .val (.int p1), .val (.ref b1), .unset, .unset] [(.int xx)]))
    refine gs (fun t k => XS.istoreN X141.here hx rfl (hb hby at_137) rfl (l' := #[.val (.int p0), .val (.int p1), .val (.ref b1), .val (.int xx), .unset]) rfl k) ?_
    show G (T141.setTop (mkF m 138 #[.val (.int p0), .val (.int p1), .val (.ref b1), .val (.int xx), .unset] []))
    exact J119 _
set_option maxRecDepth 65536 in
set_option maxHeartbeats 40000000 in
theorem comes_1 {Post : Tables → Env → Array Value → State → Outcome → State → Prop} (hpost : ∀ tb e args s v u, (limb_1_1.after args s (.returned v) u = true ∧ limb_1_2.after args s (.returned v) u = true ∧ True) → FrameEnd s (.returned v) u (Jvm.fieldLocs frame_1_writes args s ++ Jvm.arrayLocs frame_1_arrays args s ++ Jvm.staticLocs frame_1_statics s) 16 128 → Post tb e args s (.returned v) u) :
    ArmFor flags0 classFile x code maxLocals ret World_1 tables_1 room_1 Calls_1 rest_1 Pre_1 Post := by
  intro l hfl _ _ p e ha hc hk s m args below hf hA hF happ hP
  obtain ⟨hcalls, hrest, hpre⟩ := hP
  obtain ⟨-, -, -, hnamed, -, -, -, hat⟩ := (Spec.applies_iff hf).mp happ
  obtain ⟨hg, hn⟩ := and_e (Cond.before_iff.mp (show (Jvm.Cond.and given_1 narrow_1).before args s = true from hpre))
  obtain ⟨hg0, hg1⟩ := and_e hg
  obtain ⟨hv0, ht0⟩ := and_e hg1
  have hv1 := ht0
  obtain ⟨w0, w1, rfl⟩ : ∃ w0 w1 : Value, args = #[w0, w1] := by
    have hs : args.size = 2 := by simpa [Cond.value, given_1] using hg0
    obtain ⟨L⟩ := args
    match L, hs with
    | [w0, w1], _ => exact ⟨w0, w1, rfl⟩
  have hw := fun d (hd : d ∈ tables_1) => atoms_spec (ws := Jvm.Cond.code x code maxLocals ret :: tables_1) hat d (List.mem_cons_of_mem _ hd)
  have hfit : Fit s := fun {y c} hc i hi => by
    obtain ⟨ha, rfl⟩ := Array.getElem?_eq_some_iff.mp hc
    have q := List.all_eq_true.mp ((Array.all_eq_true_iff_forall_mem.mp hF) _ (Array.getElem_mem ha)) i (List.mem_range.mpr hi)
    simpa [Array.getElem?_eq_getElem hi] using q
  obtain ⟨i0, ei0⟩ := is_v hv0
  obtain rfl : w0 = (.int i0) := Option.some.inj ei0
  obtain ⟨i1, ei1⟩ := is_v hv1
  obtain rfl : w1 = (.int i1) := Option.some.inj ei1
  obtain ⟨hn4, hn'⟩ := and_e hn
  obtain ⟨hn0, hn''⟩ := and_e hn'
  obtain ⟨hn1, hn'''⟩ := and_e hn''
  obtain ⟨hn2, hn3⟩ := and_e hn'''
  obtain ⟨r0, ev0⟩ := exa_v hn0
  have S0 := Sta.start ev0 (Or.inr ⟨(hw _ (List.mem_of_getElem? (i := 3) rfl)), (hw _ (List.mem_of_getElem? (i := 13) rfl))⟩)
  obtain ⟨r1, ev1⟩ := exa_v hn1
  have S1 := Sta.start ev1 (Or.inr ⟨(hw _ (List.mem_of_getElem? (i := 3) rfl)), (hw _ (List.mem_of_getElem? (i := 17) rfl))⟩)
  obtain ⟨r2, ev2⟩ := exa_v hn2
  have S2 := Sta.start ev2 (Or.inr ⟨(hw _ (List.mem_of_getElem? (i := 3) rfl)), (hw _ (List.mem_of_getElem? (i := 20) rfl))⟩)
  obtain ⟨r3, ev3⟩ := exa_v hn3
  have S3 := Sta.start ev3 (Or.inr ⟨(hw _ (List.mem_of_getElem? (i := 3) rfl)), (hw _ (List.mem_of_getElem? (i := 23) rfl))⟩)
  obtain ⟨r4, ev4⟩ := exa_v hn4
  have S4 := Sta.start ev4 (Or.inr ⟨(hw _ (List.mem_of_getElem? (i := 3) rfl)), (hw _ (List.mem_of_getElem? (i := 6) rfl))⟩)
  obtain ⟨n, o, h1, h2, h3, _, L, rfl, ⟨rfl, N⟩, hq⟩ := rm0 l s _ hw tables_1 i0 i1 r0 r1 r2 r3 r4 s.heap s.heap.size (Nat.le_refl _) S0 S1 S2 S3 S4 p e ha hc hk s m _ below hf ((Spec.applies_iff_loose hf).mp happ).1 ⟨rfl, State.Warmed39.refl s, rfl⟩ trivial
  refine ⟨n, _, h1, h2, h3, hpost _ _ _ _ _ _ ⟨Cond.after_iff.mpr rfl, Cond.after_iff.mpr (eq_i res_at (Term.int_eval (1)) rfl), trivial⟩ ⟨hq.1, hq.2.1, (hq.2.2.sift fun y hy => Or.inr (N y hy)).mono (by decide) (by decide)⟩⟩
theorem main_1_1 : Claimed_1_1 := comes_1 fun _ _ _ _ _ _ h hF => ⟨h.1, hF⟩
theorem main_1_2 : Claimed_1_2 := comes_1 fun _ _ _ _ _ _ h hF => ⟨h.2.1, hF⟩
end Jvm.Pilot.@@N@@
namespace Jvm.Pilot.@@N@@
open Jvm Jvm.ClassFile Sem Op Lib Jvm.Free Jvm.Stand Jvm.Pilot.@@N@@.Jvm.D
/-! MADE BY PROGRAM (witnessworld.py) out of the Statement's table words and the real class files: 14 classes; the members and pool entries that the words name. The judged class is class 1, her method 2. -/
namespace start1
open Jvm.ClassFile
def u (s : String) : CpInfo := .utf8 (stringToUtf16 s)
/-- a pool by its gaps: so many unusable entries, then the entry; so many at the end -/
def gap : Nat → List CpInfo → List CpInfo
  | 0, r => r
  | n + 1, r => .unusable :: gap n r
def poolList (es : List (Nat × CpInfo)) (last : Nat) : List CpInfo := es.foldr (fun e r => gap e.1 (e.2 :: r)) (gap last [])
def pool (es : List (Nat × CpInfo)) (last : Nat) : Array CpInfo := ⟨poolList es last⟩
def fileOf (pool : Array CpInfo) (this : Nat) (attrs : Array Attribute := #[]) (ms : Array MethodInfo := #[]) (fl : Nat := 33) (sup : Nat := 0) (ifs : Array Nat := #[]) (fds : Array FieldInfo := #[]) : ClassFile where
  minorVersion := 0
  majorVersion := 65
  constantPool := pool
  accessFlags := fl
  thisClass := this
  superClass := sup
  interfaces := ifs
  fields := fds
  methods := ms
  attributes := attrs
def plain (name : String) (sup : Option ClassId) : Class where
  name := name
  kind := .ordinary
  loader := none
  accessFlags := 33
  super := sup
  interfaces := #[]
  cf := none
  fields := #[]
  methods := #[]
  instanceTypes := #[]
  staticTypes := #[]
  resolved := #[]
  callSites := []
  init := .initialized
  statics := none
  mirror := none

def pool0 : Array CpInfo := pool [(5, u "<init>"), (0, u "()V"), (1, .class_ 10), (1, u "java/lang/Object")] 113

def k0m0 : Method := { name := "<init>", desc := "()V", sig := { parameters := [], returnType := none }, accessFlags := 1, code := none }
/-- java/lang/Object -/
def k0 : Class := { plain "java/lang/Object" none with
  accessFlags := 33
  interfaces := #[]
  cf := some (fileOf pool0 8 #[] #[{ accessFlags := 1, nameIndex := 5, descriptorIndex := 6, attributes := #[] }] 33 0 #[] #[])
  fields := #[]
  methods := #[k0m0]
  instanceTypes := #[]
  staticTypes := #[]
  resolved := Array.replicate 124 none
  statics := none }

def pool1 : Array CpInfo := pool [(2, .class_ 4), (1, u "java/lang/Object"), (0, u "<init>"), (0, u "()V"), (0, .fieldref 8 9), (0, .class_ 10), (0, .nameAndType 11 12), (0, u "io/evenkeel/member/Reaction"), (0, u "GO_ON"), (0, u "Lio/evenkeel/member/Reaction;"), (0, .fieldref 8 14), (0, .nameAndType 15 12), (0, u "JOIN_AGAIN"), (0, .fieldref 8 17), (0, .nameAndType 18 12), (0, u "JOIN_AS_NEW"), (0, .fieldref 8 20), (0, .nameAndType 21 12), (0, u "JOIN_LATER"), (0, .fieldref 8 23), (0, .nameAndType 24 12), (0, u "STOP"), (0, .integer 2147483647), (0, .methodref 8 27), (0, .nameAndType 28 29), (0, u "to"), (0, u "(S)Lio/evenkeel/member/Reaction;"), (0, .methodref 31 32), (0, .class_ 33), (0, .nameAndType 34 35), (0, u "io/evenkeel/member/ReactionToPinLaw"), (0, u "expected"), (0, u "(I)Lio/evenkeel/member/Reaction;"), (3, u "law"), (0, u "(II)Z")] 4

def k1m0 : Method := { name := "<init>", desc := "()V", sig := { parameters := [], returnType := none }, accessFlags := 2, code := none }
def k1c1 : Code := { maxStack := 2, maxLocals := 1, code := method_2_code, exceptionTable := #[], attributes := #[] }
def k1m1 : Method := { name := "expected", desc := "(I)Lio/evenkeel/member/Reaction;", sig := { parameters := [.int], returnType := some (.object "io/evenkeel/member/Reaction") }, accessFlags := 10, code := some k1c1 }
def k1c2 : Code := { maxStack := 4, maxLocals := 5, code := code, exceptionTable := #[], attributes := #[] }
def k1m2 : Method := { name := "law", desc := "(II)Z", sig := { parameters := [.int, .int], returnType := some .boolean }, accessFlags := 9, code := some k1c2 }
/-- io/evenkeel/member/ReactionToPinLaw -/
def k1 : Class := { plain "io/evenkeel/member/ReactionToPinLaw" (some 0) with
  accessFlags := 49
  interfaces := #[]
  cf := some (fileOf pool1 31 #[] #[{ accessFlags := 2, nameIndex := 5, descriptorIndex := 6, attributes := #[] }, { accessFlags := 10, nameIndex := 34, descriptorIndex := 35, attributes := #[] }, { accessFlags := 9, nameIndex := 39, descriptorIndex := 40, attributes := #[] }] 49 2 #[] #[])
  fields := #[]
  methods := #[k1m0, k1m1, k1m2]
  instanceTypes := #[]
  staticTypes := #[]
  resolved := Array.replicate 45 none
  statics := none }

def pool2 : Array CpInfo := pool [(1, .class_ 2), (0, u "java/lang/constant/Constable"), (0, .class_ 4), (0, u "java/lang/Object")] 6

/-- java/lang/constant/Constable -/
def k2 : Class := { plain "java/lang/constant/Constable" (some 0) with
  accessFlags := 1537
  interfaces := #[]
  cf := some (fileOf pool2 1 #[] #[] 1537 3 #[] #[])
  fields := #[]
  methods := #[]
  instanceTypes := #[]
  staticTypes := #[]
  resolved := Array.replicate 11 none
  statics := none }

def pool3 : Array CpInfo := pool [(1, .class_ 2), (0, u "java/lang/Comparable"), (0, .class_ 4), (0, u "java/lang/Object")] 7

/-- java/lang/Comparable -/
def k3 : Class := { plain "java/lang/Comparable" (some 0) with
  accessFlags := 1537
  interfaces := #[]
  cf := some (fileOf pool3 1 #[] #[] 1537 3 #[] #[])
  fields := #[]
  methods := #[]
  instanceTypes := #[]
  staticTypes := #[]
  resolved := Array.replicate 12 none
  statics := none }

def pool4 : Array CpInfo := pool [(1, .class_ 2), (0, u "java/io/Serializable"), (0, .class_ 4), (0, u "java/lang/Object")] 2

/-- java/io/Serializable -/
def k4 : Class := { plain "java/io/Serializable" (some 0) with
  accessFlags := 1537
  interfaces := #[]
  cf := some (fileOf pool4 1 #[] #[] 1537 3 #[] #[])
  fields := #[]
  methods := #[]
  instanceTypes := #[]
  staticTypes := #[]
  resolved := Array.replicate 7 none
  statics := none }

def pool5 : Array CpInfo := pool [(2, .class_ 4), (1, u "java/lang/Enum"), (0, u "name"), (0, u "Ljava/lang/String;"), (2, u "ordinal"), (0, u "I"), (1, .class_ 14), (1, u "java/lang/Object"), (4, u "hash"), (86, .class_ 108), (1, u "java/lang/Enum$EnumDesc"), (2, .class_ 112), (0, u "java/lang/constant/Constable"), (0, .class_ 114), (0, u "java/lang/Comparable"), (0, .class_ 116), (0, u "java/io/Serializable")] 87

/-- java/lang/Enum -/
def k5 : Class := { plain "java/lang/Enum" (some 0) with
  accessFlags := 1057
  interfaces := #[2, 3, 4]
  cf := some (fileOf pool5 2 #[.nestMembers #[106]] #[] 1057 12 #[111, 113, 115] #[{ accessFlags := 18, nameIndex := 5, descriptorIndex := 6, attributes := #[] }, { accessFlags := 18, nameIndex := 9, descriptorIndex := 10, attributes := #[] }, { accessFlags := 2, nameIndex := 19, descriptorIndex := 10, attributes := #[] }])
  fields := #[{ name := "name", type := (.object "java/lang/String"), accessFlags := 18, slot := 0, constantValue := 0 }, { name := "ordinal", type := .int, accessFlags := 18, slot := 1, constantValue := 0 }, { name := "hash", type := .int, accessFlags := 2, slot := 2, constantValue := 0 }]
  methods := #[]
  instanceTypes := #[(.object "java/lang/String"), .int, .int]
  staticTypes := #[]
  resolved := Array.replicate 204 none
  statics := none }

def pool6 : Array CpInfo := pool [(1, .class_ 2), (0, u "io/evenkeel/member/Reaction"), (0, .fieldref 1 4), (0, .nameAndType 5 6), (0, u "GO_ON"), (0, u "Lio/evenkeel/member/Reaction;"), (0, .fieldref 1 8), (0, .nameAndType 9 6), (0, u "JOIN_AGAIN"), (0, .fieldref 1 11), (0, .nameAndType 12 6), (0, u "JOIN_AS_NEW"), (0, .fieldref 1 14), (0, .nameAndType 15 6), (0, u "JOIN_LATER"), (0, .fieldref 1 17), (0, .nameAndType 18 6), (0, u "STOP"), (2, u "$VALUES"), (0, u "[Lio/evenkeel/member/Reaction;"), (6, .class_ 31), (1, u "java/lang/Enum"), (23, u "to"), (0, u "(S)Lio/evenkeel/member/Reaction;")] 7

def k6c0 : Code := { maxStack := 1, maxLocals := 1, code := prog_131_method_4_code, exceptionTable := #[], attributes := #[] }
def k6m0 : Method := { name := "to", desc := "(S)Lio/evenkeel/member/Reaction;", sig := { parameters := [.short], returnType := some (.object "io/evenkeel/member/Reaction") }, accessFlags := 8, code := some k6c0 }
/-- io/evenkeel/member/Reaction -/
def k6 : Class := { plain "io/evenkeel/member/Reaction" (some 5) with
  accessFlags := 16432
  interfaces := #[]
  cf := some (fileOf pool6 1 #[] #[{ accessFlags := 8, nameIndex := 55, descriptorIndex := 56, attributes := #[] }] 16432 29 #[] #[{ accessFlags := 16409, nameIndex := 5, descriptorIndex := 6, attributes := #[] }, { accessFlags := 16409, nameIndex := 9, descriptorIndex := 6, attributes := #[] }, { accessFlags := 16409, nameIndex := 12, descriptorIndex := 6, attributes := #[] }, { accessFlags := 16409, nameIndex := 15, descriptorIndex := 6, attributes := #[] }, { accessFlags := 16409, nameIndex := 18, descriptorIndex := 6, attributes := #[] }, { accessFlags := 4122, nameIndex := 21, descriptorIndex := 22, attributes := #[] }])
  fields := #[{ name := "GO_ON", type := (.object "io/evenkeel/member/Reaction"), accessFlags := 16409, slot := 0, constantValue := 0 }, { name := "JOIN_AGAIN", type := (.object "io/evenkeel/member/Reaction"), accessFlags := 16409, slot := 1, constantValue := 0 }, { name := "JOIN_AS_NEW", type := (.object "io/evenkeel/member/Reaction"), accessFlags := 16409, slot := 2, constantValue := 0 }, { name := "JOIN_LATER", type := (.object "io/evenkeel/member/Reaction"), accessFlags := 16409, slot := 3, constantValue := 0 }, { name := "STOP", type := (.object "io/evenkeel/member/Reaction"), accessFlags := 16409, slot := 4, constantValue := 0 }, { name := "$VALUES", type := (.array (.object "io/evenkeel/member/Reaction")), accessFlags := 4122, slot := 5, constantValue := 0 }]
  methods := #[k6m0]
  instanceTypes := #[(.object "java/lang/String"), .int, .int]
  staticTypes := #[(.object "io/evenkeel/member/Reaction"), (.object "io/evenkeel/member/Reaction"), (.object "io/evenkeel/member/Reaction"), (.object "io/evenkeel/member/Reaction"), (.object "io/evenkeel/member/Reaction"), (.array (.object "io/evenkeel/member/Reaction"))]
  resolved := Array.replicate 64 none
  statics := some 0 }

def pool7 : Array CpInfo := pool [(1, u "java/lang/Cloneable"), (0, .class_ 1), (0, u "java/lang/Object"), (0, .class_ 3)] 3

/-- java/lang/Cloneable -/
def k7 : Class := { plain "java/lang/Cloneable" (some 0) with
  accessFlags := 1537
  interfaces := #[]
  cf := some (fileOf pool7 2 #[] #[] 1537 4 #[] #[])
  fields := #[]
  methods := #[]
  instanceTypes := #[]
  staticTypes := #[]
  resolved := Array.replicate 8 none
  statics := none }

/-- the primitive byte -/
def k8 : Class := { plain "byte" none with kind := .primitive 'B', accessFlags := 0x411 }
/-- [B -/
def k9 : Class := { plain "[B" (some 0) with kind := .array 8 .byte, interfaces := #[7, 4], accessFlags := 1041 }

/-- the primitive int -/
def k10 : Class := { plain "int" none with kind := .primitive 'I', accessFlags := 0x411 }
/-- [I -/
def k11 : Class := { plain "[I" (some 0) with kind := .array 10 .int, interfaces := #[7, 4], accessFlags := 1041 }

/-- the primitive short -/
def k12 : Class := { plain "short" none with kind := .primitive 'S', accessFlags := 0x411 }
/-- [S -/
def k13 : Class := { plain "[S" (some 0) with kind := .array 12 .short, interfaces := #[7, 4], accessFlags := 1041 }

def heap : Heap := #[{ cls := 6, slots := #[.ref 1, .ref 2, .ref 3, .ref 4, .ref 5, .null], vm := .statics 6 },
  { cls := 6, slots := #[.null, .int 0, .int 0], vm := .none },
  { cls := 6, slots := #[.null, .int 1, .int 0], vm := .none },
  { cls := 6, slots := #[.null, .int 2, .int 0], vm := .none },
  { cls := 6, slots := #[.null, .int 3, .int 0], vm := .none },
  { cls := 6, slots := #[.null, .int 4, .int 0], vm := .none }]
def classes : Array Class := #[k0, k1, k2, k3, k4, k5, k6, k7, k8, k9, k10, k11, k12, k13]
def interned : List (Array UInt16 × Addr) := []
def slotsUsed : Nat := 21
def theMethod : MethodId := ⟨1, 2⟩
def args0 : Array Value := #[.int 3, .int 27]
def aboutOver (below : List Frame) : State where
  vm := { classes := classes, interned := interned.toArray }
  heap := heap
  slotsUsed := slotsUsed
  threads := #[{ frames := .invoking theMethod args0 :: below }]
def below0 : List Frame := [.native { method := ⟨0, 0⟩, args := #[] }]
def about1 : State := aboutOver below0
def p0 : Program := .bare "" "" ""
def e0 : Env := launch0.env 0 0 0
theorem w_frames : about1.frames = Frame.invoking theMethod args0 :: below0 := rfl
set_option maxRecDepth 65536 in
theorem w_args : argsFit about1.vm theMethod args0 = true := by decide +kernel
set_option maxRecDepth 65536 in
theorem w_heap : heapFits about1 = true := by decide +kernel
set_option maxRecDepth 65536 in
theorem w_runnable : about1.curStatus? = some .runnable := by decide +kernel
set_option maxRecDepth 65536 in
theorem w_alone : about1.alone = true := by decide +kernel
set_option maxRecDepth 65536 in
theorem w_named : about1.methodNamed? x = some theMethod := by decide +kernel
set_option maxRecDepth 65536 in
theorem w_hears : about1.hears theMethod below0 = true := by decide +kernel
set_option maxRecDepth 65536 in
theorem w_ripe : about1.ripe theMethod args0 below0 = true := by decide +kernel
theorem w_running : about1.status = .running := rfl
set_option maxRecDepth 65536 in
theorem w_room : about1.hasRoom e0.platform room_1 = true :=
  launch0.hasRoom_least _ room_1 (by decide +kernel) (by decide +kernel) (by decide +kernel) (by decide +kernel) (by decide +kernel) (by decide +kernel)
theorem allAtoms_all (ts : List Jvm.Cond) (a : Array Jvm.Value) (st : Jvm.State) : (allAtoms ts).before a st = ts.all (fun c => c.before a st) := by
  induction ts with
  | nil => rfl
  | cons c t ih =>
    show (Jvm.Cond.and c (allAtoms t)).before a st = _
    rw [Jvm.Cond.before_and, ih, List.all_cons]
def words1 : List Jvm.Cond := Jvm.Cond.code x code maxLocals ret :: tables_1
/-- a 'code' word, met by the world's own term for the bytes: nothing is compared byte by byte -/
theorem code_word {y : MethodName} {bytes : ByteArray} {mx : Nat} {rt : Option FieldType} {a : Array Value} {s : State} {m : MethodId} {meth : Method} {c : Code} (h1 : s.methodNamed? y = some m) (h2 : s.vm.method? m = some meth) (h3 : meth.code = some c) (h4 : c.code = bytes)
    (h5 : (c.maxLocals == mx && c.exceptionTable.isEmpty && decide (c.maxStack ≤ mostOperands) && decide (meth.sig.returnType = rt) && !meth.locks && decide (parseMethodDescriptor y.desc = some meth.sig)) = true) : (Jvm.Cond.code y bytes mx rt).before a s = true := by
  simp only [Bool.and_eq_true, beq_iff_eq, Bool.not_eq_true', decide_eq_true_eq] at h5
  obtain ⟨⟨⟨⟨⟨g1, g2⟩, g3⟩, g4⟩, g5⟩, g6⟩ := h5
  simp [Cond.before, Cond.holds, Cond.value, h1, h2, h3, h4, g1, g2, g3, g4, g5, g6]
def isCode : Jvm.Cond → Bool
  | .code _ _ _ _ => true
  | _ => false
theorem all_split {L : List Jvm.Cond} {P : Jvm.Cond → Bool} (h1 : L.all (fun c => isCode c || P c) = true) (h2 : ∀ c ∈ L.filter isCode, P c = true) : L.all P = true := by
  refine List.all_eq_true.mpr fun c hc => ?_
  have h := List.all_eq_true.mp h1 c hc
  rcases Bool.eq_false_or_eq_true (isCode c) with hi | hi
  · exact h2 c (List.mem_filter.mpr ⟨hc, hi⟩)
  · simpa [hi] using h
set_option maxRecDepth 65536 in
theorem w_c0 : (Jvm.Cond.code x code maxLocals ret).before args0 about1 = true := code_word (m := ⟨1, 2⟩) (meth := k1m2) (c := k1c2) (by decide +kernel) rfl rfl rfl (by decide +kernel)
set_option maxRecDepth 65536 in
theorem w_c1 : (Jvm.Cond.code ({ cls := "io/evenkeel/member/Reaction", name := "to", desc := "(S)Lio/evenkeel/member/Reaction;" } : Jvm.MethodName) prog_131_method_4_code (1 : Nat) (Option.some (Jvm.ClassFile.FieldType.object "io/evenkeel/member/Reaction"))).before args0 about1 = true := code_word (m := ⟨6, 0⟩) (meth := k6m0) (c := k6c0) (by decide +kernel) rfl rfl rfl (by decide +kernel)
set_option maxRecDepth 65536 in
theorem w_c2 : (Jvm.Cond.code ({ cls := "io/evenkeel/member/ReactionToPinLaw", name := "expected", desc := "(I)Lio/evenkeel/member/Reaction;" } : Jvm.MethodName) method_2_code (1 : Nat) (Option.some (Jvm.ClassFile.FieldType.object "io/evenkeel/member/Reaction"))).before args0 about1 = true := code_word (m := ⟨1, 1⟩) (meth := k1m1) (c := k1c1) (by decide +kernel) rfl rfl rfl (by decide +kernel)
def codes1 : List Jvm.Cond := [Jvm.Cond.code x code maxLocals ret, Jvm.Cond.code ({ cls := "io/evenkeel/member/Reaction", name := "to", desc := "(S)Lio/evenkeel/member/Reaction;" } : Jvm.MethodName) prog_131_method_4_code (1 : Nat) (Option.some (Jvm.ClassFile.FieldType.object "io/evenkeel/member/Reaction")), Jvm.Cond.code ({ cls := "io/evenkeel/member/ReactionToPinLaw", name := "expected", desc := "(I)Lio/evenkeel/member/Reaction;" } : Jvm.MethodName) method_2_code (1 : Nat) (Option.some (Jvm.ClassFile.FieldType.object "io/evenkeel/member/Reaction"))]
set_option maxRecDepth 65536 in
theorem codes_eq : words1.filter isCode = codes1 := rfl
theorem w_codes : ∀ c ∈ words1.filter isCode, c.before args0 about1 = true := by
  rw [codes_eq]
  intro c hc
  simp only [codes1, List.mem_cons, List.not_mem_nil, or_false] at hc
  rcases hc with rfl | rfl | rfl
  · exact w_c0
  · exact w_c1
  · exact w_c2
set_option maxRecDepth 65536 in
theorem w_t1 : (words1.take 24).all (fun c => isCode c || c.before args0 about1) = true := by decide +kernel
set_option maxRecDepth 65536 in
theorem w_t2 : (words1.drop 24).all (fun c => isCode c || c.before args0 about1) = true := by decide +kernel
theorem w_tables : (allAtoms (Jvm.Cond.code x code maxLocals ret :: tables_1)).before args0 about1 = true := by
  rw [allAtoms_all]
  show words1.all (fun c => c.before args0 about1) = true
  refine all_split ?_ w_codes
  rw [← List.take_append_drop 24 words1, List.all_append, w_t1, w_t2]
  rfl
set_option maxRecDepth 65536 in
theorem w_case : (Jvm.Cond.and given_1 narrow_1).before args0 about1 = true := by decide +kernel
theorem w_applies : (headSpec (Jvm.Cond.code x code maxLocals ret :: tables_1) room_1).applies x e0.platform about1 = true :=
  (Spec.applies_iff w_frames).mpr ⟨w_running, w_runnable, w_alone, w_named, w_hears, w_ripe, w_room, w_tables⟩
theorem atStart : AtStart classFile x code maxLocals ret World_1 tables_1 room_1 Calls_1 rest_1 Pre_1 launch0 p0 e0 about1 theMethod args0 below0 :=
  ⟨lists_1, trivial, launch0.admits_env _ _ _, launch0.least_env, fairChoices_fair.cas, fairChoices_fair.clock, w_frames, w_args, w_heap, w_applies, trivial, trivial, w_case⟩
end start1
theorem witness_1 : WitnessClaimed_1 := ⟨start1.p0, start1.e0, start1.about1, start1.theMethod, start1.args0, start1.below0, start1.atStart⟩
end Jvm.Pilot.@@N@@
