import JvmDerived
import JvmDerived.Pilot.@@N@@Statement
import JvmDerived.Pilot.@@N@@Code
set_option linter.unusedVariables false
set_option linter.unusedSimpArgs false
namespace Jvm.RoadKit
open Sem ClassFile Op Lib Jvm.Stand Jvm.Free Jvm.LawKit
section New
variable {p : Program} {l : Launch} {e : Env} {R : Room} {s : State} {m : MethodId} {args : Array Value} {below : List Frame} {meth : Method} {c : Code} {T : State} {locs : List Loc} {cells slots : Nat}
theorem own_retI (X : Stand p l e R s m args below meth c T locs cells slots) (hx : p.tables.exec = Jvm.exec) {pc : Nat} {Ls : Array Slot} {z : Int32} {rest : List Value} (hret : meth.sig.returnType = some .int) (hd : decode c.code pc = .ok (.ireturn, 1)) {fs : List Frame}
    (hl : ∀ (f : JFrame) (acts : List Action), f.method = m → f.locked = none → f.entered = [] → (doReturn e (T.setTop f) acts (some (.int z))).1 = T.setFrames fs) : Steps p.tables e below (T.setTop (mkF m pc Ls (.int z :: rest))) (T.setFrames fs) :=
  retOut X hx hret rfl (Or.inl ⟨rfl, Or.inl rfl, z, rfl⟩) hd hl
theorem own_start {S S0 : State} {P : State → Outcome → Prop} (pre : ∀ t, Steps p.tables e below S t → Steps p.tables e below S0 t)
    (k : ∀ G : State → Prop, (∀ {U U' : State}, (∀ t, Steps p.tables e below U' t → Steps p.tables e below U t) → G U' → G U) → (∀ U, (∃ s₂ o, Steps p.tables e below U s₂ ∧ P s₂ o) → G U) → G S) :
    ∃ s₂ o, Steps p.tables e below S0 s₂ ∧ P s₂ o := by
  obtain ⟨t, o, h1, h2⟩ := k (fun U => ∃ s₂ o, Steps p.tables e below U s₂ ∧ P s₂ o) (fun f ⟨t, o, h1, h2⟩ => ⟨t, o, f t h1, h2⟩) (fun _ h => h)
  exact ⟨t, o, pre t h1, h2⟩
theorem own_lsw {g : JFrame} {target : State} (X : Stand p l e R s m args below meth c T locs cells slots) (hx : p.tables.exec = Jvm.exec) (hg : g.method = m) {dflt : Int} {ps : Array (Int × Int)} {len : Nat} {pc0 pc' : Nat} (hpc : g.pc = pc0) (hd : decode c.code g.pc = .ok (.lookupswitch dflt ps, len)) {i : Int32} {rest : List Value} (hs : g.stack = .int i :: rest)
    (hsort : (ps.toList.zip ps.toList.tail).all (fun q => decide (q.1.1 < q.2.1)) = true) {o : Int} (hoff : lookupswitch.offset ps.toList dflt i.toInt = o) (ho : 0 ≤ (pc0 : Int) + o) (hp : ((pc0 : Int) + o).toNat = pc') (hr : Steps p.tables e below (T.setTop { g with pc := pc', stack := rest }) target) : Steps p.tables e below (T.setTop g) target := by
  subst hg hpc hp hoff
  jvm_step X.here [X.here.top, hx, hd, hs, ho, lookupswitch.wp_chain]
  exact ⟨fun a b a1 b1 hm => by simpa using List.all_eq_true.mp hsort _ hm, hr⟩
theorem own_lt {a b : Int32} (h : a < b) : a.toInt < b.toInt := Int32.lt_iff_toInt_lt.mp h
theorem own_nlt {a b : Int32} (h : ¬ a < b) : b.toInt ≤ a.toInt := Int.not_lt.mp fun q => h (Int32.lt_iff_toInt_lt.mpr q)
theorem own_miss {a o : Int} {r : List (Int × Int)} {d k : Int} (h : a ≠ k) : lookupswitch.offset ((a, o) :: r) d k = lookupswitch.offset r d k := by rw [lookupswitch.offset_cons, if_neg h]
theorem own_nek {x K : Int32} {k : Int} (h : ¬ x = K) (e : K.toInt = k) : k ≠ x.toInt := fun q => h (Int32.toInt_inj.mp (q.symm.trans e.symm))
theorem own_sta_keep {Z : State} {h h' : Heap} {C n d : String} {v : Value} (F : Sta Z h C n d v) (K : Keep h h' []) : Sta Z h' C n d v := by
  obtain ⟨cf, i, k, f, st, cell, h1, h2, h3, h4, h5, r⟩ := F; exact ⟨cf, i, k, f, st, cell, h1, h2, h3, h4, K.2.1 _ _ h5 nin0, r⟩
theorem own_sta_keepE {Z : State} {h h' : Heap} {C n d D : String} {v : Value} {a : Addr} (F : Sta Z h C n d v) (K : Keep h h' [a]) (E : Exa Z h a D) : Sta Z h' C n d v := by
  obtain ⟨cf, i, k, f, st, cell, h1, h2, h3, h4, h5, h6, r⟩ := F
  obtain ⟨c2, k2, q1, -, -, q4, -⟩ := E
  refine ⟨cf, i, k, f, st, cell, h1, h2, h3, h4, K.2.1 _ _ h5 (ninS (fun z => ?_) nin0), h6, r⟩
  subst z; cases q1.symm.trans h5; rw [q4] at h6; cases h6
theorem own_arvset {Z : State} {h h' : Heap} {a : Addr} {c : Cell} {ty : FieldType} {k : ClassId} {z j : Int32} {vs : List Value} {dv v : Value} {N : Nat} (A : Arr Z h a c ty) (q1 : c.cls = k) (S : c.slots.size = z.toNatClampNeg) (q3 : ¬ z < 0) (H : Has c vs dv) (F : ∀ i, i < c.slots.size → fits ty (vs.getD i dv) = true) (hv : fits ty v = true) (W : Wr h h' a j.toNatClampNeg v) (i : Nat) (hj : j.toNatClampNeg = i) (hl : vs.length = N) (hi : i < N) :
    ∃ vs', vs'.length = N ∧ Arv Z h' a k ty z vs' dv := ⟨_, by rw [List.length_set]; exact hl, Arv.set A q1 S q3 H F hv W i hj (by rw [hl]; exact hi)⟩
end New
end Jvm.RoadKit
namespace Jvm.Pilot.@@N@@
open Jvm Jvm.ClassFile Sem Op Lib Jvm.Free Jvm.Stand Jvm.LawKit Jvm.RoadKit Bundle Jvm.Pilot.@@N@@.Jvm.D
def own_k (p : Int32) : Int32 := if p = (0 : Int32) ∨ p = (27 : Int32) then 1 else 0
def own_t (r0 r1 : Addr) (p : Int32) : Addr := if p = (0 : Int32) then r0 else r1
theorem own_k1 {p : Int32} (h : p = (0 : Int32) ∨ p = (27 : Int32)) : own_k p = 1 := if_pos h
theorem own_k0 {p : Int32} (h : ¬ (p = (0 : Int32) ∨ p = (27 : Int32))) : own_k p = 0 := if_neg h
theorem d1_0 : decode prog_131_method_5_code 0 = .ok (.iload_n 0, 1) := by decide +kernel
theorem d1_1 : decode prog_131_method_5_code 1 = .ok (.lookupswitch 31 #[(0, 27), (27, 27)], 27) := by decide +kernel
theorem d1_28 : decode prog_131_method_5_code 28 = .ok (.iconst 1, 1) := by decide +kernel
theorem d1_29 : decode prog_131_method_5_code 29 = .ok (.goto 4, 3) := by decide +kernel
theorem d1_32 : decode prog_131_method_5_code 32 = .ok (.iconst 0, 1) := by decide +kernel
theorem d1_33 : decode prog_131_method_5_code 33 = .ok (.ireturn, 1) := by decide +kernel
theorem pn_io_evenkeel_member_Reaction : plainName "io/evenkeel/member/Reaction" = true := by first | (simp [plainName, overriddenIn]; done) | decide +kernel
theorem ef_1 (m : MethodId) (p0 : Int32) : entryFrame m #[(.int p0)] 1 = mkF m 0 #[.val (.int p0)] [] := by first | (simp [entryFrame, mkF, argsToLocals, Value.category]; done) | rfl
def Q1 (p0 : Int32) (h0 : Heap) (n0 : Nat) (v : Option Value) (h : Heap) (L : List Loc) : Prop := v = some (.int (own_k p0)) ∧ Fr n0 L ∧ h = h0
set_option maxRecDepth 65536 in
set_option maxHeartbeats 40000000 in
theorem rm1 (l : Launch) (Z : State) (a0 : Array Value) (hw : ∀ d ∈ tables_1, d.before a0 Z = true) (ws : List Jvm.Cond) (p0 : Int32)  (h0 : Heap) (n0 : Nat) (Z0 : n0 ≤ h0.size)  :
    MetFree l (⟨"io/evenkeel/member/Reaction", "keepsSession", "(S)Z"⟩ : MethodName) (head1 (Jvm.Cond.code (⟨"io/evenkeel/member/Reaction", "keepsSession", "(S)Z"⟩ : MethodName) prog_131_method_5_code 1 (some .boolean) :: ws) ({ frames := 0, cells := 0, slots := 0, locals := 0 } : Room)) (fun a U => a = #[(.int p0)] ∧ Z.Warmed39 U.vm ∧ U.heap = h0) (fun _ _ _ _ _ => True) (fun _ U o U' => ∃ v L, o = .returned v ∧ Q1 p0 h0 n0 v U'.heap L ∧ FrameEnd U o U' L ({ frames := 0, cells := 0, slots := 0, locals := 0 } : Room).cells ({ frames := 0, cells := 0, slots := 0, locals := 0 } : Room).slots) := by
  refine MetFree.of_bodySF (plainFor_of_name pn_io_evenkeel_member_Reaction) hisR ?_
  intro p e s m args below meth c s₁ Bd hml0 hP hK
  obtain ⟨rfl, hZ, hh⟩ := hP
  have hx := Bd.exec
  have hby := Bd.bytes
  have hml : c.maxLocals = 1 := hml0
  have hown : s.vm.findClass "io/evenkeel/member/Reaction" = some m.cls := findClass_of_methodNamed Bd.named
  have hnm := (name_of_methodNamed Bd.named Bd.method).1
  have X0 : Stand p l e ({ frames := 0, cells := 0, slots := 0, locals := 0 } : Room) s m #[(.int p0)] below meth c s₁ [] 0 0 := Stand.of_body Bd
  have e0 : s₁.heap = h0 := by rw [← hh, Bd.state]; rfl
  have N0 := Fr.nil n0
  have pre0 : ∀ t, Steps p.tables e below (s₁.setTop (mkF m 0 #[.val (.int p0)] [])) t → Steps p.tables e below (s₁.setTop (entryFrame m #[(.int p0)] 1)) t := fun t k => castTop (ef_1 m p0) k
  have K0 := Keep.refl h0 []
  refine own_start pre0 fun G gs gl => ?_
  show G (s₁.setTop (mkF m 0 #[.val (.int p0)] []))
  refine gs (fun t k => XS.iloadN X0.here hx rfl (hb hby d1_0) rfl k) ?_
  show G (s₁.setTop (mkF m 1 #[.val (.int p0)] [(.int p0)]))
  by_cases hk1_0 : p0 = (0 : Int32)
  · refine gs (fun t k => own_lsw X0 hx rfl (pc0 := 1) (pc' := 28) rfl (hb hby d1_1) rfl (by decide) (o := 27) (by rw [hk1_0]; decide) (by decide) (by decide) k) ?_
    show G (s₁.setTop (mkF m 28 #[.val (.int p0)] []))
    refine gs (fun t k => XS.iconst X0.here hx rfl (hb hby d1_28) k) ?_
    show G (s₁.setTop (mkF m 29 #[.val (.int p0)] [(.int (1 : Int32))]))
    refine gs (fun t k => XS.goto X0.here hx rfl (pc0 := 29) (pc' := 33) rfl (hb hby d1_29) (by decide) (by decide) k) ?_
    show G (s₁.setTop (mkF m 33 #[.val (.int p0)] [(.int (1 : Int32))]))
    obtain ⟨fs, hr, hrun, hended, hW, hsame⟩ := X0.leave (v := some (.int (1 : Int32))) (fun h => by rw [Bd.returns] at h; cases h)
    refine gl _ ⟨_, _, retN X0 hx (t := .boolean) Bd.returns (by simp) (hb hby d1_33) hr, hrun, hended, _, _, rfl, ?_, ⟨_, rfl⟩, hW, hsame.mono (by decide) (by decide)⟩
    show Q1 p0 h0 n0 _ s₁.heap _
    rw [e0]
    exact ⟨congrArg (fun z => some (Value.int z)) (by simp [own_k, hk1_0]), N0, rfl⟩
  by_cases hk1_27 : p0 = (27 : Int32)
  · refine gs (fun t k => own_lsw X0 hx rfl (pc0 := 1) (pc' := 28) rfl (hb hby d1_1) rfl (by decide) (o := 27) (by rw [hk1_27]; decide) (by decide) (by decide) k) ?_
    show G (s₁.setTop (mkF m 28 #[.val (.int p0)] []))
    refine gs (fun t k => XS.iconst X0.here hx rfl (hb hby d1_28) k) ?_
    show G (s₁.setTop (mkF m 29 #[.val (.int p0)] [(.int (1 : Int32))]))
    refine gs (fun t k => XS.goto X0.here hx rfl (pc0 := 29) (pc' := 33) rfl (hb hby d1_29) (by decide) (by decide) k) ?_
    show G (s₁.setTop (mkF m 33 #[.val (.int p0)] [(.int (1 : Int32))]))
    obtain ⟨fs, hr, hrun, hended, hW, hsame⟩ := X0.leave (v := some (.int (1 : Int32))) (fun h => by rw [Bd.returns] at h; cases h)
    refine gl _ ⟨_, _, retN X0 hx (t := .boolean) Bd.returns (by simp) (hb hby d1_33) hr, hrun, hended, _, _, rfl, ?_, ⟨_, rfl⟩, hW, hsame.mono (by decide) (by decide)⟩
    show Q1 p0 h0 n0 _ s₁.heap _
    rw [e0]
    exact ⟨congrArg (fun z => some (Value.int z)) (by simp [own_k, hk1_0, hk1_27]), N0, rfl⟩
  refine gs (fun t k => own_lsw X0 hx rfl (pc0 := 1) (pc' := 32) rfl (hb hby d1_1) rfl (by decide) (o := 31) ((own_miss (own_nek hk1_0 (by decide))).trans ((own_miss (own_nek hk1_27 (by decide))).trans rfl)) (by decide) (by decide) k) ?_
  show G (s₁.setTop (mkF m 32 #[.val (.int p0)] []))
  refine gs (fun t k => XS.iconst X0.here hx rfl (hb hby d1_32) k) ?_
  show G (s₁.setTop (mkF m 33 #[.val (.int p0)] [(.int (0 : Int32))]))
  obtain ⟨fs, hr, hrun, hended, hW, hsame⟩ := X0.leave (v := some (.int (0 : Int32))) (fun h => by rw [Bd.returns] at h; cases h)
  refine gl _ ⟨_, _, retN X0 hx (t := .boolean) Bd.returns (by simp) (hb hby d1_33) hr, hrun, hended, _, _, rfl, ?_, ⟨_, rfl⟩, hW, hsame.mono (by decide) (by decide)⟩
  show Q1 p0 h0 n0 _ s₁.heap _
  rw [e0]
  exact ⟨congrArg (fun z => some (Value.int z)) (by simp [own_k, hk1_0, hk1_27]), N0, rfl⟩
theorem d2_0 : decode prog_131_method_4_code 0 = .ok (.iload_n 0, 1) := by decide +kernel
theorem d2_1 : decode prog_131_method_4_code 1 = .ok (.lookupswitch 91 #[(0, 67), (22, 73), (25, 79), (27, 73), (79, 73), (110, 79), (111, 85)], 67) := by decide +kernel
theorem d2_68 : decode prog_131_method_4_code 68 = .ok (.getstatic 3, 3) := by decide +kernel
theorem d2_71 : decode prog_131_method_4_code 71 = .ok (.goto 24, 3) := by decide +kernel
theorem d2_74 : decode prog_131_method_4_code 74 = .ok (.getstatic 7, 3) := by decide +kernel
theorem d2_77 : decode prog_131_method_4_code 77 = .ok (.goto 18, 3) := by decide +kernel
theorem d2_95 : decode prog_131_method_4_code 95 = .ok (.areturn, 1) := by decide +kernel
theorem ef_2 (m : MethodId) (p0 : Int32) : entryFrame m #[(.int p0)] 1 = mkF m 0 #[.val (.int p0)] [] := by first | (simp [entryFrame, mkF, argsToLocals, Value.category]; done) | rfl
def Q2 (p0 : Int32) (r0 r1 : Addr) (h0 : Heap) (n0 : Nat) (v : Option Value) (h : Heap) (L : List Loc) : Prop := v = some (.ref (own_t r0 r1 p0)) ∧ Fr n0 L ∧ h = h0
set_option maxRecDepth 65536 in
set_option maxHeartbeats 40000000 in
theorem rm2 (l : Launch) (Z : State) (a0 : Array Value) (hw : ∀ d ∈ tables_1, d.before a0 Z = true) (ws : List Jvm.Cond) (p0 : Int32) (r0 r1 : Addr) (h0 : Heap) (n0 : Nat) (Z0 : n0 ≤ h0.size) (S0 : Sta Z h0 "io/evenkeel/member/Reaction" "GO_ON" "Lio/evenkeel/member/Reaction;" (.ref r0)) (S1 : Sta Z h0 "io/evenkeel/member/Reaction" "JOIN_AGAIN" "Lio/evenkeel/member/Reaction;" (.ref r1)) (hp : p0 = (0 : Int32) ∨ p0 = (27 : Int32)) :
    MetFree l (⟨"io/evenkeel/member/Reaction", "to", "(S)Lio/evenkeel/member/Reaction;"⟩ : MethodName) (head1 (Jvm.Cond.code (⟨"io/evenkeel/member/Reaction", "to", "(S)Lio/evenkeel/member/Reaction;"⟩ : MethodName) prog_131_method_4_code 1 (some (.object "io/evenkeel/member/Reaction")) :: ws) ({ frames := 0, cells := 0, slots := 0, locals := 0 } : Room)) (fun a U => a = #[(.int p0)] ∧ Z.Warmed39 U.vm ∧ U.heap = h0) (fun _ _ _ _ _ => True) (fun _ U o U' => ∃ v L, o = .returned v ∧ Q2 p0 r0 r1 h0 n0 v U'.heap L ∧ FrameEnd U o U' L ({ frames := 0, cells := 0, slots := 0, locals := 0 } : Room).cells ({ frames := 0, cells := 0, slots := 0, locals := 0 } : Room).slots) := by
  refine MetFree.of_bodySF (plainFor_of_name pn_io_evenkeel_member_Reaction) hisR ?_
  intro p e s m args below meth c s₁ Bd hml0 hP hK
  obtain ⟨rfl, hZ, hh⟩ := hP
  have hx := Bd.exec
  have hby := Bd.bytes
  have hml : c.maxLocals = 1 := hml0
  have hown : s.vm.findClass "io/evenkeel/member/Reaction" = some m.cls := findClass_of_methodNamed Bd.named
  have hnm := (name_of_methodNamed Bd.named Bd.method).1
  have X0 : Stand p l e ({ frames := 0, cells := 0, slots := 0, locals := 0 } : Room) s m #[(.int p0)] below meth c s₁ [] 0 0 := Stand.of_body Bd
  have e0 : s₁.heap = h0 := by rw [← hh, Bd.state]; rfl
  have N0 := Fr.nil n0
  have pre0 : ∀ t, Steps p.tables e below (s₁.setTop (mkF m 0 #[.val (.int p0)] [])) t → Steps p.tables e below (s₁.setTop (entryFrame m #[(.int p0)] 1)) t := fun t k => castTop (ef_2 m p0) k
  have K0 := Keep.refl h0 []
  refine own_start pre0 fun G gs gl => ?_
  show G (s₁.setTop (mkF m 0 #[.val (.int p0)] []))
  refine gs (fun t k => XS.iloadN X0.here hx rfl (hb hby d2_0) rfl k) ?_
  show G (s₁.setTop (mkF m 1 #[.val (.int p0)] [(.int p0)]))
  by_cases hk1_0 : p0 = (0 : Int32)
  · refine gs (fun t k => own_lsw X0 hx rfl (pc0 := 1) (pc' := 68) rfl (hb hby d2_1) rfl (by decide) (o := 67) (by rw [hk1_0]; decide) (by decide) (by decide) k) ?_
    show G (s₁.setTop (mkF m 68 #[.val (.int p0)] []))
    obtain ⟨T1, X1, e1, st1⟩ := getS2 X0 hx hZ hown (host := "") (Or.inl (hw _ (List.mem_of_getElem? (i := 7) rfl))) Via.refl e0 S0 (g := (mkF m 68 #[.val (.int p0)] [])) rfl (hb hby d2_68)
    refine gs (fun t k => st1 _ k) ?_
    show G (T1.setTop (mkF m 71 #[.val (.int p0)] [(.ref r0)]))
    refine gs (fun t k => XS.goto X1.here hx rfl (pc0 := 71) (pc' := 95) rfl (hb hby d2_71) (by decide) (by decide) k) ?_
    show G (T1.setTop (mkF m 95 #[.val (.int p0)] [(.ref r0)]))
    obtain ⟨fs, hr, hrun, hended, hW, hsame⟩ := X1.leave (v := some (.ref r0)) (fun h => by rw [Bd.returns] at h; cases h)
    refine gl _ ⟨_, _, retOut X1 hx Bd.returns rfl (Or.inr (Or.inr (Or.inr (Or.inr ⟨rfl, rfl, rfl⟩)))) (hb hby d2_95) hr, hrun, hended, _, _, rfl, ?_, ⟨_, rfl⟩, hW, hsame.mono (by decide) (by decide)⟩
    show Q2 p0 r0 r1 h0 n0 _ T1.heap _
    rw [e1]
    exact ⟨congrArg (fun z => some (Value.ref z)) (by simp [own_t, hk1_0]), N0, rfl⟩
  by_cases hk1_27 : p0 = (27 : Int32)
  · refine gs (fun t k => own_lsw X0 hx rfl (pc0 := 1) (pc' := 74) rfl (hb hby d2_1) rfl (by decide) (o := 73) (by rw [hk1_27]; decide) (by decide) (by decide) k) ?_
    show G (s₁.setTop (mkF m 74 #[.val (.int p0)] []))
    obtain ⟨T2, X2, e2, st2⟩ := getS2 X0 hx hZ hown (host := "") (Or.inl (hw _ (List.mem_of_getElem? (i := 10) rfl))) Via.refl e0 S1 (g := (mkF m 74 #[.val (.int p0)] [])) rfl (hb hby d2_74)
    refine gs (fun t k => st2 _ k) ?_
    show G (T2.setTop (mkF m 77 #[.val (.int p0)] [(.ref r1)]))
    refine gs (fun t k => XS.goto X2.here hx rfl (pc0 := 77) (pc' := 95) rfl (hb hby d2_77) (by decide) (by decide) k) ?_
    show G (T2.setTop (mkF m 95 #[.val (.int p0)] [(.ref r1)]))
    obtain ⟨fs, hr, hrun, hended, hW, hsame⟩ := X2.leave (v := some (.ref r1)) (fun h => by rw [Bd.returns] at h; cases h)
    refine gl _ ⟨_, _, retOut X2 hx Bd.returns rfl (Or.inr (Or.inr (Or.inr (Or.inr ⟨rfl, rfl, rfl⟩)))) (hb hby d2_95) hr, hrun, hended, _, _, rfl, ?_, ⟨_, rfl⟩, hW, hsame.mono (by decide) (by decide)⟩
    show Q2 p0 r0 r1 h0 n0 _ T2.heap _
    rw [e2]
    exact ⟨congrArg (fun z => some (Value.ref z)) (by simp [own_t, hk1_0, hk1_27]), N0, rfl⟩
  exact absurd hp (by simp [hk1_0, hk1_27])
theorem pd_0 : parseMethodDescriptor "(S)Z" = some ⟨[.short], some .boolean⟩ := by decide +kernel
theorem pd_1 : parseMethodDescriptor "(S)Lio/evenkeel/member/Reaction;" = some ⟨[.short], some (.object "io/evenkeel/member/Reaction")⟩ := by decide +kernel
theorem pn_io_evenkeel_member_ReactionKeepsSessionPinLaw : plainName "io/evenkeel/member/ReactionKeepsSessionPinLaw" = true := by first | (simp [plainName, overriddenIn]; done) | decide +kernel
theorem ef_0 (m : MethodId) (p0 : Int32) (p1 : Int32) : entryFrame m #[(.int p0), (.int p1)] maxLocals = mkF m 0 #[.val (.int p0), .val (.int p1), .unset, .unset, .unset, .unset] [] := by first | (simp [entryFrame, mkF, argsToLocals, Value.category, maxLocals]; done) | rfl
def Q0 (h0 : Heap) (n0 : Nat) (v : Option Value) (h : Heap) (L : List Loc) : Prop := v = some (.int 1) ∧ Fr n0 L
set_option maxRecDepth 65536 in
set_option maxHeartbeats 40000000 in
theorem rm0 (l : Launch) (Z : State) (a0 : Array Value) (hw : ∀ d ∈ tables_1, d.before a0 Z = true) (ws : List Jvm.Cond) (p0 : Int32) (p1 : Int32) (r0 r1 : Addr) (h0 : Heap) (n0 : Nat) (Z0 : n0 ≤ h0.size) (S0 : Sta Z h0 "io/evenkeel/member/Reaction" "GO_ON" "Lio/evenkeel/member/Reaction;" (.ref r0)) (S1 : Sta Z h0 "io/evenkeel/member/Reaction" "JOIN_AGAIN" "Lio/evenkeel/member/Reaction;" (.ref r1)) :
    MetFree l x (head1 (Jvm.Cond.code x code maxLocals ret :: ws) room_1) (fun a U => a = #[(.int p0), (.int p1)] ∧ Z.Warmed39 U.vm ∧ U.heap = h0) (fun _ _ _ _ _ => True) (fun _ U o U' => ∃ v L, o = .returned v ∧ Q0 h0 n0 v U'.heap L ∧ FrameEnd U o U' L room_1.cells room_1.slots) := by
  refine MetFree.of_bodySF (plainFor_of_name pn_io_evenkeel_member_ReactionKeepsSessionPinLaw) hisR ?_
  intro p e s m args below meth c s₁ Bd hml0 hP hK
  obtain ⟨rfl, hZ, hh⟩ := hP
  have hx := Bd.exec
  have hby := Bd.bytes
  have hml : c.maxLocals = 6 := hml0
  have hown : s.vm.findClass "io/evenkeel/member/ReactionKeepsSessionPinLaw" = some m.cls := findClass_of_methodNamed Bd.named
  have hnm := (name_of_methodNamed Bd.named Bd.method).1
  have X0 : Stand p l e room_1 s m #[(.int p0), (.int p1)] below meth c s₁ [] 0 0 := Stand.of_body Bd
  have e0 : s₁.heap = h0 := by rw [← hh, Bd.state]; rfl
  have N0 := Fr.nil n0
  have pre0 : ∀ t, Steps p.tables e below (s₁.setTop (mkF m 0 #[.val (.int p0), .val (.int p1), .unset, .unset, .unset, .unset] [])) t → Steps p.tables e below (s₁.setTop (entryFrame m #[(.int p0), (.int p1)] maxLocals)) t := fun t k => castTop (ef_0 m p0 p1) k
  have K0 := Keep.refl h0 []
  refine own_start pre0 fun G gs gl => ?_
  show G (s₁.setTop (mkF m 0 #[.val (.int p0), .val (.int p1), .unset, .unset, .unset, .unset] []))
  refine gs (fun t k => XS.iloadN X0.here hx rfl (hb hby at_0) rfl k) ?_
  show G (s₁.setTop (mkF m 1 #[.val (.int p0), .val (.int p1), .unset, .unset, .unset, .unset] [(.int p1)]))
  refine gs (fun t k => XS.iconst X0.here hx rfl (hb hby at_1) k) ?_
  show G (s₁.setTop (mkF m 2 #[.val (.int p0), .val (.int p1), .unset, .unset, .unset, .unset] [(.int (1 : Int32)), (.int p1)]))
  refine gs (fun t k => XS.iand X0.here hx rfl (hb hby at_2) rfl k) ?_
  show G (s₁.setTop (mkF m 3 #[.val (.int p0), .val (.int p1), .unset, .unset, .unset, .unset] [(.int (p1 &&& (1 : Int32)))]))
  have J3 : ∀ (cc : Int32), cc = (if (p1 &&& (1 : Int32)) = (0 : Int32) then (p0.toInt16.toInt32) else ((p0 &&& (127 : Int32)).toInt16.toInt32)) → G (s₁.setTop (mkF m 18 #[.val (.int p0), .val (.int p1), .val (.int cc), .unset, .unset, .unset] [])) := by
    intro cc hcc
    refine gs (fun t k => XS.iloadN X0.here hx rfl (hb hby at_18) rfl k) ?_
    show G (s₁.setTop (mkF m 19 #[.val (.int p0), .val (.int p1), .val (.int cc), .unset, .unset, .unset] [(.int cc)]))
    obtain ⟨_, _, ⟨T1, L1, k1, n1⟩, -, X1, ⟨Lc1, hQ1, l1, y1, z1⟩, st1⟩ := Jvm.LawKit.callS X0 hx (y := (⟨"io/evenkeel/member/Reaction", "keepsSession", "(S)Z"⟩ : MethodName)) hown (mvT hZ (hw _ (List.mem_of_getElem? (i := 0) rfl))) (mvT hZ (hw _ (List.mem_of_getElem? (i := 1) rfl))) (mvT hZ (hw _ (List.mem_of_getElem? (i := 2) rfl))) (mvT hZ (hw _ (List.mem_of_getElem? (i := 3) rfl))) (by decide) (backOf (W := 0) (rm1 l Z a0 hw [] cc h0 n0 Z0) hZ (hw _ (List.mem_of_getElem? (i := 3) rfl)) (hw _ (List.mem_of_getElem? (i := 2) rfl)) (by decide) (by decide)) (g := (mkF m 19 #[.val (.int p0), .val (.int p1), .val (.int cc), .unset, .unset, .unset] [(.int cc)])) rfl (by rw [hml]; rfl) (argsL := [(.int cc)]) (rest := []) (lenOf pd_0 rfl) rfl (by show 2 * 0 + _ ≤ _; exact Nat.le_of_eq rfl) (hb hby at_19) (fun _ _ => ⟨rfl, e0, (by decide : 0 + 0 ≤ _), (by decide : 0 + 0 ≤ _)⟩)
    dsimp only [Pt.U, Pt.locs, Pt.cells, Pt.slots] at X1 l1 y1 z1 st1 hQ1
    subst y1 z1
    obtain ⟨rfl, N1q, e1⟩ := hQ1
    have N1 : Fr n0 L1 := by rw [l1]; exact Fr.app N0 N1q
    refine gs (fun t k => st1 _ k) ?_
    show G (T1.setTop (mkF m 22 #[.val (.int p0), .val (.int p1), .val (.int cc), .unset, .unset, .unset] [(.int (own_k cc))]))
    refine gs (fun t k => XS.istoreN X1.here hx rfl (hb hby at_22) rfl (l' := #[.val (.int p0), .val (.int p1), .val (.int cc), .val (.int (own_k cc)), .unset, .unset]) rfl k) ?_
    show G (T1.setTop (mkF m 23 #[.val (.int p0), .val (.int p1), .val (.int cc), .val (.int (own_k cc)), .unset, .unset] []))
    refine gs (fun t k => XS.iloadN X1.here hx rfl (hb hby at_23) rfl k) ?_
    show G (T1.setTop (mkF m 24 #[.val (.int p0), .val (.int p1), .val (.int cc), .val (.int (own_k cc)), .unset, .unset] [(.int cc)]))
    by_cases hc24 : cc = (0 : Int32)
    · refine gs (fun t k => XS.ifYes X1.here hx rfl (pc0 := 24) (pc' := 33) rfl (hb hby at_24) rfl ((if0 _ _).trans (teq hc24).1) (by decide) (by decide) k) ?_
      show G (T1.setTop (mkF m 33 #[.val (.int p0), .val (.int p1), .val (.int cc), .val (.int (own_k cc)), .unset, .unset] []))
      refine gs (fun t k => XS.iconst X1.here hx rfl (hb hby at_33) k) ?_
      show G (T1.setTop (mkF m 34 #[.val (.int p0), .val (.int p1), .val (.int cc), .val (.int (own_k cc)), .unset, .unset] [(.int (1 : Int32))]))
      refine gs (fun t k => XS.goto X1.here hx rfl (pc0 := 34) (pc' := 38) rfl (hb hby at_34) (by decide) (by decide) k) ?_
      show G (T1.setTop (mkF m 38 #[.val (.int p0), .val (.int p1), .val (.int cc), .val (.int (own_k cc)), .unset, .unset] [(.int (1 : Int32))]))
      refine gs (fun t k => XS.istore X1.here hx rfl (hb hby at_38) rfl (l' := #[.val (.int p0), .val (.int p1), .val (.int cc), .val (.int (own_k cc)), .val (.int (1 : Int32)), .unset]) rfl k) ?_
      show G (T1.setTop (mkF m 40 #[.val (.int p0), .val (.int p1), .val (.int cc), .val (.int (own_k cc)), .val (.int (1 : Int32)), .unset] []))
      refine gs (fun t k => XS.iloadN X1.here hx rfl (hb hby at_40) rfl k) ?_
      show G (T1.setTop (mkF m 41 #[.val (.int p0), .val (.int p1), .val (.int cc), .val (.int (own_k cc)), .val (.int (1 : Int32)), .unset] [(.int (own_k cc))]))
      refine gs (fun t k => XS.iload X1.here hx rfl (hb hby at_41) rfl k) ?_
      show G (T1.setTop (mkF m 43 #[.val (.int p0), .val (.int p1), .val (.int cc), .val (.int (own_k cc)), .val (.int (1 : Int32)), .unset] [(.int (1 : Int32)), (.int (own_k cc))]))
      refine gs (fun t k => XS.icmpYes X1.here hx rfl (pc0 := 43) (pc' := 48) rfl (hb hby at_43) rfl (teq (own_k1 (Or.inl hc24))).1 (by decide) (by decide) k) ?_
      show G (T1.setTop (mkF m 48 #[.val (.int p0), .val (.int p1), .val (.int cc), .val (.int (own_k cc)), .val (.int (1 : Int32)), .unset] []))
      refine gs (fun t k => XS.iloadN X1.here hx rfl (hb hby at_48) rfl k) ?_
      show G (T1.setTop (mkF m 49 #[.val (.int p0), .val (.int p1), .val (.int cc), .val (.int (own_k cc)), .val (.int (1 : Int32)), .unset] [(.int (own_k cc))]))
      refine gs (fun t k => XS.ifNo X1.here hx rfl (hb hby at_49) rfl ((if0 _ _).trans (feq (by rw [own_k1 (Or.inl hc24)]; decide)).1) k) ?_
      show G (T1.setTop (mkF m 52 #[.val (.int p0), .val (.int p1), .val (.int cc), .val (.int (own_k cc)), .val (.int (1 : Int32)), .unset] []))
      refine gs (fun t k => XS.iloadN X1.here hx rfl (hb hby at_52) rfl k) ?_
      show G (T1.setTop (mkF m 53 #[.val (.int p0), .val (.int p1), .val (.int cc), .val (.int (own_k cc)), .val (.int (1 : Int32)), .unset] [(.int cc)]))
      obtain ⟨_, _, ⟨T2, L2, k2, n2⟩, -, X2, ⟨Lc2, hQ2, l2, y2, z2⟩, st2⟩ := Jvm.LawKit.callS X1 hx (y := (⟨"io/evenkeel/member/Reaction", "to", "(S)Lio/evenkeel/member/Reaction;"⟩ : MethodName)) hown (mvT hZ (hw _ (List.mem_of_getElem? (i := 4) rfl))) (mvT hZ (hw _ (List.mem_of_getElem? (i := 5) rfl))) (mvT hZ (hw _ (List.mem_of_getElem? (i := 2) rfl))) (mvT hZ (hw _ (List.mem_of_getElem? (i := 6) rfl))) (by decide) (backOf (W := 0) (rm2 l Z a0 hw [] cc r0 r1 h0 n0 Z0 S0 S1 (Or.inl hc24)) hZ (hw _ (List.mem_of_getElem? (i := 6) rfl)) (hw _ (List.mem_of_getElem? (i := 2) rfl)) (by decide) (by decide)) (g := (mkF m 53 #[.val (.int p0), .val (.int p1), .val (.int cc), .val (.int (own_k cc)), .val (.int (1 : Int32)), .unset] [(.int cc)])) rfl (by rw [hml]; rfl) (argsL := [(.int cc)]) (rest := []) (lenOf pd_1 rfl) rfl (by show 2 * 0 + _ ≤ _; exact Nat.le_of_eq rfl) (hb hby at_53) (fun _ _ => ⟨rfl, e1, (by decide : 0 + 0 ≤ _), (by decide : 0 + 0 ≤ _)⟩)
      dsimp only [Pt.U, Pt.locs, Pt.cells, Pt.slots] at X2 l2 y2 z2 st2 hQ2
      subst y2 z2
      obtain ⟨rfl, N2q, e2⟩ := hQ2
      have N2 : Fr n0 L2 := by rw [l2]; exact Fr.app N1 N2q
      refine gs (fun t k => st2 _ k) ?_
      show G (T2.setTop (mkF m 56 #[.val (.int p0), .val (.int p1), .val (.int cc), .val (.int (own_k cc)), .val (.int (1 : Int32)), .unset] [(.ref (own_t r0 r1 cc))]))
      refine gs (fun t k => XS.astore X2.here hx rfl (hb hby at_56) rfl rfl (l' := #[.val (.int p0), .val (.int p1), .val (.int cc), .val (.int (own_k cc)), .val (.int (1 : Int32)), .val (.ref (own_t r0 r1 cc))]) rfl k) ?_
      show G (T2.setTop (mkF m 58 #[.val (.int p0), .val (.int p1), .val (.int cc), .val (.int (own_k cc)), .val (.int (1 : Int32)), .val (.ref (own_t r0 r1 cc))] []))
      refine gs (fun t k => XS.aload X2.here hx rfl (hb hby at_58) rfl rfl k) ?_
      show G (T2.setTop (mkF m 60 #[.val (.int p0), .val (.int p1), .val (.int cc), .val (.int (own_k cc)), .val (.int (1 : Int32)), .val (.ref (own_t r0 r1 cc))] [(.ref (own_t r0 r1 cc))]))
      obtain ⟨T3, X3, e3, st3⟩ := getS2 X2 hx hZ hown (host := "") (Or.inl (hw _ (List.mem_of_getElem? (i := 9) rfl))) Via.refl e2 S0 (g := (mkF m 60 #[.val (.int p0), .val (.int p1), .val (.int cc), .val (.int (own_k cc)), .val (.int (1 : Int32)), .val (.ref (own_t r0 r1 cc))] [(.ref (own_t r0 r1 cc))])) rfl (hb hby at_60)
      refine gs (fun t k => st3 _ k) ?_
      show G (T3.setTop (mkF m 63 #[.val (.int p0), .val (.int p1), .val (.int cc), .val (.int (own_k cc)), .val (.int (1 : Int32)), .val (.ref (own_t r0 r1 cc))] [(.ref r0), (.ref (own_t r0 r1 cc))]))
      refine gs (fun t k => Jvm.RoadKit.acmp (g := (mkF m 63 #[.val (.int p0), .val (.int p1), .val (.int cc), .val (.int (own_k cc)), .val (.int (1 : Int32)), .val (.ref (own_t r0 r1 cc))] [(.ref r0), (.ref (own_t r0 r1 cc))])) X3 hx rfl rfl rfl (pc0 := 63) (pc' := 76) (same := true) rfl (hb hby at_63) rfl (decide_eq_true (congrArg Value.ref (if_pos hc24))) (by decide) (by decide) k) ?_
      show G (T3.setTop (mkF m 76 #[.val (.int p0), .val (.int p1), .val (.int cc), .val (.int (own_k cc)), .val (.int (1 : Int32)), .val (.ref (own_t r0 r1 cc))] []))
      refine gs (fun t k => XS.iconst X3.here hx rfl (hb hby at_76) k) ?_
      show G (T3.setTop (mkF m 77 #[.val (.int p0), .val (.int p1), .val (.int cc), .val (.int (own_k cc)), .val (.int (1 : Int32)), .val (.ref (own_t r0 r1 cc))] [(.int (1 : Int32))]))
      obtain ⟨fs, hr, hrun, hended, hW, hsame⟩ := X3.leave (v := some (.int (1 : Int32))) (fun h => by rw [Bd.returns] at h; cases h)
      refine gl _ ⟨_, _, retN X3 hx (t := .boolean) Bd.returns (by simp) (hb hby at_77) hr, hrun, hended, _, _, rfl, ?_, ⟨_, rfl⟩, hW, hsame.mono (by decide) (by decide)⟩
      show Q0 h0 n0 _ T3.heap _
      rw [e3]
      exact ⟨rfl, N2⟩
    · refine gs (fun t k => XS.ifNo X1.here hx rfl (hb hby at_24) rfl ((if0 _ _).trans (feq hc24).1) k) ?_
      show G (T1.setTop (mkF m 27 #[.val (.int p0), .val (.int p1), .val (.int cc), .val (.int (own_k cc)), .unset, .unset] []))
      refine gs (fun t k => XS.iloadN X1.here hx rfl (hb hby at_27) rfl k) ?_
      show G (T1.setTop (mkF m 28 #[.val (.int p0), .val (.int p1), .val (.int cc), .val (.int (own_k cc)), .unset, .unset] [(.int cc)]))
      refine gs (fun t k => XS.bipush X1.here hx rfl (hb hby at_28) k) ?_
      show G (T1.setTop (mkF m 30 #[.val (.int p0), .val (.int p1), .val (.int cc), .val (.int (own_k cc)), .unset, .unset] [(.int (27 : Int32)), (.int cc)]))
      by_cases hc30 : cc = (27 : Int32)
      · refine gs (fun t k => XS.icmpNo X1.here hx rfl (hb hby at_30) rfl (teq hc30).2 k) ?_
        show G (T1.setTop (mkF m 33 #[.val (.int p0), .val (.int p1), .val (.int cc), .val (.int (own_k cc)), .unset, .unset] []))
        refine gs (fun t k => XS.iconst X1.here hx rfl (hb hby at_33) k) ?_
        show G (T1.setTop (mkF m 34 #[.val (.int p0), .val (.int p1), .val (.int cc), .val (.int (own_k cc)), .unset, .unset] [(.int (1 : Int32))]))
        refine gs (fun t k => XS.goto X1.here hx rfl (pc0 := 34) (pc' := 38) rfl (hb hby at_34) (by decide) (by decide) k) ?_
        show G (T1.setTop (mkF m 38 #[.val (.int p0), .val (.int p1), .val (.int cc), .val (.int (own_k cc)), .unset, .unset] [(.int (1 : Int32))]))
        refine gs (fun t k => XS.istore X1.here hx rfl (hb hby at_38) rfl (l' := #[.val (.int p0), .val (.int p1), .val (.int cc), .val (.int (own_k cc)), .val (.int (1 : Int32)), .unset]) rfl k) ?_
        show G (T1.setTop (mkF m 40 #[.val (.int p0), .val (.int p1), .val (.int cc), .val (.int (own_k cc)), .val (.int (1 : Int32)), .unset] []))
        refine gs (fun t k => XS.iloadN X1.here hx rfl (hb hby at_40) rfl k) ?_
        show G (T1.setTop (mkF m 41 #[.val (.int p0), .val (.int p1), .val (.int cc), .val (.int (own_k cc)), .val (.int (1 : Int32)), .unset] [(.int (own_k cc))]))
        refine gs (fun t k => XS.iload X1.here hx rfl (hb hby at_41) rfl k) ?_
        show G (T1.setTop (mkF m 43 #[.val (.int p0), .val (.int p1), .val (.int cc), .val (.int (own_k cc)), .val (.int (1 : Int32)), .unset] [(.int (1 : Int32)), (.int (own_k cc))]))
        refine gs (fun t k => XS.icmpYes X1.here hx rfl (pc0 := 43) (pc' := 48) rfl (hb hby at_43) rfl (teq (own_k1 (Or.inr hc30))).1 (by decide) (by decide) k) ?_
        show G (T1.setTop (mkF m 48 #[.val (.int p0), .val (.int p1), .val (.int cc), .val (.int (own_k cc)), .val (.int (1 : Int32)), .unset] []))
        refine gs (fun t k => XS.iloadN X1.here hx rfl (hb hby at_48) rfl k) ?_
        show G (T1.setTop (mkF m 49 #[.val (.int p0), .val (.int p1), .val (.int cc), .val (.int (own_k cc)), .val (.int (1 : Int32)), .unset] [(.int (own_k cc))]))
        refine gs (fun t k => XS.ifNo X1.here hx rfl (hb hby at_49) rfl ((if0 _ _).trans (feq (by rw [own_k1 (Or.inr hc30)]; decide)).1) k) ?_
        show G (T1.setTop (mkF m 52 #[.val (.int p0), .val (.int p1), .val (.int cc), .val (.int (own_k cc)), .val (.int (1 : Int32)), .unset] []))
        refine gs (fun t k => XS.iloadN X1.here hx rfl (hb hby at_52) rfl k) ?_
        show G (T1.setTop (mkF m 53 #[.val (.int p0), .val (.int p1), .val (.int cc), .val (.int (own_k cc)), .val (.int (1 : Int32)), .unset] [(.int cc)]))
        obtain ⟨_, _, ⟨T4, L4, k4, n4⟩, -, X4, ⟨Lc4, hQ4, l4, y4, z4⟩, st4⟩ := Jvm.LawKit.callS X1 hx (y := (⟨"io/evenkeel/member/Reaction", "to", "(S)Lio/evenkeel/member/Reaction;"⟩ : MethodName)) hown (mvT hZ (hw _ (List.mem_of_getElem? (i := 4) rfl))) (mvT hZ (hw _ (List.mem_of_getElem? (i := 5) rfl))) (mvT hZ (hw _ (List.mem_of_getElem? (i := 2) rfl))) (mvT hZ (hw _ (List.mem_of_getElem? (i := 6) rfl))) (by decide) (backOf (W := 0) (rm2 l Z a0 hw [] cc r0 r1 h0 n0 Z0 S0 S1 (Or.inr hc30)) hZ (hw _ (List.mem_of_getElem? (i := 6) rfl)) (hw _ (List.mem_of_getElem? (i := 2) rfl)) (by decide) (by decide)) (g := (mkF m 53 #[.val (.int p0), .val (.int p1), .val (.int cc), .val (.int (own_k cc)), .val (.int (1 : Int32)), .unset] [(.int cc)])) rfl (by rw [hml]; rfl) (argsL := [(.int cc)]) (rest := []) (lenOf pd_1 rfl) rfl (by show 2 * 0 + _ ≤ _; exact Nat.le_of_eq rfl) (hb hby at_53) (fun _ _ => ⟨rfl, e1, (by decide : 0 + 0 ≤ _), (by decide : 0 + 0 ≤ _)⟩)
        dsimp only [Pt.U, Pt.locs, Pt.cells, Pt.slots] at X4 l4 y4 z4 st4 hQ4
        subst y4 z4
        obtain ⟨rfl, N4q, e4⟩ := hQ4
        have N4 : Fr n0 L4 := by rw [l4]; exact Fr.app N1 N4q
        refine gs (fun t k => st4 _ k) ?_
        show G (T4.setTop (mkF m 56 #[.val (.int p0), .val (.int p1), .val (.int cc), .val (.int (own_k cc)), .val (.int (1 : Int32)), .unset] [(.ref (own_t r0 r1 cc))]))
        refine gs (fun t k => XS.astore X4.here hx rfl (hb hby at_56) rfl rfl (l' := #[.val (.int p0), .val (.int p1), .val (.int cc), .val (.int (own_k cc)), .val (.int (1 : Int32)), .val (.ref (own_t r0 r1 cc))]) rfl k) ?_
        show G (T4.setTop (mkF m 58 #[.val (.int p0), .val (.int p1), .val (.int cc), .val (.int (own_k cc)), .val (.int (1 : Int32)), .val (.ref (own_t r0 r1 cc))] []))
        refine gs (fun t k => XS.aload X4.here hx rfl (hb hby at_58) rfl rfl k) ?_
        show G (T4.setTop (mkF m 60 #[.val (.int p0), .val (.int p1), .val (.int cc), .val (.int (own_k cc)), .val (.int (1 : Int32)), .val (.ref (own_t r0 r1 cc))] [(.ref (own_t r0 r1 cc))]))
        obtain ⟨T5, X5, e5, st5⟩ := getS2 X4 hx hZ hown (host := "") (Or.inl (hw _ (List.mem_of_getElem? (i := 9) rfl))) Via.refl e4 S0 (g := (mkF m 60 #[.val (.int p0), .val (.int p1), .val (.int cc), .val (.int (own_k cc)), .val (.int (1 : Int32)), .val (.ref (own_t r0 r1 cc))] [(.ref (own_t r0 r1 cc))])) rfl (hb hby at_60)
        refine gs (fun t k => st5 _ k) ?_
        show G (T5.setTop (mkF m 63 #[.val (.int p0), .val (.int p1), .val (.int cc), .val (.int (own_k cc)), .val (.int (1 : Int32)), .val (.ref (own_t r0 r1 cc))] [(.ref r0), (.ref (own_t r0 r1 cc))]))
        by_cases ha63 : (own_t r0 r1 cc) = r0
        · refine gs (fun t k => Jvm.RoadKit.acmp (g := (mkF m 63 #[.val (.int p0), .val (.int p1), .val (.int cc), .val (.int (own_k cc)), .val (.int (1 : Int32)), .val (.ref (own_t r0 r1 cc))] [(.ref r0), (.ref (own_t r0 r1 cc))])) X5 hx rfl rfl rfl (pc0 := 63) (pc' := 76) (same := true) rfl (hb hby at_63) rfl (decide_eq_true (congrArg Value.ref ha63)) (by decide) (by decide) k) ?_
          show G (T5.setTop (mkF m 76 #[.val (.int p0), .val (.int p1), .val (.int cc), .val (.int (own_k cc)), .val (.int (1 : Int32)), .val (.ref (own_t r0 r1 cc))] []))
          refine gs (fun t k => XS.iconst X5.here hx rfl (hb hby at_76) k) ?_
          show G (T5.setTop (mkF m 77 #[.val (.int p0), .val (.int p1), .val (.int cc), .val (.int (own_k cc)), .val (.int (1 : Int32)), .val (.ref (own_t r0 r1 cc))] [(.int (1 : Int32))]))
          obtain ⟨fs, hr, hrun, hended, hW, hsame⟩ := X5.leave (v := some (.int (1 : Int32))) (fun h => by rw [Bd.returns] at h; cases h)
          refine gl _ ⟨_, _, retN X5 hx (t := .boolean) Bd.returns (by simp) (hb hby at_77) hr, hrun, hended, _, _, rfl, ?_, ⟨_, rfl⟩, hW, hsame.mono (by decide) (by decide)⟩
          show Q0 h0 n0 _ T5.heap _
          rw [e5]
          exact ⟨rfl, N4⟩
        · refine gs (fun t k => Jvm.RoadKit.acmp (g := (mkF m 63 #[.val (.int p0), .val (.int p1), .val (.int cc), .val (.int (own_k cc)), .val (.int (1 : Int32)), .val (.ref (own_t r0 r1 cc))] [(.ref r0), (.ref (own_t r0 r1 cc))])) X5 hx rfl rfl rfl (pc0 := 63) (pc' := 66) (same := false) rfl (hb hby at_63) rfl (decide_eq_false fun q => ha63 (Value.ref.inj q)) (by decide) (by decide) k) ?_
          show G (T5.setTop (mkF m 66 #[.val (.int p0), .val (.int p1), .val (.int cc), .val (.int (own_k cc)), .val (.int (1 : Int32)), .val (.ref (own_t r0 r1 cc))] []))
          refine gs (fun t k => XS.aload X5.here hx rfl (hb hby at_66) rfl rfl k) ?_
          show G (T5.setTop (mkF m 68 #[.val (.int p0), .val (.int p1), .val (.int cc), .val (.int (own_k cc)), .val (.int (1 : Int32)), .val (.ref (own_t r0 r1 cc))] [(.ref (own_t r0 r1 cc))]))
          obtain ⟨T6, X6, e6, st6⟩ := getS2 X5 hx hZ hown (host := "") (Or.inl (hw _ (List.mem_of_getElem? (i := 12) rfl))) Via.refl e5 S1 (g := (mkF m 68 #[.val (.int p0), .val (.int p1), .val (.int cc), .val (.int (own_k cc)), .val (.int (1 : Int32)), .val (.ref (own_t r0 r1 cc))] [(.ref (own_t r0 r1 cc))])) rfl (hb hby at_68)
          refine gs (fun t k => st6 _ k) ?_
          show G (T6.setTop (mkF m 71 #[.val (.int p0), .val (.int p1), .val (.int cc), .val (.int (own_k cc)), .val (.int (1 : Int32)), .val (.ref (own_t r0 r1 cc))] [(.ref r1), (.ref (own_t r0 r1 cc))]))
          refine gs (fun t k => Jvm.RoadKit.acmp (g := (mkF m 71 #[.val (.int p0), .val (.int p1), .val (.int cc), .val (.int (own_k cc)), .val (.int (1 : Int32)), .val (.ref (own_t r0 r1 cc))] [(.ref r1), (.ref (own_t r0 r1 cc))])) X6 hx rfl rfl rfl (pc0 := 71) (pc' := 76) (same := true) rfl (hb hby at_71) rfl (decide_eq_true (congrArg Value.ref (if_neg (by rw [hc30]; decide)))) (by decide) (by decide) k) ?_
          show G (T6.setTop (mkF m 76 #[.val (.int p0), .val (.int p1), .val (.int cc), .val (.int (own_k cc)), .val (.int (1 : Int32)), .val (.ref (own_t r0 r1 cc))] []))
          refine gs (fun t k => XS.iconst X6.here hx rfl (hb hby at_76) k) ?_
          show G (T6.setTop (mkF m 77 #[.val (.int p0), .val (.int p1), .val (.int cc), .val (.int (own_k cc)), .val (.int (1 : Int32)), .val (.ref (own_t r0 r1 cc))] [(.int (1 : Int32))]))
          obtain ⟨fs, hr, hrun, hended, hW, hsame⟩ := X6.leave (v := some (.int (1 : Int32))) (fun h => by rw [Bd.returns] at h; cases h)
          refine gl _ ⟨_, _, retN X6 hx (t := .boolean) Bd.returns (by simp) (hb hby at_77) hr, hrun, hended, _, _, rfl, ?_, ⟨_, rfl⟩, hW, hsame.mono (by decide) (by decide)⟩
          show Q0 h0 n0 _ T6.heap _
          rw [e6]
          exact ⟨rfl, N4⟩
      · refine gs (fun t k => XS.icmpYes X1.here hx rfl (pc0 := 30) (pc' := 37) rfl (hb hby at_30) rfl (feq hc30).2 (by decide) (by decide) k) ?_
        show G (T1.setTop (mkF m 37 #[.val (.int p0), .val (.int p1), .val (.int cc), .val (.int (own_k cc)), .unset, .unset] []))
        refine gs (fun t k => XS.iconst X1.here hx rfl (hb hby at_37) k) ?_
        show G (T1.setTop (mkF m 38 #[.val (.int p0), .val (.int p1), .val (.int cc), .val (.int (own_k cc)), .unset, .unset] [(.int (0 : Int32))]))
        refine gs (fun t k => XS.istore X1.here hx rfl (hb hby at_38) rfl (l' := #[.val (.int p0), .val (.int p1), .val (.int cc), .val (.int (own_k cc)), .val (.int (0 : Int32)), .unset]) rfl k) ?_
        show G (T1.setTop (mkF m 40 #[.val (.int p0), .val (.int p1), .val (.int cc), .val (.int (own_k cc)), .val (.int (0 : Int32)), .unset] []))
        refine gs (fun t k => XS.iloadN X1.here hx rfl (hb hby at_40) rfl k) ?_
        show G (T1.setTop (mkF m 41 #[.val (.int p0), .val (.int p1), .val (.int cc), .val (.int (own_k cc)), .val (.int (0 : Int32)), .unset] [(.int (own_k cc))]))
        refine gs (fun t k => XS.iload X1.here hx rfl (hb hby at_41) rfl k) ?_
        show G (T1.setTop (mkF m 43 #[.val (.int p0), .val (.int p1), .val (.int cc), .val (.int (own_k cc)), .val (.int (0 : Int32)), .unset] [(.int (0 : Int32)), (.int (own_k cc))]))
        refine gs (fun t k => XS.icmpYes X1.here hx rfl (pc0 := 43) (pc' := 48) rfl (hb hby at_43) rfl (teq (own_k0 (by simp [hc24, hc30]))).1 (by decide) (by decide) k) ?_
        show G (T1.setTop (mkF m 48 #[.val (.int p0), .val (.int p1), .val (.int cc), .val (.int (own_k cc)), .val (.int (0 : Int32)), .unset] []))
        refine gs (fun t k => XS.iloadN X1.here hx rfl (hb hby at_48) rfl k) ?_
        show G (T1.setTop (mkF m 49 #[.val (.int p0), .val (.int p1), .val (.int cc), .val (.int (own_k cc)), .val (.int (0 : Int32)), .unset] [(.int (own_k cc))]))
        refine gs (fun t k => XS.ifYes X1.here hx rfl (pc0 := 49) (pc' := 76) rfl (hb hby at_49) rfl ((if0 _ _).trans (teq (own_k0 (by simp [hc24, hc30]))).1) (by decide) (by decide) k) ?_
        show G (T1.setTop (mkF m 76 #[.val (.int p0), .val (.int p1), .val (.int cc), .val (.int (own_k cc)), .val (.int (0 : Int32)), .unset] []))
        refine gs (fun t k => XS.iconst X1.here hx rfl (hb hby at_76) k) ?_
        show G (T1.setTop (mkF m 77 #[.val (.int p0), .val (.int p1), .val (.int cc), .val (.int (own_k cc)), .val (.int (0 : Int32)), .unset] [(.int (1 : Int32))]))
        obtain ⟨fs, hr, hrun, hended, hW, hsame⟩ := X1.leave (v := some (.int (1 : Int32))) (fun h => by rw [Bd.returns] at h; cases h)
        refine gl _ ⟨_, _, retN X1 hx (t := .boolean) Bd.returns (by simp) (hb hby at_77) hr, hrun, hended, _, _, rfl, ?_, ⟨_, rfl⟩, hW, hsame.mono (by decide) (by decide)⟩
        show Q0 h0 n0 _ T1.heap _
        rw [e1]
        exact ⟨rfl, N1⟩
  by_cases hc3 : (p1 &&& (1 : Int32)) = (0 : Int32)
  · refine gs (fun t k => XS.ifYes X0.here hx rfl (pc0 := 3) (pc' := 15) rfl (hb hby at_3) rfl ((if0 _ _).trans (teq hc3).1) (by decide) (by decide) k) ?_
    show G (s₁.setTop (mkF m 15 #[.val (.int p0), .val (.int p1), .unset, .unset, .unset, .unset] []))
    refine gs (fun t k => XS.iloadN X0.here hx rfl (hb hby at_15) rfl k) ?_
    show G (s₁.setTop (mkF m 16 #[.val (.int p0), .val (.int p1), .unset, .unset, .unset, .unset] [(.int p0)]))
    refine gs (fun t k => XS.i2s X0.here hx rfl (hb hby at_16) rfl k) ?_
    show G (s₁.setTop (mkF m 17 #[.val (.int p0), .val (.int p1), .unset, .unset, .unset, .unset] [(.int (p0.toInt16.toInt32))]))
    refine gs (fun t k => XS.istoreN X0.here hx rfl (hb hby at_17) rfl (l' := #[.val (.int p0), .val (.int p1), .val (.int (p0.toInt16.toInt32)), .unset, .unset, .unset]) rfl k) ?_
    show G (s₁.setTop (mkF m 18 #[.val (.int p0), .val (.int p1), .val (.int (p0.toInt16.toInt32)), .unset, .unset, .unset] []))
    exact J3 _ (if_pos hc3).symm
  · refine gs (fun t k => XS.ifNo X0.here hx rfl (hb hby at_3) rfl ((if0 _ _).trans (feq hc3).1) k) ?_
    show G (s₁.setTop (mkF m 6 #[.val (.int p0), .val (.int p1), .unset, .unset, .unset, .unset] []))
    refine gs (fun t k => XS.iloadN X0.here hx rfl (hb hby at_6) rfl k) ?_
    show G (s₁.setTop (mkF m 7 #[.val (.int p0), .val (.int p1), .unset, .unset, .unset, .unset] [(.int p0)]))
    refine gs (fun t k => XS.bipush X0.here hx rfl (hb hby at_7) k) ?_
    show G (s₁.setTop (mkF m 9 #[.val (.int p0), .val (.int p1), .unset, .unset, .unset, .unset] [(.int (127 : Int32)), (.int p0)]))
    refine gs (fun t k => XS.iand X0.here hx rfl (hb hby at_9) rfl k) ?_
    show G (s₁.setTop (mkF m 10 #[.val (.int p0), .val (.int p1), .unset, .unset, .unset, .unset] [(.int (p0 &&& (127 : Int32)))]))
    refine gs (fun t k => XS.i2s X0.here hx rfl (hb hby at_10) rfl k) ?_
    show G (s₁.setTop (mkF m 11 #[.val (.int p0), .val (.int p1), .unset, .unset, .unset, .unset] [(.int ((p0 &&& (127 : Int32)).toInt16.toInt32))]))
    refine gs (fun t k => XS.istoreN X0.here hx rfl (hb hby at_11) rfl (l' := #[.val (.int p0), .val (.int p1), .val (.int ((p0 &&& (127 : Int32)).toInt16.toInt32)), .unset, .unset, .unset]) rfl k) ?_
    show G (s₁.setTop (mkF m 12 #[.val (.int p0), .val (.int p1), .val (.int ((p0 &&& (127 : Int32)).toInt16.toInt32)), .unset, .unset, .unset] []))
    refine gs (fun t k => XS.goto X0.here hx rfl (pc0 := 12) (pc' := 18) rfl (hb hby at_12) (by decide) (by decide) k) ?_
    show G (s₁.setTop (mkF m 18 #[.val (.int p0), .val (.int p1), .val (.int ((p0 &&& (127 : Int32)).toInt16.toInt32)), .unset, .unset, .unset] []))
    exact J3 _ (if_neg hc3).symm
set_option maxRecDepth 65536 in
set_option maxHeartbeats 40000000 in
theorem comes_1 {Post : Tables → Env → Array Value → State → Outcome → State → Prop} (hpost : ∀ tb e args s v u, (limb_1_1.after args s (.returned v) u = true ∧ limb_1_2.after args s (.returned v) u = true ∧ True) → FrameEnd s (.returned v) u (Jvm.fieldLocs frame_1_writes args s ++ Jvm.arrayLocs frame_1_arrays args s ++ Jvm.staticLocs frame_1_statics s) 0 0 → Post tb e args s (.returned v) u) :
    ArmFor flags0 classFile x code maxLocals ret World_1 tables_1 room_1 Calls_1 rest_1 Pre_1 Post := by
  intro l hfl _ _ p e ha hc hk s m args below hf hA hF happ hP
  obtain ⟨hcalls, hrest, hpre⟩ := hP
  obtain ⟨-, -, -, hnamed, -, -, -, hat⟩ := (Spec.applies_iff hf).mp happ
  obtain ⟨hg, hn⟩ := and_e (Cond.before_iff.mp (show (Jvm.Cond.and given_1 narrow_1).before args s = true from hpre))
  obtain ⟨hg0, hg1⟩ := and_e hg
  obtain ⟨hv0, ht0⟩ := and_e hg1
  have hv1 := ht0
  obtain ⟨w0, w1, rfl⟩ : ∃ w0 w1 : Value, args = #[w0, w1] := by
    have hs : args.size = 2 := by simpa [Cond.value, given_1] using hg0
    obtain ⟨L⟩ := args
    match L, hs with
    | [w0, w1], _ => exact ⟨w0, w1, rfl⟩
  have hw := fun d (hd : d ∈ tables_1) => atoms_spec (ws := Jvm.Cond.code x code maxLocals ret :: tables_1) hat d (List.mem_cons_of_mem _ hd)
  have hfit : Fit s := fun {y c} hc i hi => by
    obtain ⟨ha, rfl⟩ := Array.getElem?_eq_some_iff.mp hc
    have q := List.all_eq_true.mp ((Array.all_eq_true_iff_forall_mem.mp hF) _ (Array.getElem_mem ha)) i (List.mem_range.mpr hi)
    simpa [Array.getElem?_eq_getElem hi] using q
  obtain ⟨i0, ei0⟩ := is_v hv0
  obtain rfl : w0 = (.int i0) := Option.some.inj ei0
  obtain ⟨i1, ei1⟩ := is_v hv1
  obtain rfl : w1 = (.int i1) := Option.some.inj ei1
  obtain ⟨hn0, hn1⟩ := and_e hn
  obtain ⟨hn2, hn3⟩ := and_e hn1
  obtain ⟨r0, ev0⟩ := exa_v hn0
  obtain ⟨r1, ev1⟩ := exa_v hn2
  have S0 := Sta.start ev0 (Or.inr ⟨(hw _ (List.mem_of_getElem? (i := 2) rfl)), (hw _ (List.mem_of_getElem? (i := 8) rfl))⟩)
  have S1 := Sta.start ev1 (Or.inr ⟨(hw _ (List.mem_of_getElem? (i := 2) rfl)), (hw _ (List.mem_of_getElem? (i := 11) rfl))⟩)
  obtain ⟨n, o, h1, h2, h3, _, L, rfl, ⟨rfl, N⟩, hq⟩ := rm0 l s _ hw tables_1 i0 i1 r0 r1 s.heap s.heap.size (Nat.le_refl _) S0 S1 p e ha hc hk s m _ below hf ((Spec.applies_iff_loose hf).mp happ).1 ⟨rfl, State.Warmed39.refl s, rfl⟩ trivial
  refine ⟨n, _, h1, h2, h3, hpost _ _ _ _ _ _ ⟨Cond.after_iff.mpr rfl, Cond.after_iff.mpr (eq_i res_at (Term.int_eval (1)) rfl), trivial⟩ ⟨hq.1, hq.2.1, (hq.2.2.sift fun y hy => Or.inr (N y hy)).mono (by decide) (by decide)⟩⟩
theorem main_1_1 : Claimed_1_1 := comes_1 fun _ _ _ _ _ _ h hF => ⟨h.1, hF⟩
theorem main_1_2 : Claimed_1_2 := comes_1 fun _ _ _ _ _ _ h hF => ⟨h.2.1, hF⟩
end Jvm.Pilot.@@N@@
namespace Jvm.Pilot.@@N@@
open Jvm Jvm.ClassFile Sem Op Lib Jvm.Free Jvm.Stand Jvm.Pilot.@@N@@.Jvm.D
/-! MADE BY PROGRAM (witnessworld.py) out of the Statement's table words and the real class files: 12 classes; the members and pool entries that the words name. The judged class is class 1, her method 1. -/
namespace start1
open Jvm.ClassFile
def u (s : String) : CpInfo := .utf8 (stringToUtf16 s)
/-- a pool by its gaps: so many unusable entries, then the entry; so many at the end -/
def gap : Nat → List CpInfo → List CpInfo
  | 0, r => r
  | n + 1, r => .unusable :: gap n r
def poolList (es : List (Nat × CpInfo)) (last : Nat) : List CpInfo := es.foldr (fun e r => gap e.1 (e.2 :: r)) (gap last [])
def pool (es : List (Nat × CpInfo)) (last : Nat) : Array CpInfo := ⟨poolList es last⟩
def fileOf (pool : Array CpInfo) (this : Nat) (attrs : Array Attribute := #[]) (ms : Array MethodInfo := #[]) (fl : Nat := 33) (sup : Nat := 0) (ifs : Array Nat := #[]) (fds : Array FieldInfo := #[]) : ClassFile where
  minorVersion := 0
  majorVersion := 65
  constantPool := pool
  accessFlags := fl
  thisClass := this
  superClass := sup
  interfaces := ifs
  fields := fds
  methods := ms
  attributes := attrs
def plain (name : String) (sup : Option ClassId) : Class where
  name := name
  kind := .ordinary
  loader := none
  accessFlags := 33
  super := sup
  interfaces := #[]
  cf := none
  fields := #[]
  methods := #[]
  instanceTypes := #[]
  staticTypes := #[]
  resolved := #[]
  callSites := []
  init := .initialized
  statics := none
  mirror := none

def pool0 : Array CpInfo := pool [(5, u "<init>"), (0, u "()V"), (1, .class_ 10), (1, u "java/lang/Object")] 113

def k0m0 : Method := { name := "<init>", desc := "()V", sig := { parameters := [], returnType := none }, accessFlags := 1, code := none }
/-- java/lang/Object -/
def k0 : Class := { plain "java/lang/Object" none with
  accessFlags := 33
  interfaces := #[]
  cf := some (fileOf pool0 8 #[] #[{ accessFlags := 1, nameIndex := 5, descriptorIndex := 6, attributes := #[] }] 33 0 #[] #[])
  fields := #[]
  methods := #[k0m0]
  instanceTypes := #[]
  staticTypes := #[]
  resolved := Array.replicate 124 none
  statics := none }

def pool1 : Array CpInfo := pool [(2, .class_ 4), (1, u "java/lang/Object"), (0, u "<init>"), (0, u "()V"), (0, .methodref 8 9), (0, .class_ 10), (0, .nameAndType 11 12), (0, u "io/evenkeel/member/Reaction"), (0, u "keepsSession"), (0, u "(S)Z"), (0, .methodref 8 14), (0, .nameAndType 15 16), (0, u "to"), (0, u "(S)Lio/evenkeel/member/Reaction;"), (0, .fieldref 8 18), (0, .nameAndType 19 20), (0, u "GO_ON"), (0, u "Lio/evenkeel/member/Reaction;"), (0, .fieldref 8 22), (0, .nameAndType 23 20), (0, u "JOIN_AGAIN"), (0, .class_ 25), (0, u "io/evenkeel/member/ReactionKeepsSessionPinLaw"), (2, u "law"), (0, u "(II)Z")] 3

def k1m0 : Method := { name := "<init>", desc := "()V", sig := { parameters := [], returnType := none }, accessFlags := 2, code := none }
def k1c1 : Code := { maxStack := 2, maxLocals := 6, code := code, exceptionTable := #[], attributes := #[] }
def k1m1 : Method := { name := "law", desc := "(II)Z", sig := { parameters := [.int, .int], returnType := some .boolean }, accessFlags := 9, code := some k1c1 }
/-- io/evenkeel/member/ReactionKeepsSessionPinLaw -/
def k1 : Class := { plain "io/evenkeel/member/ReactionKeepsSessionPinLaw" (some 0) with
  accessFlags := 49
  interfaces := #[]
  cf := some (fileOf pool1 24 #[] #[{ accessFlags := 2, nameIndex := 5, descriptorIndex := 6, attributes := #[] }, { accessFlags := 9, nameIndex := 28, descriptorIndex := 29, attributes := #[] }] 49 2 #[] #[])
  fields := #[]
  methods := #[k1m0, k1m1]
  instanceTypes := #[]
  staticTypes := #[]
  resolved := Array.replicate 33 none
  statics := none }

def pool2 : Array CpInfo := pool [(1, .class_ 2), (0, u "java/lang/constant/Constable"), (0, .class_ 4), (0, u "java/lang/Object")] 6

/-- java/lang/constant/Constable -/
def k2 : Class := { plain "java/lang/constant/Constable" (some 0) with
  accessFlags := 1537
  interfaces := #[]
  cf := some (fileOf pool2 1 #[] #[] 1537 3 #[] #[])
  fields := #[]
  methods := #[]
  instanceTypes := #[]
  staticTypes := #[]
  resolved := Array.replicate 11 none
  statics := none }

def pool3 : Array CpInfo := pool [(1, .class_ 2), (0, u "java/lang/Comparable"), (0, .class_ 4), (0, u "java/lang/Object")] 7

/-- java/lang/Comparable -/
def k3 : Class := { plain "java/lang/Comparable" (some 0) with
  accessFlags := 1537
  interfaces := #[]
  cf := some (fileOf pool3 1 #[] #[] 1537 3 #[] #[])
  fields := #[]
  methods := #[]
  instanceTypes := #[]
  staticTypes := #[]
  resolved := Array.replicate 12 none
  statics := none }

def pool4 : Array CpInfo := pool [(1, .class_ 2), (0, u "java/io/Serializable"), (0, .class_ 4), (0, u "java/lang/Object")] 2

/-- java/io/Serializable -/
def k4 : Class := { plain "java/io/Serializable" (some 0) with
  accessFlags := 1537
  interfaces := #[]
  cf := some (fileOf pool4 1 #[] #[] 1537 3 #[] #[])
  fields := #[]
  methods := #[]
  instanceTypes := #[]
  staticTypes := #[]
  resolved := Array.replicate 7 none
  statics := none }

def pool5 : Array CpInfo := pool [(2, .class_ 4), (1, u "java/lang/Enum"), (0, u "name"), (0, u "Ljava/lang/String;"), (2, u "ordinal"), (0, u "I"), (1, .class_ 14), (1, u "java/lang/Object"), (4, u "hash"), (86, .class_ 108), (1, u "java/lang/Enum$EnumDesc"), (2, .class_ 112), (0, u "java/lang/constant/Constable"), (0, .class_ 114), (0, u "java/lang/Comparable"), (0, .class_ 116), (0, u "java/io/Serializable")] 87

/-- java/lang/Enum -/
def k5 : Class := { plain "java/lang/Enum" (some 0) with
  accessFlags := 1057
  interfaces := #[2, 3, 4]
  cf := some (fileOf pool5 2 #[.nestMembers #[106]] #[] 1057 12 #[111, 113, 115] #[{ accessFlags := 18, nameIndex := 5, descriptorIndex := 6, attributes := #[] }, { accessFlags := 18, nameIndex := 9, descriptorIndex := 10, attributes := #[] }, { accessFlags := 2, nameIndex := 19, descriptorIndex := 10, attributes := #[] }])
  fields := #[{ name := "name", type := (.object "java/lang/String"), accessFlags := 18, slot := 0, constantValue := 0 }, { name := "ordinal", type := .int, accessFlags := 18, slot := 1, constantValue := 0 }, { name := "hash", type := .int, accessFlags := 2, slot := 2, constantValue := 0 }]
  methods := #[]
  instanceTypes := #[(.object "java/lang/String"), .int, .int]
  staticTypes := #[]
  resolved := Array.replicate 204 none
  statics := none }

def pool6 : Array CpInfo := pool [(1, .class_ 2), (0, u "io/evenkeel/member/Reaction"), (0, .fieldref 1 4), (0, .nameAndType 5 6), (0, u "GO_ON"), (0, u "Lio/evenkeel/member/Reaction;"), (0, .fieldref 1 8), (0, .nameAndType 9 6), (0, u "JOIN_AGAIN"), (2, u "JOIN_AS_NEW"), (2, u "JOIN_LATER"), (2, u "STOP"), (2, u "$VALUES"), (0, u "[Lio/evenkeel/member/Reaction;"), (6, .class_ 31), (1, u "java/lang/Enum"), (23, u "to"), (0, u "(S)Lio/evenkeel/member/Reaction;"), (1, u "keepsSession"), (0, u "(S)Z")] 4

def k6c0 : Code := { maxStack := 1, maxLocals := 1, code := prog_131_method_4_code, exceptionTable := #[], attributes := #[] }
def k6m0 : Method := { name := "to", desc := "(S)Lio/evenkeel/member/Reaction;", sig := { parameters := [.short], returnType := some (.object "io/evenkeel/member/Reaction") }, accessFlags := 8, code := some k6c0 }
def k6c1 : Code := { maxStack := 1, maxLocals := 1, code := prog_131_method_5_code, exceptionTable := #[], attributes := #[] }
def k6m1 : Method := { name := "keepsSession", desc := "(S)Z", sig := { parameters := [.short], returnType := some .boolean }, accessFlags := 8, code := some k6c1 }
/-- io/evenkeel/member/Reaction -/
def k6 : Class := { plain "io/evenkeel/member/Reaction" (some 5) with
  accessFlags := 16432
  interfaces := #[]
  cf := some (fileOf pool6 1 #[] #[{ accessFlags := 8, nameIndex := 55, descriptorIndex := 56, attributes := #[] }, { accessFlags := 8, nameIndex := 58, descriptorIndex := 59, attributes := #[] }] 16432 29 #[] #[{ accessFlags := 16409, nameIndex := 5, descriptorIndex := 6, attributes := #[] }, { accessFlags := 16409, nameIndex := 9, descriptorIndex := 6, attributes := #[] }, { accessFlags := 16409, nameIndex := 12, descriptorIndex := 6, attributes := #[] }, { accessFlags := 16409, nameIndex := 15, descriptorIndex := 6, attributes := #[] }, { accessFlags := 16409, nameIndex := 18, descriptorIndex := 6, attributes := #[] }, { accessFlags := 4122, nameIndex := 21, descriptorIndex := 22, attributes := #[] }])
  fields := #[{ name := "GO_ON", type := (.object "io/evenkeel/member/Reaction"), accessFlags := 16409, slot := 0, constantValue := 0 }, { name := "JOIN_AGAIN", type := (.object "io/evenkeel/member/Reaction"), accessFlags := 16409, slot := 1, constantValue := 0 }, { name := "JOIN_AS_NEW", type := (.object "io/evenkeel/member/Reaction"), accessFlags := 16409, slot := 2, constantValue := 0 }, { name := "JOIN_LATER", type := (.object "io/evenkeel/member/Reaction"), accessFlags := 16409, slot := 3, constantValue := 0 }, { name := "STOP", type := (.object "io/evenkeel/member/Reaction"), accessFlags := 16409, slot := 4, constantValue := 0 }, { name := "$VALUES", type := (.array (.object "io/evenkeel/member/Reaction")), accessFlags := 4122, slot := 5, constantValue := 0 }]
  methods := #[k6m0, k6m1]
  instanceTypes := #[(.object "java/lang/String"), .int, .int]
  staticTypes := #[(.object "io/evenkeel/member/Reaction"), (.object "io/evenkeel/member/Reaction"), (.object "io/evenkeel/member/Reaction"), (.object "io/evenkeel/member/Reaction"), (.object "io/evenkeel/member/Reaction"), (.array (.object "io/evenkeel/member/Reaction"))]
  resolved := Array.replicate 64 none
  statics := some 0 }

def pool7 : Array CpInfo := pool [(1, u "java/lang/Cloneable"), (0, .class_ 1), (0, u "java/lang/Object"), (0, .class_ 3)] 3

/-- java/lang/Cloneable -/
def k7 : Class := { plain "java/lang/Cloneable" (some 0) with
  accessFlags := 1537
  interfaces := #[]
  cf := some (fileOf pool7 2 #[] #[] 1537 4 #[] #[])
  fields := #[]
  methods := #[]
  instanceTypes := #[]
  staticTypes := #[]
  resolved := Array.replicate 8 none
  statics := none }

/-- the primitive byte -/
def k8 : Class := { plain "byte" none with kind := .primitive 'B', accessFlags := 0x411 }
/-- [B -/
def k9 : Class := { plain "[B" (some 0) with kind := .array 8 .byte, interfaces := #[7, 4], accessFlags := 1041 }

/-- the primitive int -/
def k10 : Class := { plain "int" none with kind := .primitive 'I', accessFlags := 0x411 }
/-- [I -/
def k11 : Class := { plain "[I" (some 0) with kind := .array 10 .int, interfaces := #[7, 4], accessFlags := 1041 }

def heap : Heap := #[{ cls := 6, slots := #[.ref 1, .ref 2, .null, .null, .null, .null], vm := .statics 6 },
  { cls := 6, slots := #[.null, .int 0, .int 0], vm := .none },
  { cls := 6, slots := #[.null, .int 1, .int 0], vm := .none }]
def classes : Array Class := #[k0, k1, k2, k3, k4, k5, k6, k7, k8, k9, k10, k11]
def interned : List (Array UInt16 × Addr) := []
def slotsUsed : Nat := 12
def theMethod : MethodId := ⟨1, 1⟩
def args0 : Array Value := #[.int 27, .int 0]
def aboutOver (below : List Frame) : State where
  vm := { classes := classes, interned := interned.toArray }
  heap := heap
  slotsUsed := slotsUsed
  threads := #[{ frames := .invoking theMethod args0 :: below }]
def below0 : List Frame := [.native { method := ⟨0, 0⟩, args := #[] }]
def about1 : State := aboutOver below0
def p0 : Program := .bare "" "" ""
def e0 : Env := launch0.env 0 0 0
theorem w_frames : about1.frames = Frame.invoking theMethod args0 :: below0 := rfl
set_option maxRecDepth 65536 in
theorem w_args : argsFit about1.vm theMethod args0 = true := by decide +kernel
set_option maxRecDepth 65536 in
theorem w_heap : heapFits about1 = true := by decide +kernel
set_option maxRecDepth 65536 in
theorem w_runnable : about1.curStatus? = some .runnable := by decide +kernel
set_option maxRecDepth 65536 in
theorem w_alone : about1.alone = true := by decide +kernel
set_option maxRecDepth 65536 in
theorem w_named : about1.methodNamed? x = some theMethod := by decide +kernel
set_option maxRecDepth 65536 in
theorem w_hears : about1.hears theMethod below0 = true := by decide +kernel
set_option maxRecDepth 65536 in
theorem w_ripe : about1.ripe theMethod args0 below0 = true := by decide +kernel
theorem w_running : about1.status = .running := rfl
set_option maxRecDepth 65536 in
theorem w_room : about1.hasRoom e0.platform room_1 = true :=
  launch0.hasRoom_least _ room_1 (by decide +kernel) (by decide +kernel) (by decide +kernel) (by decide +kernel) (by decide +kernel) (by decide +kernel)
theorem allAtoms_all (ts : List Jvm.Cond) (a : Array Jvm.Value) (st : Jvm.State) : (allAtoms ts).before a st = ts.all (fun c => c.before a st) := by
  induction ts with
  | nil => rfl
  | cons c t ih =>
    show (Jvm.Cond.and c (allAtoms t)).before a st = _
    rw [Jvm.Cond.before_and, ih, List.all_cons]
def words1 : List Jvm.Cond := Jvm.Cond.code x code maxLocals ret :: tables_1
/-- a 'code' word, met by the world's own term for the bytes: nothing is compared byte by byte -/
theorem code_word {y : MethodName} {bytes : ByteArray} {mx : Nat} {rt : Option FieldType} {a : Array Value} {s : State} {m : MethodId} {meth : Method} {c : Code} (h1 : s.methodNamed? y = some m) (h2 : s.vm.method? m = some meth) (h3 : meth.code = some c) (h4 : c.code = bytes)
    (h5 : (c.maxLocals == mx && c.exceptionTable.isEmpty && decide (c.maxStack ≤ mostOperands) && decide (meth.sig.returnType = rt) && !meth.locks && decide (parseMethodDescriptor y.desc = some meth.sig)) = true) : (Jvm.Cond.code y bytes mx rt).before a s = true := by
  simp only [Bool.and_eq_true, beq_iff_eq, Bool.not_eq_true', decide_eq_true_eq] at h5
  obtain ⟨⟨⟨⟨⟨g1, g2⟩, g3⟩, g4⟩, g5⟩, g6⟩ := h5
  simp [Cond.before, Cond.holds, Cond.value, h1, h2, h3, h4, g1, g2, g3, g4, g5, g6]
def isCode : Jvm.Cond → Bool
  | .code _ _ _ _ => true
  | _ => false
theorem all_split {L : List Jvm.Cond} {P : Jvm.Cond → Bool} (h1 : L.all (fun c => isCode c || P c) = true) (h2 : ∀ c ∈ L.filter isCode, P c = true) : L.all P = true := by
  refine List.all_eq_true.mpr fun c hc => ?_
  have h := List.all_eq_true.mp h1 c hc
  rcases Bool.eq_false_or_eq_true (isCode c) with hi | hi
  · exact h2 c (List.mem_filter.mpr ⟨hc, hi⟩)
  · simpa [hi] using h
set_option maxRecDepth 65536 in
theorem w_c0 : (Jvm.Cond.code x code maxLocals ret).before args0 about1 = true := code_word (m := ⟨1, 1⟩) (meth := k1m1) (c := k1c1) (by decide +kernel) rfl rfl rfl (by decide +kernel)
set_option maxRecDepth 65536 in
theorem w_c1 : (Jvm.Cond.code ({ cls := "io/evenkeel/member/Reaction", name := "keepsSession", desc := "(S)Z" } : Jvm.MethodName) prog_131_method_5_code (1 : Nat) (Option.some Jvm.ClassFile.FieldType.boolean)).before args0 about1 = true := code_word (m := ⟨6, 1⟩) (meth := k6m1) (c := k6c1) (by decide +kernel) rfl rfl rfl (by decide +kernel)
set_option maxRecDepth 65536 in
theorem w_c2 : (Jvm.Cond.code ({ cls := "io/evenkeel/member/Reaction", name := "to", desc := "(S)Lio/evenkeel/member/Reaction;" } : Jvm.MethodName) prog_131_method_4_code (1 : Nat) (Option.some (Jvm.ClassFile.FieldType.object "io/evenkeel/member/Reaction"))).before args0 about1 = true := code_word (m := ⟨6, 0⟩) (meth := k6m0) (c := k6c0) (by decide +kernel) rfl rfl rfl (by decide +kernel)
def codes1 : List Jvm.Cond := [Jvm.Cond.code x code maxLocals ret, Jvm.Cond.code ({ cls := "io/evenkeel/member/Reaction", name := "keepsSession", desc := "(S)Z" } : Jvm.MethodName) prog_131_method_5_code (1 : Nat) (Option.some Jvm.ClassFile.FieldType.boolean), Jvm.Cond.code ({ cls := "io/evenkeel/member/Reaction", name := "to", desc := "(S)Lio/evenkeel/member/Reaction;" } : Jvm.MethodName) prog_131_method_4_code (1 : Nat) (Option.some (Jvm.ClassFile.FieldType.object "io/evenkeel/member/Reaction"))]
set_option maxRecDepth 65536 in
theorem codes_eq : words1.filter isCode = codes1 := rfl
theorem w_codes : ∀ c ∈ words1.filter isCode, c.before args0 about1 = true := by
  rw [codes_eq]
  intro c hc
  simp only [codes1, List.mem_cons, List.not_mem_nil, or_false] at hc
  rcases hc with rfl | rfl | rfl
  · exact w_c0
  · exact w_c1
  · exact w_c2
set_option maxRecDepth 65536 in
theorem w_t1 : words1.all (fun c => isCode c || c.before args0 about1) = true := by decide +kernel
theorem w_tables : (allAtoms (Jvm.Cond.code x code maxLocals ret :: tables_1)).before args0 about1 = true := by
  rw [allAtoms_all]
  show words1.all (fun c => c.before args0 about1) = true
  refine all_split ?_ w_codes
  rw [w_t1]
set_option maxRecDepth 65536 in
theorem w_case : (Jvm.Cond.and given_1 narrow_1).before args0 about1 = true := by decide +kernel
theorem w_applies : (headSpec (Jvm.Cond.code x code maxLocals ret :: tables_1) room_1).applies x e0.platform about1 = true :=
  (Spec.applies_iff w_frames).mpr ⟨w_running, w_runnable, w_alone, w_named, w_hears, w_ripe, w_room, w_tables⟩
theorem atStart : AtStart classFile x code maxLocals ret World_1 tables_1 room_1 Calls_1 rest_1 Pre_1 launch0 p0 e0 about1 theMethod args0 below0 :=
  ⟨lists_1, trivial, launch0.admits_env _ _ _, launch0.least_env, fairChoices_fair.cas, fairChoices_fair.clock, w_frames, w_args, w_heap, w_applies, trivial, trivial, w_case⟩
end start1
theorem witness_1 : WitnessClaimed_1 := ⟨start1.p0, start1.e0, start1.about1, start1.theMethod, start1.args0, start1.below0, start1.atStart⟩
end Jvm.Pilot.@@N@@
