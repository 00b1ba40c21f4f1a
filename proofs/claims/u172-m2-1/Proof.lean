import JvmDerived
import JvmDerived.Pilot.@@N@@Statement
import JvmDerived.Pilot.@@N@@Code
set_option linter.unusedVariables false
set_option linter.unusedSimpArgs false
namespace Jvm.RoadKit
open Sem ClassFile Op Lib Jvm.Stand Jvm.Free Jvm.LawKit
section New
variable {p : Program} {l : Launch} {e : Env} {R : Room} {s : State} {m : MethodId} {args : Array Value} {below : List Frame} {meth : Method} {c : Code} {T : State} {locs : List Loc} {cells slots : Nat}
theorem own_retI (X : Stand p l e R s m args below meth c T locs cells slots) (hx : p.tables.exec = Jvm.exec) {pc : Nat} {Ls : Array Slot} {z : Int32} {rest : List Value} (hret : meth.sig.returnType = some .int) (hd : decode c.code pc = .ok (.ireturn, 1)) {fs : List Frame}
    (hl : ∀ (f : JFrame) (acts : List Action), f.method = m → f.locked = none → f.entered = [] → (doReturn e (T.setTop f) acts (some (.int z))).1 = T.setFrames fs) : Steps p.tables e below (T.setTop (mkF m pc Ls (.int z :: rest))) (T.setFrames fs) :=
  retOut X hx hret rfl (Or.inl ⟨rfl, Or.inl rfl, z, rfl⟩) hd hl
theorem own_start {S S0 : State} {P : State → Outcome → Prop} (pre : ∀ t, Steps p.tables e below S t → Steps p.tables e below S0 t)
    (k : ∀ G : State → Prop, (∀ {U U' : State}, (∀ t, Steps p.tables e below U' t → Steps p.tables e below U t) → G U' → G U) → (∀ U, (∃ s₂ o, Steps p.tables e below U s₂ ∧ P s₂ o) → G U) → G S) :
    ∃ s₂ o, Steps p.tables e below S0 s₂ ∧ P s₂ o := by
  obtain ⟨t, o, h1, h2⟩ := k (fun U => ∃ s₂ o, Steps p.tables e below U s₂ ∧ P s₂ o) (fun f ⟨t, o, h1, h2⟩ => ⟨t, o, f t h1, h2⟩) (fun _ h => h)
  exact ⟨t, o, pre t h1, h2⟩
theorem own_lsw {g : JFrame} {target : State} (X : Stand p l e R s m args below meth c T locs cells slots) (hx : p.tables.exec = Jvm.exec) (hg : g.method = m) {dflt : Int} {ps : Array (Int × Int)} {len : Nat} {pc0 pc' : Nat} (hpc : g.pc = pc0) (hd : decode c.code g.pc = .ok (.lookupswitch dflt ps, len)) {i : Int32} {rest : List Value} (hs : g.stack = .int i :: rest)
    (hsort : (ps.toList.zip ps.toList.tail).all (fun q => decide (q.1.1 < q.2.1)) = true) {o : Int} (hoff : lookupswitch.offset ps.toList dflt i.toInt = o) (ho : 0 ≤ (pc0 : Int) + o) (hp : ((pc0 : Int) + o).toNat = pc') (hr : Steps p.tables e below (T.setTop { g with pc := pc', stack := rest }) target) : Steps p.tables e below (T.setTop g) target := by
  subst hg hpc hp hoff
  jvm_step X.here [X.here.top, hx, hd, hs, ho, lookupswitch.wp_chain]
  exact ⟨fun a b a1 b1 hm => by simpa using List.all_eq_true.mp hsort _ hm, hr⟩
theorem own_lt {a b : Int32} (h : a < b) : a.toInt < b.toInt := Int32.lt_iff_toInt_lt.mp h
theorem own_nlt {a b : Int32} (h : ¬ a < b) : b.toInt ≤ a.toInt := Int.not_lt.mp fun q => h (Int32.lt_iff_toInt_lt.mpr q)
theorem own_miss {a o : Int} {r : List (Int × Int)} {d k : Int} (h : a ≠ k) : lookupswitch.offset ((a, o) :: r) d k = lookupswitch.offset r d k := by rw [lookupswitch.offset_cons, if_neg h]
theorem own_nek {x K : Int32} {k : Int} (h : ¬ x = K) (e : K.toInt = k) : k ≠ x.toInt := fun q => h (Int32.toInt_inj.mp (q.symm.trans e.symm))
theorem own_sta_keep {Z : State} {h h' : Heap} {C n d : String} {v : Value} (F : Sta Z h C n d v) (K : Keep h h' []) : Sta Z h' C n d v := by
  obtain ⟨cf, i, k, f, st, cell, h1, h2, h3, h4, h5, r⟩ := F; exact ⟨cf, i, k, f, st, cell, h1, h2, h3, h4, K.2.1 _ _ h5 nin0, r⟩
theorem own_sta_keepE {Z : State} {h h' : Heap} {C n d D : String} {v : Value} {a : Addr} (F : Sta Z h C n d v) (K : Keep h h' [a]) (E : Exa Z h a D) : Sta Z h' C n d v := by
  obtain ⟨cf, i, k, f, st, cell, h1, h2, h3, h4, h5, h6, r⟩ := F
  obtain ⟨c2, k2, q1, -, -, q4, -⟩ := E
  refine ⟨cf, i, k, f, st, cell, h1, h2, h3, h4, K.2.1 _ _ h5 (ninS (fun z => ?_) nin0), h6, r⟩
  subst z; cases q1.symm.trans h5; rw [q4] at h6; cases h6
theorem own_arvset {Z : State} {h h' : Heap} {a : Addr} {c : Cell} {ty : FieldType} {k : ClassId} {z j : Int32} {vs : List Value} {dv v : Value} {N : Nat} (A : Arr Z h a c ty) (q1 : c.cls = k) (S : c.slots.size = z.toNatClampNeg) (q3 : ¬ z < 0) (H : Has c vs dv) (F : ∀ i, i < c.slots.size → fits ty (vs.getD i dv) = true) (hv : fits ty v = true) (W : Wr h h' a j.toNatClampNeg v) (i : Nat) (hj : j.toNatClampNeg = i) (hl : vs.length = N) (hi : i < N) :
    ∃ vs', vs'.length = N ∧ Arv Z h' a k ty z vs' dv := ⟨_, by rw [List.length_set]; exact hl, Arv.set A q1 S q3 H F hv W i hj (by rw [hl]; exact hi)⟩
end New
end Jvm.RoadKit
namespace Jvm.Pilot.@@N@@
open Jvm Jvm.ClassFile Sem Op Lib Jvm.Free Jvm.Stand Jvm.LawKit Jvm.RoadKit Bundle Jvm.Pilot.@@N@@.Jvm.D
def own_f (p : Int32) : Int32 := if (¬ p < (97 : Int32) ∧ ¬ (122 : Int32) < p) ∨ (¬ p < (65 : Int32) ∧ ¬ (90 : Int32) < p) ∨ (¬ p < (48 : Int32) ∧ ¬ (57 : Int32) < p) then 1 else 0
def own_g (p : Int32) : Int32 := if (¬ (p.toInt64 - 48) < 0 ∧ (p.toInt64 - 48) < 10) ∨ (¬ ((p ||| 32).toInt64 - 97) < 0 ∧ ((p ||| 32).toInt64 - 97) < 26) then 1 else 0
theorem own_or (n : Nat) : (n ||| 32) / 128 = n / 128 := by
  have h := Nat.shiftRight_or_distrib (a := n) (b := 32) (i := 7)
  rw [Nat.shiftRight_eq_div_pow, Nat.shiftRight_eq_div_pow, Nat.shiftRight_eq_div_pow] at h
  simpa using h
theorem own_fin : ∀ n : Fin 128, ((97 ≤ (n.val ||| 32) ∧ (n.val ||| 32) ≤ 122) ↔ ((97 ≤ n.val ∧ n.val ≤ 122) ∨ (65 ≤ n.val ∧ n.val ≤ 90))) := by decide +kernel
theorem own_nat (n : Nat) : ((97 ≤ (n ||| 32) ∧ (n ||| 32) ≤ 122) ↔ ((97 ≤ n ∧ n ≤ 122) ∨ (65 ≤ n ∧ n ≤ 90))) := by
  by_cases h : n < 128
  · exact own_fin ⟨n, h⟩
  · have h1 := own_or n
    constructor
    · intro ⟨a, b⟩
      exfalso; omega
    · intro a
      exfalso; omega
theorem own_int (p : Int32) : ((97 ≤ (p ||| 32).toInt ∧ (p ||| 32).toInt ≤ 122) ↔ ((97 ≤ p.toInt ∧ p.toInt ≤ 122) ∨ (65 ≤ p.toInt ∧ p.toInt ≤ 90))) := by
  have h := own_nat p.toBitVec.toNat
  have e1 : (p ||| 32).toBitVec.toNat = p.toBitVec.toNat ||| 32 := by simp
  have a1 : (p ||| 32).toInt = if 2 * (p ||| 32).toBitVec.toNat < 2 ^ 32 then ((p ||| 32).toBitVec.toNat : Int) else ((p ||| 32).toBitVec.toNat : Int) - 2 ^ 32 := by
    rw [← Int32.toInt_toBitVec, BitVec.toInt_eq_toNat_cond]; rfl
  have a2 : p.toInt = if 2 * p.toBitVec.toNat < 2 ^ 32 then (p.toBitVec.toNat : Int) else (p.toBitVec.toNat : Int) - 2 ^ 32 := by
    rw [← Int32.toInt_toBitVec, BitVec.toInt_eq_toNat_cond]; rfl
  have b1 : (p ||| 32).toBitVec.toNat < 2 ^ 32 := BitVec.isLt _
  have b2 : p.toBitVec.toNat < 2 ^ 32 := BitVec.isLt _
  rw [← e1] at h
  generalize (p ||| 32).toBitVec.toNat = u at *
  generalize p.toBitVec.toNat = v at *
  rw [a1, a2]
  split <;> split <;> omega
theorem own_law (p : Int32) : own_f p = own_g p := by
  have h := own_int p
  have l1 : (p.toInt64 - 48).toInt = p.toInt - 48 := by
    have := c_lsub p.toInt64 48
    have e : p.toInt64.toInt = p.toInt := Int32.toInt_toInt64 p
    have e' : (48 : Int64).toInt = 48 := by decide
    have := p.le_toInt; have := p.toInt_lt
    have := (p.toInt64 - 48).le_toInt; have := (p.toInt64 - 48).toInt_lt
    omega
  have l2 : ((p ||| 32).toInt64 - 97).toInt = (p ||| 32).toInt - 97 := by
    have := c_lsub (p ||| 32).toInt64 97
    have e : (p ||| 32).toInt64.toInt = (p ||| 32).toInt := Int32.toInt_toInt64 _
    have e' : (97 : Int64).toInt = 97 := by decide
    have := (p ||| 32).le_toInt; have := (p ||| 32).toInt_lt
    have := ((p ||| 32).toInt64 - 97).le_toInt; have := ((p ||| 32).toInt64 - 97).toInt_lt
    omega
  have k0 : (0 : Int64).toInt = 0 := by decide
  have k1 : (10 : Int64).toInt = 10 := by decide
  have k2 : (26 : Int64).toInt = 26 := by decide
  have j1 : (97 : Int32).toInt = 97 := by decide
  have j2 : (122 : Int32).toInt = 122 := by decide
  have j3 : (65 : Int32).toInt = 65 := by decide
  have j4 : (90 : Int32).toInt = 90 := by decide
  have j5 : (48 : Int32).toInt = 48 := by decide
  have j6 : (57 : Int32).toInt = 57 := by decide
  unfold own_f own_g
  simp only [Int64.lt_iff_toInt_lt, Int32.lt_iff_toInt_lt, l1, l2, k0, k1, k2, j1, j2, j3, j4, j5, j6]
  have : (¬p.toInt < 97 ∧ ¬122 < p.toInt ∨ ¬p.toInt < 65 ∧ ¬90 < p.toInt ∨ ¬p.toInt < 48 ∧ ¬57 < p.toInt) ↔ (¬p.toInt - 48 < 0 ∧ p.toInt - 48 < 10 ∨ ¬(p ||| 32).toInt - 97 < 0 ∧ (p ||| 32).toInt - 97 < 26) := by omega
  simp only [this]
theorem d1_0 : decode prog_157_method_14_code 0 = .ok (.iload_n 0, 1) := by decide +kernel
theorem d1_1 : decode prog_157_method_14_code 1 = .ok (.bipush 97, 2) := by decide +kernel
theorem d1_3 : decode prog_157_method_14_code 3 = .ok (.if_icmp .lt 9, 3) := by decide +kernel
theorem d1_6 : decode prog_157_method_14_code 6 = .ok (.iload_n 0, 1) := by decide +kernel
theorem d1_7 : decode prog_157_method_14_code 7 = .ok (.bipush 122, 2) := by decide +kernel
theorem d1_9 : decode prog_157_method_14_code 9 = .ok (.if_icmp .le 27, 3) := by decide +kernel
theorem d1_12 : decode prog_157_method_14_code 12 = .ok (.iload_n 0, 1) := by decide +kernel
theorem d1_13 : decode prog_157_method_14_code 13 = .ok (.bipush 65, 2) := by decide +kernel
theorem d1_15 : decode prog_157_method_14_code 15 = .ok (.if_icmp .lt 9, 3) := by decide +kernel
theorem d1_18 : decode prog_157_method_14_code 18 = .ok (.iload_n 0, 1) := by decide +kernel
theorem d1_19 : decode prog_157_method_14_code 19 = .ok (.bipush 90, 2) := by decide +kernel
theorem d1_21 : decode prog_157_method_14_code 21 = .ok (.if_icmp .le 15, 3) := by decide +kernel
theorem d1_24 : decode prog_157_method_14_code 24 = .ok (.iload_n 0, 1) := by decide +kernel
theorem d1_25 : decode prog_157_method_14_code 25 = .ok (.bipush 48, 2) := by decide +kernel
theorem d1_27 : decode prog_157_method_14_code 27 = .ok (.if_icmp .lt 13, 3) := by decide +kernel
theorem d1_30 : decode prog_157_method_14_code 30 = .ok (.iload_n 0, 1) := by decide +kernel
theorem d1_31 : decode prog_157_method_14_code 31 = .ok (.bipush 57, 2) := by decide +kernel
theorem d1_33 : decode prog_157_method_14_code 33 = .ok (.if_icmp .gt 7, 3) := by decide +kernel
theorem d1_36 : decode prog_157_method_14_code 36 = .ok (.iconst 1, 1) := by decide +kernel
theorem d1_37 : decode prog_157_method_14_code 37 = .ok (.goto 4, 3) := by decide +kernel
theorem d1_40 : decode prog_157_method_14_code 40 = .ok (.iconst 0, 1) := by decide +kernel
theorem d1_41 : decode prog_157_method_14_code 41 = .ok (.ireturn, 1) := by decide +kernel
theorem pn_io_evenkeel_server_Flags : plainName "io/evenkeel/server/Flags" = true := by first | (simp [plainName, overriddenIn]; done) | decide +kernel
theorem ef_1 (m : MethodId) (p0 : Int32) : entryFrame m #[(.int p0)] 1 = mkF m 0 #[.val (.int p0)] [] := by first | (simp [entryFrame, mkF, argsToLocals, Value.category]; done) | rfl
def Q1 (p0 : Int32) (h0 : Heap) (n0 : Nat) (v : Option Value) (h : Heap) (L : List Loc) : Prop := v = some (.int (own_f p0)) ∧ Fr n0 L ∧ h = h0
set_option maxRecDepth 65536 in
set_option maxHeartbeats 40000000 in
theorem rm1 (l : Launch) (Z : State) (a0 : Array Value) (hw : ∀ d ∈ tables_1, d.before a0 Z = true) (ws : List Jvm.Cond) (p0 : Int32)  (h0 : Heap) (n0 : Nat) (Z0 : n0 ≤ h0.size)  :
    MetFree l (⟨"io/evenkeel/server/Flags", "isAsciiLetterOrDigit", "(I)Z"⟩ : MethodName) (head1 (Jvm.Cond.code (⟨"io/evenkeel/server/Flags", "isAsciiLetterOrDigit", "(I)Z"⟩ : MethodName) prog_157_method_14_code 1 (some .boolean) :: ws) ({ frames := 0, cells := 0, slots := 0, locals := 0 } : Room)) (fun a U => a = #[(.int p0)] ∧ Z.Warmed39 U.vm ∧ U.heap = h0) (fun _ _ _ _ _ => True) (fun _ U o U' => ∃ v L, o = .returned v ∧ Q1 p0 h0 n0 v U'.heap L ∧ FrameEnd U o U' L ({ frames := 0, cells := 0, slots := 0, locals := 0 } : Room).cells ({ frames := 0, cells := 0, slots := 0, locals := 0 } : Room).slots) := by
  refine MetFree.of_bodySF (plainFor_of_name pn_io_evenkeel_server_Flags) hisR ?_
  intro p e s m args below meth c s₁ Bd hml0 hP hK
  obtain ⟨rfl, hZ, hh⟩ := hP
  have hx := Bd.exec
  have hby := Bd.bytes
  have hml : c.maxLocals = 1 := hml0
  have hown : s.vm.findClass "io/evenkeel/server/Flags" = some m.cls := findClass_of_methodNamed Bd.named
  have hnm := (name_of_methodNamed Bd.named Bd.method).1
  have X0 : Stand p l e ({ frames := 0, cells := 0, slots := 0, locals := 0 } : Room) s m #[(.int p0)] below meth c s₁ [] 0 0 := Stand.of_body Bd
  have e0 : s₁.heap = h0 := by rw [← hh, Bd.state]; rfl
  have N0 := Fr.nil n0
  have pre0 : ∀ t, Steps p.tables e below (s₁.setTop (mkF m 0 #[.val (.int p0)] [])) t → Steps p.tables e below (s₁.setTop (entryFrame m #[(.int p0)] 1)) t := fun t k => castTop (ef_1 m p0) k
  have K0 := Keep.refl h0 []
  refine own_start pre0 fun G gs gl => ?_
  show G (s₁.setTop (mkF m 0 #[.val (.int p0)] []))
  refine gs (fun t k => XS.iloadN X0.here hx rfl (hb hby d1_0) rfl k) ?_
  show G (s₁.setTop (mkF m 1 #[.val (.int p0)] [(.int p0)]))
  refine gs (fun t k => XS.bipush X0.here hx rfl (hb hby d1_1) k) ?_
  show G (s₁.setTop (mkF m 3 #[.val (.int p0)] [(.int (97 : Int32)), (.int p0)]))
  by_cases hc3 : p0 < (97 : Int32)
  · refine gs (fun t k => XS.icmpYes X0.here hx rfl (pc0 := 3) (pc' := 12) rfl (hb hby d1_3) rfl (tlt hc3).1 (by decide) (by decide) k) ?_
    show G (s₁.setTop (mkF m 12 #[.val (.int p0)] []))
    refine gs (fun t k => XS.iloadN X0.here hx rfl (hb hby d1_12) rfl k) ?_
    show G (s₁.setTop (mkF m 13 #[.val (.int p0)] [(.int p0)]))
    refine gs (fun t k => XS.bipush X0.here hx rfl (hb hby d1_13) k) ?_
    show G (s₁.setTop (mkF m 15 #[.val (.int p0)] [(.int (65 : Int32)), (.int p0)]))
    by_cases hc15 : p0 < (65 : Int32)
    · refine gs (fun t k => XS.icmpYes X0.here hx rfl (pc0 := 15) (pc' := 24) rfl (hb hby d1_15) rfl (tlt hc15).1 (by decide) (by decide) k) ?_
      show G (s₁.setTop (mkF m 24 #[.val (.int p0)] []))
      refine gs (fun t k => XS.iloadN X0.here hx rfl (hb hby d1_24) rfl k) ?_
      show G (s₁.setTop (mkF m 25 #[.val (.int p0)] [(.int p0)]))
      refine gs (fun t k => XS.bipush X0.here hx rfl (hb hby d1_25) k) ?_
      show G (s₁.setTop (mkF m 27 #[.val (.int p0)] [(.int (48 : Int32)), (.int p0)]))
      by_cases hc27 : p0 < (48 : Int32)
      · refine gs (fun t k => XS.icmpYes X0.here hx rfl (pc0 := 27) (pc' := 40) rfl (hb hby d1_27) rfl (tlt hc27).1 (by decide) (by decide) k) ?_
        show G (s₁.setTop (mkF m 40 #[.val (.int p0)] []))
        refine gs (fun t k => XS.iconst X0.here hx rfl (hb hby d1_40) k) ?_
        show G (s₁.setTop (mkF m 41 #[.val (.int p0)] [(.int (0 : Int32))]))
        obtain ⟨fs, hr, hrun, hended, hW, hsame⟩ := X0.leave (v := some (.int (0 : Int32))) (fun h => by rw [Bd.returns] at h; cases h)
        refine gl _ ⟨_, _, retN X0 hx (t := .boolean) Bd.returns (by simp) (hb hby d1_41) hr, hrun, hended, _, _, rfl, ?_, ⟨_, rfl⟩, hW, hsame.mono (by decide) (by decide)⟩
        show Q1 p0 h0 n0 _ s₁.heap _
        rw [e0]
        
        exact ⟨congrArg (fun z => some (Value.int z)) (by simp only [own_f, own_g, hc3, hc15, hc27, not_false_eq_true, not_true_eq_false, and_true, true_and, and_false, false_and, and_self, or_true, true_or, or_false, false_or, or_self, if_true, if_false, reduceIte]), N0, rfl⟩
      · refine gs (fun t k => XS.icmpNo X0.here hx rfl (hb hby d1_27) rfl (flt hc27).1 k) ?_
        show G (s₁.setTop (mkF m 30 #[.val (.int p0)] []))
        refine gs (fun t k => XS.iloadN X0.here hx rfl (hb hby d1_30) rfl k) ?_
        show G (s₁.setTop (mkF m 31 #[.val (.int p0)] [(.int p0)]))
        refine gs (fun t k => XS.bipush X0.here hx rfl (hb hby d1_31) k) ?_
        show G (s₁.setTop (mkF m 33 #[.val (.int p0)] [(.int (57 : Int32)), (.int p0)]))
        by_cases hc33 : (57 : Int32) < p0
        · refine gs (fun t k => XS.icmpYes X0.here hx rfl (pc0 := 33) (pc' := 40) rfl (hb hby d1_33) rfl (tlt hc33).2.2.1 (by decide) (by decide) k) ?_
          show G (s₁.setTop (mkF m 40 #[.val (.int p0)] []))
          refine gs (fun t k => XS.iconst X0.here hx rfl (hb hby d1_40) k) ?_
          show G (s₁.setTop (mkF m 41 #[.val (.int p0)] [(.int (0 : Int32))]))
          obtain ⟨fs, hr, hrun, hended, hW, hsame⟩ := X0.leave (v := some (.int (0 : Int32))) (fun h => by rw [Bd.returns] at h; cases h)
          refine gl _ ⟨_, _, retN X0 hx (t := .boolean) Bd.returns (by simp) (hb hby d1_41) hr, hrun, hended, _, _, rfl, ?_, ⟨_, rfl⟩, hW, hsame.mono (by decide) (by decide)⟩
          show Q1 p0 h0 n0 _ s₁.heap _
          rw [e0]
          
          exact ⟨congrArg (fun z => some (Value.int z)) (by simp only [own_f, own_g, hc3, hc15, hc27, hc33, not_false_eq_true, not_true_eq_false, and_true, true_and, and_false, false_and, and_self, or_true, true_or, or_false, false_or, or_self, if_true, if_false, reduceIte]), N0, rfl⟩
        · refine gs (fun t k => XS.icmpNo X0.here hx rfl (hb hby d1_33) rfl (flt hc33).2.2.1 k) ?_
          show G (s₁.setTop (mkF m 36 #[.val (.int p0)] []))
          refine gs (fun t k => XS.iconst X0.here hx rfl (hb hby d1_36) k) ?_
          show G (s₁.setTop (mkF m 37 #[.val (.int p0)] [(.int (1 : Int32))]))
          refine gs (fun t k => XS.goto X0.here hx rfl (pc0 := 37) (pc' := 41) rfl (hb hby d1_37) (by decide) (by decide) k) ?_
          show G (s₁.setTop (mkF m 41 #[.val (.int p0)] [(.int (1 : Int32))]))
          obtain ⟨fs, hr, hrun, hended, hW, hsame⟩ := X0.leave (v := some (.int (1 : Int32))) (fun h => by rw [Bd.returns] at h; cases h)
          refine gl _ ⟨_, _, retN X0 hx (t := .boolean) Bd.returns (by simp) (hb hby d1_41) hr, hrun, hended, _, _, rfl, ?_, ⟨_, rfl⟩, hW, hsame.mono (by decide) (by decide)⟩
          show Q1 p0 h0 n0 _ s₁.heap _
          rw [e0]
          
          exact ⟨congrArg (fun z => some (Value.int z)) (by simp only [own_f, own_g, hc3, hc15, hc27, hc33, not_false_eq_true, not_true_eq_false, and_true, true_and, and_false, false_and, and_self, or_true, true_or, or_false, false_or, or_self, if_true, if_false, reduceIte]), N0, rfl⟩
    · refine gs (fun t k => XS.icmpNo X0.here hx rfl (hb hby d1_15) rfl (flt hc15).1 k) ?_
      show G (s₁.setTop (mkF m 18 #[.val (.int p0)] []))
      refine gs (fun t k => XS.iloadN X0.here hx rfl (hb hby d1_18) rfl k) ?_
      show G (s₁.setTop (mkF m 19 #[.val (.int p0)] [(.int p0)]))
      refine gs (fun t k => XS.bipush X0.here hx rfl (hb hby d1_19) k) ?_
      show G (s₁.setTop (mkF m 21 #[.val (.int p0)] [(.int (90 : Int32)), (.int p0)]))
      by_cases hc21 : (90 : Int32) < p0
      · refine gs (fun t k => XS.icmpNo X0.here hx rfl (hb hby d1_21) rfl (tlt hc21).2.2.2 k) ?_
        show G (s₁.setTop (mkF m 24 #[.val (.int p0)] []))
        refine gs (fun t k => XS.iloadN X0.here hx rfl (hb hby d1_24) rfl k) ?_
        show G (s₁.setTop (mkF m 25 #[.val (.int p0)] [(.int p0)]))
        refine gs (fun t k => XS.bipush X0.here hx rfl (hb hby d1_25) k) ?_
        show G (s₁.setTop (mkF m 27 #[.val (.int p0)] [(.int (48 : Int32)), (.int p0)]))
        by_cases hc27 : p0 < (48 : Int32)
        · refine gs (fun t k => XS.icmpYes X0.here hx rfl (pc0 := 27) (pc' := 40) rfl (hb hby d1_27) rfl (tlt hc27).1 (by decide) (by decide) k) ?_
          show G (s₁.setTop (mkF m 40 #[.val (.int p0)] []))
          refine gs (fun t k => XS.iconst X0.here hx rfl (hb hby d1_40) k) ?_
          show G (s₁.setTop (mkF m 41 #[.val (.int p0)] [(.int (0 : Int32))]))
          obtain ⟨fs, hr, hrun, hended, hW, hsame⟩ := X0.leave (v := some (.int (0 : Int32))) (fun h => by rw [Bd.returns] at h; cases h)
          refine gl _ ⟨_, _, retN X0 hx (t := .boolean) Bd.returns (by simp) (hb hby d1_41) hr, hrun, hended, _, _, rfl, ?_, ⟨_, rfl⟩, hW, hsame.mono (by decide) (by decide)⟩
          show Q1 p0 h0 n0 _ s₁.heap _
          rw [e0]
          
          exact ⟨congrArg (fun z => some (Value.int z)) (by simp only [own_f, own_g, hc3, hc15, hc21, hc27, not_false_eq_true, not_true_eq_false, and_true, true_and, and_false, false_and, and_self, or_true, true_or, or_false, false_or, or_self, if_true, if_false, reduceIte]), N0, rfl⟩
        · refine gs (fun t k => XS.icmpNo X0.here hx rfl (hb hby d1_27) rfl (flt hc27).1 k) ?_
          show G (s₁.setTop (mkF m 30 #[.val (.int p0)] []))
          refine gs (fun t k => XS.iloadN X0.here hx rfl (hb hby d1_30) rfl k) ?_
          show G (s₁.setTop (mkF m 31 #[.val (.int p0)] [(.int p0)]))
          refine gs (fun t k => XS.bipush X0.here hx rfl (hb hby d1_31) k) ?_
          show G (s₁.setTop (mkF m 33 #[.val (.int p0)] [(.int (57 : Int32)), (.int p0)]))
          by_cases hc33 : (57 : Int32) < p0
          · refine gs (fun t k => XS.icmpYes X0.here hx rfl (pc0 := 33) (pc' := 40) rfl (hb hby d1_33) rfl (tlt hc33).2.2.1 (by decide) (by decide) k) ?_
            show G (s₁.setTop (mkF m 40 #[.val (.int p0)] []))
            refine gs (fun t k => XS.iconst X0.here hx rfl (hb hby d1_40) k) ?_
            show G (s₁.setTop (mkF m 41 #[.val (.int p0)] [(.int (0 : Int32))]))
            obtain ⟨fs, hr, hrun, hended, hW, hsame⟩ := X0.leave (v := some (.int (0 : Int32))) (fun h => by rw [Bd.returns] at h; cases h)
            refine gl _ ⟨_, _, retN X0 hx (t := .boolean) Bd.returns (by simp) (hb hby d1_41) hr, hrun, hended, _, _, rfl, ?_, ⟨_, rfl⟩, hW, hsame.mono (by decide) (by decide)⟩
            show Q1 p0 h0 n0 _ s₁.heap _
            rw [e0]
            
            exact ⟨congrArg (fun z => some (Value.int z)) (by simp only [own_f, own_g, hc3, hc15, hc21, hc27, hc33, not_false_eq_true, not_true_eq_false, and_true, true_and, and_false, false_and, and_self, or_true, true_or, or_false, false_or, or_self, if_true, if_false, reduceIte]), N0, rfl⟩
          · refine gs (fun t k => XS.icmpNo X0.here hx rfl (hb hby d1_33) rfl (flt hc33).2.2.1 k) ?_
            show G (s₁.setTop (mkF m 36 #[.val (.int p0)] []))
            refine gs (fun t k => XS.iconst X0.here hx rfl (hb hby d1_36) k) ?_
            show G (s₁.setTop (mkF m 37 #[.val (.int p0)] [(.int (1 : Int32))]))
            refine gs (fun t k => XS.goto X0.here hx rfl (pc0 := 37) (pc' := 41) rfl (hb hby d1_37) (by decide) (by decide) k) ?_
            show G (s₁.setTop (mkF m 41 #[.val (.int p0)] [(.int (1 : Int32))]))
            obtain ⟨fs, hr, hrun, hended, hW, hsame⟩ := X0.leave (v := some (.int (1 : Int32))) (fun h => by rw [Bd.returns] at h; cases h)
            refine gl _ ⟨_, _, retN X0 hx (t := .boolean) Bd.returns (by simp) (hb hby d1_41) hr, hrun, hended, _, _, rfl, ?_, ⟨_, rfl⟩, hW, hsame.mono (by decide) (by decide)⟩
            show Q1 p0 h0 n0 _ s₁.heap _
            rw [e0]
            
            exact ⟨congrArg (fun z => some (Value.int z)) (by simp only [own_f, own_g, hc3, hc15, hc21, hc27, hc33, not_false_eq_true, not_true_eq_false, and_true, true_and, and_false, false_and, and_self, or_true, true_or, or_false, false_or, or_self, if_true, if_false, reduceIte]), N0, rfl⟩
      · refine gs (fun t k => XS.icmpYes X0.here hx rfl (pc0 := 21) (pc' := 36) rfl (hb hby d1_21) rfl (flt hc21).2.2.2 (by decide) (by decide) k) ?_
        show G (s₁.setTop (mkF m 36 #[.val (.int p0)] []))
        refine gs (fun t k => XS.iconst X0.here hx rfl (hb hby d1_36) k) ?_
        show G (s₁.setTop (mkF m 37 #[.val (.int p0)] [(.int (1 : Int32))]))
        refine gs (fun t k => XS.goto X0.here hx rfl (pc0 := 37) (pc' := 41) rfl (hb hby d1_37) (by decide) (by decide) k) ?_
        show G (s₁.setTop (mkF m 41 #[.val (.int p0)] [(.int (1 : Int32))]))
        obtain ⟨fs, hr, hrun, hended, hW, hsame⟩ := X0.leave (v := some (.int (1 : Int32))) (fun h => by rw [Bd.returns] at h; cases h)
        refine gl _ ⟨_, _, retN X0 hx (t := .boolean) Bd.returns (by simp) (hb hby d1_41) hr, hrun, hended, _, _, rfl, ?_, ⟨_, rfl⟩, hW, hsame.mono (by decide) (by decide)⟩
        show Q1 p0 h0 n0 _ s₁.heap _
        rw [e0]
        
        exact ⟨congrArg (fun z => some (Value.int z)) (by simp only [own_f, own_g, hc3, hc15, hc21, not_false_eq_true, not_true_eq_false, and_true, true_and, and_false, false_and, and_self, or_true, true_or, or_false, false_or, or_self, if_true, if_false, reduceIte]), N0, rfl⟩
  · refine gs (fun t k => XS.icmpNo X0.here hx rfl (hb hby d1_3) rfl (flt hc3).1 k) ?_
    show G (s₁.setTop (mkF m 6 #[.val (.int p0)] []))
    refine gs (fun t k => XS.iloadN X0.here hx rfl (hb hby d1_6) rfl k) ?_
    show G (s₁.setTop (mkF m 7 #[.val (.int p0)] [(.int p0)]))
    refine gs (fun t k => XS.bipush X0.here hx rfl (hb hby d1_7) k) ?_
    show G (s₁.setTop (mkF m 9 #[.val (.int p0)] [(.int (122 : Int32)), (.int p0)]))
    by_cases hc9 : (122 : Int32) < p0
    · refine gs (fun t k => XS.icmpNo X0.here hx rfl (hb hby d1_9) rfl (tlt hc9).2.2.2 k) ?_
      show G (s₁.setTop (mkF m 12 #[.val (.int p0)] []))
      refine gs (fun t k => XS.iloadN X0.here hx rfl (hb hby d1_12) rfl k) ?_
      show G (s₁.setTop (mkF m 13 #[.val (.int p0)] [(.int p0)]))
      refine gs (fun t k => XS.bipush X0.here hx rfl (hb hby d1_13) k) ?_
      show G (s₁.setTop (mkF m 15 #[.val (.int p0)] [(.int (65 : Int32)), (.int p0)]))
      by_cases hc15 : p0 < (65 : Int32)
      · refine gs (fun t k => XS.icmpYes X0.here hx rfl (pc0 := 15) (pc' := 24) rfl (hb hby d1_15) rfl (tlt hc15).1 (by decide) (by decide) k) ?_
        show G (s₁.setTop (mkF m 24 #[.val (.int p0)] []))
        refine gs (fun t k => XS.iloadN X0.here hx rfl (hb hby d1_24) rfl k) ?_
        show G (s₁.setTop (mkF m 25 #[.val (.int p0)] [(.int p0)]))
        refine gs (fun t k => XS.bipush X0.here hx rfl (hb hby d1_25) k) ?_
        show G (s₁.setTop (mkF m 27 #[.val (.int p0)] [(.int (48 : Int32)), (.int p0)]))
        by_cases hc27 : p0 < (48 : Int32)
        · refine gs (fun t k => XS.icmpYes X0.here hx rfl (pc0 := 27) (pc' := 40) rfl (hb hby d1_27) rfl (tlt hc27).1 (by decide) (by decide) k) ?_
          show G (s₁.setTop (mkF m 40 #[.val (.int p0)] []))
          refine gs (fun t k => XS.iconst X0.here hx rfl (hb hby d1_40) k) ?_
          show G (s₁.setTop (mkF m 41 #[.val (.int p0)] [(.int (0 : Int32))]))
          obtain ⟨fs, hr, hrun, hended, hW, hsame⟩ := X0.leave (v := some (.int (0 : Int32))) (fun h => by rw [Bd.returns] at h; cases h)
          refine gl _ ⟨_, _, retN X0 hx (t := .boolean) Bd.returns (by simp) (hb hby d1_41) hr, hrun, hended, _, _, rfl, ?_, ⟨_, rfl⟩, hW, hsame.mono (by decide) (by decide)⟩
          show Q1 p0 h0 n0 _ s₁.heap _
          rw [e0]
          
          exact ⟨congrArg (fun z => some (Value.int z)) (by simp only [own_f, own_g, hc3, hc9, hc15, hc27, not_false_eq_true, not_true_eq_false, and_true, true_and, and_false, false_and, and_self, or_true, true_or, or_false, false_or, or_self, if_true, if_false, reduceIte]), N0, rfl⟩
        · refine gs (fun t k => XS.icmpNo X0.here hx rfl (hb hby d1_27) rfl (flt hc27).1 k) ?_
          show G (s₁.setTop (mkF m 30 #[.val (.int p0)] []))
          refine gs (fun t k => XS.iloadN X0.here hx rfl (hb hby d1_30) rfl k) ?_
          show G (s₁.setTop (mkF m 31 #[.val (.int p0)] [(.int p0)]))
          refine gs (fun t k => XS.bipush X0.here hx rfl (hb hby d1_31) k) ?_
          show G (s₁.setTop (mkF m 33 #[.val (.int p0)] [(.int (57 : Int32)), (.int p0)]))
          by_cases hc33 : (57 : Int32) < p0
          · refine gs (fun t k => XS.icmpYes X0.here hx rfl (pc0 := 33) (pc' := 40) rfl (hb hby d1_33) rfl (tlt hc33).2.2.1 (by decide) (by decide) k) ?_
            show G (s₁.setTop (mkF m 40 #[.val (.int p0)] []))
            refine gs (fun t k => XS.iconst X0.here hx rfl (hb hby d1_40) k) ?_
            show G (s₁.setTop (mkF m 41 #[.val (.int p0)] [(.int (0 : Int32))]))
            obtain ⟨fs, hr, hrun, hended, hW, hsame⟩ := X0.leave (v := some (.int (0 : Int32))) (fun h => by rw [Bd.returns] at h; cases h)
            refine gl _ ⟨_, _, retN X0 hx (t := .boolean) Bd.returns (by simp) (hb hby d1_41) hr, hrun, hended, _, _, rfl, ?_, ⟨_, rfl⟩, hW, hsame.mono (by decide) (by decide)⟩
            show Q1 p0 h0 n0 _ s₁.heap _
            rw [e0]
            
            exact ⟨congrArg (fun z => some (Value.int z)) (by simp only [own_f, own_g, hc3, hc9, hc15, hc27, hc33, not_false_eq_true, not_true_eq_false, and_true, true_and, and_false, false_and, and_self, or_true, true_or, or_false, false_or, or_self, if_true, if_false, reduceIte]), N0, rfl⟩
          · refine gs (fun t k => XS.icmpNo X0.here hx rfl (hb hby d1_33) rfl (flt hc33).2.2.1 k) ?_
            show G (s₁.setTop (mkF m 36 #[.val (.int p0)] []))
            refine gs (fun t k => XS.iconst X0.here hx rfl (hb hby d1_36) k) ?_
            show G (s₁.setTop (mkF m 37 #[.val (.int p0)] [(.int (1 : Int32))]))
            refine gs (fun t k => XS.goto X0.here hx rfl (pc0 := 37) (pc' := 41) rfl (hb hby d1_37) (by decide) (by decide) k) ?_
            show G (s₁.setTop (mkF m 41 #[.val (.int p0)] [(.int (1 : Int32))]))
            obtain ⟨fs, hr, hrun, hended, hW, hsame⟩ := X0.leave (v := some (.int (1 : Int32))) (fun h => by rw [Bd.returns] at h; cases h)
            refine gl _ ⟨_, _, retN X0 hx (t := .boolean) Bd.returns (by simp) (hb hby d1_41) hr, hrun, hended, _, _, rfl, ?_, ⟨_, rfl⟩, hW, hsame.mono (by decide) (by decide)⟩
            show Q1 p0 h0 n0 _ s₁.heap _
            rw [e0]
            
            exact ⟨congrArg (fun z => some (Value.int z)) (by simp only [own_f, own_g, hc3, hc9, hc15, hc27, hc33, not_false_eq_true, not_true_eq_false, and_true, true_and, and_false, false_and, and_self, or_true, true_or, or_false, false_or, or_self, if_true, if_false, reduceIte]), N0, rfl⟩
      · refine gs (fun t k => XS.icmpNo X0.here hx rfl (hb hby d1_15) rfl (flt hc15).1 k) ?_
        show G (s₁.setTop (mkF m 18 #[.val (.int p0)] []))
        refine gs (fun t k => XS.iloadN X0.here hx rfl (hb hby d1_18) rfl k) ?_
        show G (s₁.setTop (mkF m 19 #[.val (.int p0)] [(.int p0)]))
        refine gs (fun t k => XS.bipush X0.here hx rfl (hb hby d1_19) k) ?_
        show G (s₁.setTop (mkF m 21 #[.val (.int p0)] [(.int (90 : Int32)), (.int p0)]))
        by_cases hc21 : (90 : Int32) < p0
        · refine gs (fun t k => XS.icmpNo X0.here hx rfl (hb hby d1_21) rfl (tlt hc21).2.2.2 k) ?_
          show G (s₁.setTop (mkF m 24 #[.val (.int p0)] []))
          refine gs (fun t k => XS.iloadN X0.here hx rfl (hb hby d1_24) rfl k) ?_
          show G (s₁.setTop (mkF m 25 #[.val (.int p0)] [(.int p0)]))
          refine gs (fun t k => XS.bipush X0.here hx rfl (hb hby d1_25) k) ?_
          show G (s₁.setTop (mkF m 27 #[.val (.int p0)] [(.int (48 : Int32)), (.int p0)]))
          by_cases hc27 : p0 < (48 : Int32)
          · refine gs (fun t k => XS.icmpYes X0.here hx rfl (pc0 := 27) (pc' := 40) rfl (hb hby d1_27) rfl (tlt hc27).1 (by decide) (by decide) k) ?_
            show G (s₁.setTop (mkF m 40 #[.val (.int p0)] []))
            refine gs (fun t k => XS.iconst X0.here hx rfl (hb hby d1_40) k) ?_
            show G (s₁.setTop (mkF m 41 #[.val (.int p0)] [(.int (0 : Int32))]))
            obtain ⟨fs, hr, hrun, hended, hW, hsame⟩ := X0.leave (v := some (.int (0 : Int32))) (fun h => by rw [Bd.returns] at h; cases h)
            refine gl _ ⟨_, _, retN X0 hx (t := .boolean) Bd.returns (by simp) (hb hby d1_41) hr, hrun, hended, _, _, rfl, ?_, ⟨_, rfl⟩, hW, hsame.mono (by decide) (by decide)⟩
            show Q1 p0 h0 n0 _ s₁.heap _
            rw [e0]
            
            exact ⟨congrArg (fun z => some (Value.int z)) (by simp only [own_f, own_g, hc3, hc9, hc15, hc21, hc27, not_false_eq_true, not_true_eq_false, and_true, true_and, and_false, false_and, and_self, or_true, true_or, or_false, false_or, or_self, if_true, if_false, reduceIte]), N0, rfl⟩
          · refine gs (fun t k => XS.icmpNo X0.here hx rfl (hb hby d1_27) rfl (flt hc27).1 k) ?_
            show G (s₁.setTop (mkF m 30 #[.val (.int p0)] []))
            refine gs (fun t k => XS.iloadN X0.here hx rfl (hb hby d1_30) rfl k) ?_
            show G (s₁.setTop (mkF m 31 #[.val (.int p0)] [(.int p0)]))
            refine gs (fun t k => XS.bipush X0.here hx rfl (hb hby d1_31) k) ?_
            show G (s₁.setTop (mkF m 33 #[.val (.int p0)] [(.int (57 : Int32)), (.int p0)]))
            by_cases hc33 : (57 : Int32) < p0
            · refine gs (fun t k => XS.icmpYes X0.here hx rfl (pc0 := 33) (pc' := 40) rfl (hb hby d1_33) rfl (tlt hc33).2.2.1 (by decide) (by decide) k) ?_
              show G (s₁.setTop (mkF m 40 #[.val (.int p0)] []))
              refine gs (fun t k => XS.iconst X0.here hx rfl (hb hby d1_40) k) ?_
              show G (s₁.setTop (mkF m 41 #[.val (.int p0)] [(.int (0 : Int32))]))
              obtain ⟨fs, hr, hrun, hended, hW, hsame⟩ := X0.leave (v := some (.int (0 : Int32))) (fun h => by rw [Bd.returns] at h; cases h)
              refine gl _ ⟨_, _, retN X0 hx (t := .boolean) Bd.returns (by simp) (hb hby d1_41) hr, hrun, hended, _, _, rfl, ?_, ⟨_, rfl⟩, hW, hsame.mono (by decide) (by decide)⟩
              show Q1 p0 h0 n0 _ s₁.heap _
              rw [e0]
              
              exact ⟨congrArg (fun z => some (Value.int z)) (by simp only [own_f, own_g, hc3, hc9, hc15, hc21, hc27, hc33, not_false_eq_true, not_true_eq_false, and_true, true_and, and_false, false_and, and_self, or_true, true_or, or_false, false_or, or_self, if_true, if_false, reduceIte]), N0, rfl⟩
            · refine gs (fun t k => XS.icmpNo X0.here hx rfl (hb hby d1_33) rfl (flt hc33).2.2.1 k) ?_
              show G (s₁.setTop (mkF m 36 #[.val (.int p0)] []))
              refine gs (fun t k => XS.iconst X0.here hx rfl (hb hby d1_36) k) ?_
              show G (s₁.setTop (mkF m 37 #[.val (.int p0)] [(.int (1 : Int32))]))
              refine gs (fun t k => XS.goto X0.here hx rfl (pc0 := 37) (pc' := 41) rfl (hb hby d1_37) (by decide) (by decide) k) ?_
              show G (s₁.setTop (mkF m 41 #[.val (.int p0)] [(.int (1 : Int32))]))
              obtain ⟨fs, hr, hrun, hended, hW, hsame⟩ := X0.leave (v := some (.int (1 : Int32))) (fun h => by rw [Bd.returns] at h; cases h)
              refine gl _ ⟨_, _, retN X0 hx (t := .boolean) Bd.returns (by simp) (hb hby d1_41) hr, hrun, hended, _, _, rfl, ?_, ⟨_, rfl⟩, hW, hsame.mono (by decide) (by decide)⟩
              show Q1 p0 h0 n0 _ s₁.heap _
              rw [e0]
              
              exact ⟨congrArg (fun z => some (Value.int z)) (by simp only [own_f, own_g, hc3, hc9, hc15, hc21, hc27, hc33, not_false_eq_true, not_true_eq_false, and_true, true_and, and_false, false_and, and_self, or_true, true_or, or_false, false_or, or_self, if_true, if_false, reduceIte]), N0, rfl⟩
        · refine gs (fun t k => XS.icmpYes X0.here hx rfl (pc0 := 21) (pc' := 36) rfl (hb hby d1_21) rfl (flt hc21).2.2.2 (by decide) (by decide) k) ?_
          show G (s₁.setTop (mkF m 36 #[.val (.int p0)] []))
          refine gs (fun t k => XS.iconst X0.here hx rfl (hb hby d1_36) k) ?_
          show G (s₁.setTop (mkF m 37 #[.val (.int p0)] [(.int (1 : Int32))]))
          refine gs (fun t k => XS.goto X0.here hx rfl (pc0 := 37) (pc' := 41) rfl (hb hby d1_37) (by decide) (by decide) k) ?_
          show G (s₁.setTop (mkF m 41 #[.val (.int p0)] [(.int (1 : Int32))]))
          obtain ⟨fs, hr, hrun, hended, hW, hsame⟩ := X0.leave (v := some (.int (1 : Int32))) (fun h => by rw [Bd.returns] at h; cases h)
          refine gl _ ⟨_, _, retN X0 hx (t := .boolean) Bd.returns (by simp) (hb hby d1_41) hr, hrun, hended, _, _, rfl, ?_, ⟨_, rfl⟩, hW, hsame.mono (by decide) (by decide)⟩
          show Q1 p0 h0 n0 _ s₁.heap _
          rw [e0]
          
          exact ⟨congrArg (fun z => some (Value.int z)) (by simp only [own_f, own_g, hc3, hc9, hc15, hc21, not_false_eq_true, not_true_eq_false, and_true, true_and, and_false, false_and, and_self, or_true, true_or, or_false, false_or, or_self, if_true, if_false, reduceIte]), N0, rfl⟩
    · refine gs (fun t k => XS.icmpYes X0.here hx rfl (pc0 := 9) (pc' := 36) rfl (hb hby d1_9) rfl (flt hc9).2.2.2 (by decide) (by decide) k) ?_
      show G (s₁.setTop (mkF m 36 #[.val (.int p0)] []))
      refine gs (fun t k => XS.iconst X0.here hx rfl (hb hby d1_36) k) ?_
      show G (s₁.setTop (mkF m 37 #[.val (.int p0)] [(.int (1 : Int32))]))
      refine gs (fun t k => XS.goto X0.here hx rfl (pc0 := 37) (pc' := 41) rfl (hb hby d1_37) (by decide) (by decide) k) ?_
      show G (s₁.setTop (mkF m 41 #[.val (.int p0)] [(.int (1 : Int32))]))
      obtain ⟨fs, hr, hrun, hended, hW, hsame⟩ := X0.leave (v := some (.int (1 : Int32))) (fun h => by rw [Bd.returns] at h; cases h)
      refine gl _ ⟨_, _, retN X0 hx (t := .boolean) Bd.returns (by simp) (hb hby d1_41) hr, hrun, hended, _, _, rfl, ?_, ⟨_, rfl⟩, hW, hsame.mono (by decide) (by decide)⟩
      show Q1 p0 h0 n0 _ s₁.heap _
      rw [e0]
      
      exact ⟨congrArg (fun z => some (Value.int z)) (by simp only [own_f, own_g, hc3, hc9, not_false_eq_true, not_true_eq_false, and_true, true_and, and_false, false_and, and_self, or_true, true_or, or_false, false_or, or_self, if_true, if_false, reduceIte]), N0, rfl⟩
theorem d2_0 : decode method_3_code 0 = .ok (.iload_n 0, 1) := by decide +kernel
theorem d2_1 : decode method_3_code 1 = .ok (.i2l, 1) := by decide +kernel
theorem d2_2 : decode method_3_code 2 = .ok (.ldc2_w 18, 3) := by decide +kernel
theorem d2_5 : decode method_3_code 5 = .ok (.lsub, 1) := by decide +kernel
theorem d2_6 : decode method_3_code 6 = .ok (.lstore_n 1, 1) := by decide +kernel
theorem d2_7 : decode method_3_code 7 = .ok (.iload_n 0, 1) := by decide +kernel
theorem d2_8 : decode method_3_code 8 = .ok (.bipush 32, 2) := by decide +kernel
theorem d2_10 : decode method_3_code 10 = .ok (.ior, 1) := by decide +kernel
theorem d2_11 : decode method_3_code 11 = .ok (.istore_n 3, 1) := by decide +kernel
theorem d2_12 : decode method_3_code 12 = .ok (.iload_n 3, 1) := by decide +kernel
theorem d2_13 : decode method_3_code 13 = .ok (.i2l, 1) := by decide +kernel
theorem d2_14 : decode method_3_code 14 = .ok (.ldc2_w 20, 3) := by decide +kernel
theorem d2_17 : decode method_3_code 17 = .ok (.lsub, 1) := by decide +kernel
theorem d2_18 : decode method_3_code 18 = .ok (.lstore 4, 2) := by decide +kernel
theorem d2_20 : decode method_3_code 20 = .ok (.lload_n 1, 1) := by decide +kernel
theorem d2_21 : decode method_3_code 21 = .ok (.lconst 0, 1) := by decide +kernel
theorem d2_22 : decode method_3_code 22 = .ok (.lcmp, 1) := by decide +kernel
theorem d2_23 : decode method_3_code 23 = .ok (.ifCond .lt 15, 3) := by decide +kernel
theorem d2_26 : decode method_3_code 26 = .ok (.lload_n 1, 1) := by decide +kernel
theorem d2_27 : decode method_3_code 27 = .ok (.ldc2_w 22, 3) := by decide +kernel
theorem d2_30 : decode method_3_code 30 = .ok (.lcmp, 1) := by decide +kernel
theorem d2_31 : decode method_3_code 31 = .ok (.ifCond .ge 7, 3) := by decide +kernel
theorem d2_34 : decode method_3_code 34 = .ok (.iconst 1, 1) := by decide +kernel
theorem d2_35 : decode method_3_code 35 = .ok (.goto 4, 3) := by decide +kernel
theorem d2_38 : decode method_3_code 38 = .ok (.iconst 0, 1) := by decide +kernel
theorem d2_39 : decode method_3_code 39 = .ok (.istore 6, 2) := by decide +kernel
theorem d2_41 : decode method_3_code 41 = .ok (.lload 4, 2) := by decide +kernel
theorem d2_43 : decode method_3_code 43 = .ok (.lconst 0, 1) := by decide +kernel
theorem d2_44 : decode method_3_code 44 = .ok (.lcmp, 1) := by decide +kernel
theorem d2_45 : decode method_3_code 45 = .ok (.ifCond .lt 16, 3) := by decide +kernel
theorem d2_48 : decode method_3_code 48 = .ok (.lload 4, 2) := by decide +kernel
theorem d2_50 : decode method_3_code 50 = .ok (.ldc2_w 24, 3) := by decide +kernel
theorem d2_53 : decode method_3_code 53 = .ok (.lcmp, 1) := by decide +kernel
theorem d2_54 : decode method_3_code 54 = .ok (.ifCond .ge 7, 3) := by decide +kernel
theorem d2_57 : decode method_3_code 57 = .ok (.iconst 1, 1) := by decide +kernel
theorem d2_58 : decode method_3_code 58 = .ok (.goto 4, 3) := by decide +kernel
theorem d2_61 : decode method_3_code 61 = .ok (.iconst 0, 1) := by decide +kernel
theorem d2_62 : decode method_3_code 62 = .ok (.istore 7, 2) := by decide +kernel
theorem d2_64 : decode method_3_code 64 = .ok (.iload 6, 2) := by decide +kernel
theorem d2_66 : decode method_3_code 66 = .ok (.ifCond .ne 8, 3) := by decide +kernel
theorem d2_69 : decode method_3_code 69 = .ok (.iload 7, 2) := by decide +kernel
theorem d2_71 : decode method_3_code 71 = .ok (.ifCond .eq 7, 3) := by decide +kernel
theorem d2_74 : decode method_3_code 74 = .ok (.iconst 1, 1) := by decide +kernel
theorem d2_75 : decode method_3_code 75 = .ok (.goto 4, 3) := by decide +kernel
theorem d2_78 : decode method_3_code 78 = .ok (.iconst 0, 1) := by decide +kernel
theorem d2_79 : decode method_3_code 79 = .ok (.ireturn, 1) := by decide +kernel
theorem pn_io_evenkeel_server_FlagsIsAsciiLetterOrDigitPinLaw : plainName "io/evenkeel/server/FlagsIsAsciiLetterOrDigitPinLaw" = true := by first | (simp [plainName, overriddenIn]; done) | decide +kernel
theorem ef_2 (m : MethodId) (p0 : Int32) : entryFrame m #[(.int p0)] 8 = mkF m 0 #[.val (.int p0), .unset, .unset, .unset, .unset, .unset, .unset, .unset] [] := by first | (simp [entryFrame, mkF, argsToLocals, Value.category]; done) | rfl
def Q2 (p0 : Int32) (h0 : Heap) (n0 : Nat) (v : Option Value) (h : Heap) (L : List Loc) : Prop := v = some (.int (own_g p0)) ∧ Fr n0 L ∧ h = h0
set_option maxRecDepth 65536 in
set_option maxHeartbeats 40000000 in
theorem rm2 (l : Launch) (Z : State) (a0 : Array Value) (hw : ∀ d ∈ tables_1, d.before a0 Z = true) (ws : List Jvm.Cond) (p0 : Int32)  (h0 : Heap) (n0 : Nat) (Z0 : n0 ≤ h0.size)  :
    MetFree l (⟨"io/evenkeel/server/FlagsIsAsciiLetterOrDigitPinLaw", "reference", "(I)Z"⟩ : MethodName) (head1 (Jvm.Cond.code (⟨"io/evenkeel/server/FlagsIsAsciiLetterOrDigitPinLaw", "reference", "(I)Z"⟩ : MethodName) method_3_code 8 (some .boolean) :: ws) ({ frames := 0, cells := 0, slots := 0, locals := 0 } : Room)) (fun a U => a = #[(.int p0)] ∧ Z.Warmed39 U.vm ∧ U.heap = h0) (fun _ _ _ _ _ => True) (fun _ U o U' => ∃ v L, o = .returned v ∧ Q2 p0 h0 n0 v U'.heap L ∧ FrameEnd U o U' L ({ frames := 0, cells := 0, slots := 0, locals := 0 } : Room).cells ({ frames := 0, cells := 0, slots := 0, locals := 0 } : Room).slots) := by
  refine MetFree.of_bodySF (plainFor_of_name pn_io_evenkeel_server_FlagsIsAsciiLetterOrDigitPinLaw) hisR ?_
  intro p e s m args below meth c s₁ Bd hml0 hP hK
  obtain ⟨rfl, hZ, hh⟩ := hP
  have hx := Bd.exec
  have hby := Bd.bytes
  have hml : c.maxLocals = 8 := hml0
  have hown : s.vm.findClass "io/evenkeel/server/FlagsIsAsciiLetterOrDigitPinLaw" = some m.cls := findClass_of_methodNamed Bd.named
  have hnm := (name_of_methodNamed Bd.named Bd.method).1
  have X0 : Stand p l e ({ frames := 0, cells := 0, slots := 0, locals := 0 } : Room) s m #[(.int p0)] below meth c s₁ [] 0 0 := Stand.of_body Bd
  have e0 : s₁.heap = h0 := by rw [← hh, Bd.state]; rfl
  have N0 := Fr.nil n0
  have pre0 : ∀ t, Steps p.tables e below (s₁.setTop (mkF m 0 #[.val (.int p0), .unset, .unset, .unset, .unset, .unset, .unset, .unset] [])) t → Steps p.tables e below (s₁.setTop (entryFrame m #[(.int p0)] 8)) t := fun t k => castTop (ef_2 m p0) k
  have K0 := Keep.refl h0 []
  refine own_start pre0 fun G gs gl => ?_
  show G (s₁.setTop (mkF m 0 #[.val (.int p0), .unset, .unset, .unset, .unset, .unset, .unset, .unset] []))
  refine gs (fun t k => XS.iloadN X0.here hx rfl (hb hby d2_0) rfl k) ?_
  show G (s₁.setTop (mkF m 1 #[.val (.int p0), .unset, .unset, .unset, .unset, .unset, .unset, .unset] [(.int p0)]))
  refine gs (fun t k => XS.i2l X0.here hx rfl (hb hby d2_1) rfl k) ?_
  show G (s₁.setTop (mkF m 2 #[.val (.int p0), .unset, .unset, .unset, .unset, .unset, .unset, .unset] [(.long (p0.toInt64))]))
  refine gs (fun t k => X0.ldc2Long hx hown (mvT hZ (hw _ (List.mem_of_getElem? (i := 8) rfl))) (g := (mkF m 2 #[.val (.int p0), .unset, .unset, .unset, .unset, .unset, .unset, .unset] [(.long (p0.toInt64))])) rfl (hb hby d2_2) _ k) ?_
  show G (s₁.setTop (mkF m 5 #[.val (.int p0), .unset, .unset, .unset, .unset, .unset, .unset, .unset] [(.long (48 : Int64)), (.long (p0.toInt64))]))
  refine gs (fun t k => XS.lsub X0.here hx rfl (hb hby d2_5) rfl k) ?_
  show G (s₁.setTop (mkF m 6 #[.val (.int p0), .unset, .unset, .unset, .unset, .unset, .unset, .unset] [(.long ((p0.toInt64) - (48 : Int64)))]))
  refine gs (fun t k => XS.lstoreN X0.here hx rfl (hb hby d2_6) rfl (l' := #[.val (.int p0), .val (.long ((p0.toInt64) - (48 : Int64))), .second, .unset, .unset, .unset, .unset, .unset]) rfl k) ?_
  show G (s₁.setTop (mkF m 7 #[.val (.int p0), .val (.long ((p0.toInt64) - (48 : Int64))), .second, .unset, .unset, .unset, .unset, .unset] []))
  refine gs (fun t k => XS.iloadN X0.here hx rfl (hb hby d2_7) rfl k) ?_
  show G (s₁.setTop (mkF m 8 #[.val (.int p0), .val (.long ((p0.toInt64) - (48 : Int64))), .second, .unset, .unset, .unset, .unset, .unset] [(.int p0)]))
  refine gs (fun t k => XS.bipush X0.here hx rfl (hb hby d2_8) k) ?_
  show G (s₁.setTop (mkF m 10 #[.val (.int p0), .val (.long ((p0.toInt64) - (48 : Int64))), .second, .unset, .unset, .unset, .unset, .unset] [(.int (32 : Int32)), (.int p0)]))
  refine gs (fun t k => XS.ior X0.here hx rfl (hb hby d2_10) rfl k) ?_
  show G (s₁.setTop (mkF m 11 #[.val (.int p0), .val (.long ((p0.toInt64) - (48 : Int64))), .second, .unset, .unset, .unset, .unset, .unset] [(.int (p0 ||| (32 : Int32)))]))
  refine gs (fun t k => XS.istoreN X0.here hx rfl (hb hby d2_11) rfl (l' := #[.val (.int p0), .val (.long ((p0.toInt64) - (48 : Int64))), .second, .val (.int (p0 ||| (32 : Int32))), .unset, .unset, .unset, .unset]) rfl k) ?_
  show G (s₁.setTop (mkF m 12 #[.val (.int p0), .val (.long ((p0.toInt64) - (48 : Int64))), .second, .val (.int (p0 ||| (32 : Int32))), .unset, .unset, .unset, .unset] []))
  refine gs (fun t k => XS.iloadN X0.here hx rfl (hb hby d2_12) rfl k) ?_
  show G (s₁.setTop (mkF m 13 #[.val (.int p0), .val (.long ((p0.toInt64) - (48 : Int64))), .second, .val (.int (p0 ||| (32 : Int32))), .unset, .unset, .unset, .unset] [(.int (p0 ||| (32 : Int32)))]))
  refine gs (fun t k => XS.i2l X0.here hx rfl (hb hby d2_13) rfl k) ?_
  show G (s₁.setTop (mkF m 14 #[.val (.int p0), .val (.long ((p0.toInt64) - (48 : Int64))), .second, .val (.int (p0 ||| (32 : Int32))), .unset, .unset, .unset, .unset] [(.long ((p0 ||| (32 : Int32)).toInt64))]))
  refine gs (fun t k => X0.ldc2Long hx hown (mvT hZ (hw _ (List.mem_of_getElem? (i := 9) rfl))) (g := (mkF m 14 #[.val (.int p0), .val (.long ((p0.toInt64) - (48 : Int64))), .second, .val (.int (p0 ||| (32 : Int32))), .unset, .unset, .unset, .unset] [(.long ((p0 ||| (32 : Int32)).toInt64))])) rfl (hb hby d2_14) _ k) ?_
  show G (s₁.setTop (mkF m 17 #[.val (.int p0), .val (.long ((p0.toInt64) - (48 : Int64))), .second, .val (.int (p0 ||| (32 : Int32))), .unset, .unset, .unset, .unset] [(.long (97 : Int64)), (.long ((p0 ||| (32 : Int32)).toInt64))]))
  refine gs (fun t k => XS.lsub X0.here hx rfl (hb hby d2_17) rfl k) ?_
  show G (s₁.setTop (mkF m 18 #[.val (.int p0), .val (.long ((p0.toInt64) - (48 : Int64))), .second, .val (.int (p0 ||| (32 : Int32))), .unset, .unset, .unset, .unset] [(.long (((p0 ||| (32 : Int32)).toInt64) - (97 : Int64)))]))
  refine gs (fun t k => XS.lstore X0.here hx rfl (hb hby d2_18) rfl (l' := #[.val (.int p0), .val (.long ((p0.toInt64) - (48 : Int64))), .second, .val (.int (p0 ||| (32 : Int32))), .val (.long (((p0 ||| (32 : Int32)).toInt64) - (97 : Int64))), .second, .unset, .unset]) rfl k) ?_
  show G (s₁.setTop (mkF m 20 #[.val (.int p0), .val (.long ((p0.toInt64) - (48 : Int64))), .second, .val (.int (p0 ||| (32 : Int32))), .val (.long (((p0 ||| (32 : Int32)).toInt64) - (97 : Int64))), .second, .unset, .unset] []))
  refine gs (fun t k => XS.lloadN X0.here hx rfl (hb hby d2_20) rfl k) ?_
  show G (s₁.setTop (mkF m 21 #[.val (.int p0), .val (.long ((p0.toInt64) - (48 : Int64))), .second, .val (.int (p0 ||| (32 : Int32))), .val (.long (((p0 ||| (32 : Int32)).toInt64) - (97 : Int64))), .second, .unset, .unset] [(.long ((p0.toInt64) - (48 : Int64)))]))
  refine gs (fun t k => XS.lconst X0.here hx rfl (hb hby d2_21) k) ?_
  show G (s₁.setTop (mkF m 22 #[.val (.int p0), .val (.long ((p0.toInt64) - (48 : Int64))), .second, .val (.int (p0 ||| (32 : Int32))), .val (.long (((p0 ||| (32 : Int32)).toInt64) - (97 : Int64))), .second, .unset, .unset] [(.long (0 : Int64)), (.long ((p0.toInt64) - (48 : Int64)))]))
  refine gs (fun t k => XS.lcmp X0.here hx rfl (hb hby d2_22) rfl k) ?_
  show G (s₁.setTop (mkF m 23 #[.val (.int p0), .val (.long ((p0.toInt64) - (48 : Int64))), .second, .val (.int (p0 ||| (32 : Int32))), .val (.long (((p0 ||| (32 : Int32)).toInt64) - (97 : Int64))), .second, .unset, .unset] [(.int (lcmpW ((p0.toInt64) - (48 : Int64)) (0 : Int64)))]))
  by_cases hc23 : (lcmpW ((p0.toInt64) - (48 : Int64)) (0 : Int64)) < (0 : Int32)
  · refine gs (fun t k => XS.ifYes X0.here hx rfl (pc0 := 23) (pc' := 38) rfl (hb hby d2_23) rfl ((if0 _ _).trans (tlt hc23).1) (by decide) (by decide) k) ?_
    show G (s₁.setTop (mkF m 38 #[.val (.int p0), .val (.long ((p0.toInt64) - (48 : Int64))), .second, .val (.int (p0 ||| (32 : Int32))), .val (.long (((p0 ||| (32 : Int32)).toInt64) - (97 : Int64))), .second, .unset, .unset] []))
    refine gs (fun t k => XS.iconst X0.here hx rfl (hb hby d2_38) k) ?_
    show G (s₁.setTop (mkF m 39 #[.val (.int p0), .val (.long ((p0.toInt64) - (48 : Int64))), .second, .val (.int (p0 ||| (32 : Int32))), .val (.long (((p0 ||| (32 : Int32)).toInt64) - (97 : Int64))), .second, .unset, .unset] [(.int (0 : Int32))]))
    refine gs (fun t k => XS.istore X0.here hx rfl (hb hby d2_39) rfl (l' := #[.val (.int p0), .val (.long ((p0.toInt64) - (48 : Int64))), .second, .val (.int (p0 ||| (32 : Int32))), .val (.long (((p0 ||| (32 : Int32)).toInt64) - (97 : Int64))), .second, .val (.int (0 : Int32)), .unset]) rfl k) ?_
    show G (s₁.setTop (mkF m 41 #[.val (.int p0), .val (.long ((p0.toInt64) - (48 : Int64))), .second, .val (.int (p0 ||| (32 : Int32))), .val (.long (((p0 ||| (32 : Int32)).toInt64) - (97 : Int64))), .second, .val (.int (0 : Int32)), .unset] []))
    refine gs (fun t k => XS.lload X0.here hx rfl (hb hby d2_41) rfl k) ?_
    show G (s₁.setTop (mkF m 43 #[.val (.int p0), .val (.long ((p0.toInt64) - (48 : Int64))), .second, .val (.int (p0 ||| (32 : Int32))), .val (.long (((p0 ||| (32 : Int32)).toInt64) - (97 : Int64))), .second, .val (.int (0 : Int32)), .unset] [(.long (((p0 ||| (32 : Int32)).toInt64) - (97 : Int64)))]))
    refine gs (fun t k => XS.lconst X0.here hx rfl (hb hby d2_43) k) ?_
    show G (s₁.setTop (mkF m 44 #[.val (.int p0), .val (.long ((p0.toInt64) - (48 : Int64))), .second, .val (.int (p0 ||| (32 : Int32))), .val (.long (((p0 ||| (32 : Int32)).toInt64) - (97 : Int64))), .second, .val (.int (0 : Int32)), .unset] [(.long (0 : Int64)), (.long (((p0 ||| (32 : Int32)).toInt64) - (97 : Int64)))]))
    refine gs (fun t k => XS.lcmp X0.here hx rfl (hb hby d2_44) rfl k) ?_
    show G (s₁.setTop (mkF m 45 #[.val (.int p0), .val (.long ((p0.toInt64) - (48 : Int64))), .second, .val (.int (p0 ||| (32 : Int32))), .val (.long (((p0 ||| (32 : Int32)).toInt64) - (97 : Int64))), .second, .val (.int (0 : Int32)), .unset] [(.int (lcmpW (((p0 ||| (32 : Int32)).toInt64) - (97 : Int64)) (0 : Int64)))]))
    by_cases hc45 : (lcmpW (((p0 ||| (32 : Int32)).toInt64) - (97 : Int64)) (0 : Int64)) < (0 : Int32)
    · refine gs (fun t k => XS.ifYes X0.here hx rfl (pc0 := 45) (pc' := 61) rfl (hb hby d2_45) rfl ((if0 _ _).trans (tlt hc45).1) (by decide) (by decide) k) ?_
      show G (s₁.setTop (mkF m 61 #[.val (.int p0), .val (.long ((p0.toInt64) - (48 : Int64))), .second, .val (.int (p0 ||| (32 : Int32))), .val (.long (((p0 ||| (32 : Int32)).toInt64) - (97 : Int64))), .second, .val (.int (0 : Int32)), .unset] []))
      refine gs (fun t k => XS.iconst X0.here hx rfl (hb hby d2_61) k) ?_
      show G (s₁.setTop (mkF m 62 #[.val (.int p0), .val (.long ((p0.toInt64) - (48 : Int64))), .second, .val (.int (p0 ||| (32 : Int32))), .val (.long (((p0 ||| (32 : Int32)).toInt64) - (97 : Int64))), .second, .val (.int (0 : Int32)), .unset] [(.int (0 : Int32))]))
      refine gs (fun t k => XS.istore X0.here hx rfl (hb hby d2_62) rfl (l' := #[.val (.int p0), .val (.long ((p0.toInt64) - (48 : Int64))), .second, .val (.int (p0 ||| (32 : Int32))), .val (.long (((p0 ||| (32 : Int32)).toInt64) - (97 : Int64))), .second, .val (.int (0 : Int32)), .val (.int (0 : Int32))]) rfl k) ?_
      show G (s₁.setTop (mkF m 64 #[.val (.int p0), .val (.long ((p0.toInt64) - (48 : Int64))), .second, .val (.int (p0 ||| (32 : Int32))), .val (.long (((p0 ||| (32 : Int32)).toInt64) - (97 : Int64))), .second, .val (.int (0 : Int32)), .val (.int (0 : Int32))] []))
      refine gs (fun t k => XS.iload X0.here hx rfl (hb hby d2_64) rfl k) ?_
      show G (s₁.setTop (mkF m 66 #[.val (.int p0), .val (.long ((p0.toInt64) - (48 : Int64))), .second, .val (.int (p0 ||| (32 : Int32))), .val (.long (((p0 ||| (32 : Int32)).toInt64) - (97 : Int64))), .second, .val (.int (0 : Int32)), .val (.int (0 : Int32))] [(.int (0 : Int32))]))
      refine gs (fun t k => XS.ifNo X0.here hx rfl (hb hby d2_66) rfl ((if0 _ _).trans (teq (by decide : (0 : Int32) = (0 : Int32))).2) k) ?_
      show G (s₁.setTop (mkF m 69 #[.val (.int p0), .val (.long ((p0.toInt64) - (48 : Int64))), .second, .val (.int (p0 ||| (32 : Int32))), .val (.long (((p0 ||| (32 : Int32)).toInt64) - (97 : Int64))), .second, .val (.int (0 : Int32)), .val (.int (0 : Int32))] []))
      refine gs (fun t k => XS.iload X0.here hx rfl (hb hby d2_69) rfl k) ?_
      show G (s₁.setTop (mkF m 71 #[.val (.int p0), .val (.long ((p0.toInt64) - (48 : Int64))), .second, .val (.int (p0 ||| (32 : Int32))), .val (.long (((p0 ||| (32 : Int32)).toInt64) - (97 : Int64))), .second, .val (.int (0 : Int32)), .val (.int (0 : Int32))] [(.int (0 : Int32))]))
      refine gs (fun t k => XS.ifYes X0.here hx rfl (pc0 := 71) (pc' := 78) rfl (hb hby d2_71) rfl ((if0 _ _).trans (teq (by decide : (0 : Int32) = (0 : Int32))).1) (by decide) (by decide) k) ?_
      show G (s₁.setTop (mkF m 78 #[.val (.int p0), .val (.long ((p0.toInt64) - (48 : Int64))), .second, .val (.int (p0 ||| (32 : Int32))), .val (.long (((p0 ||| (32 : Int32)).toInt64) - (97 : Int64))), .second, .val (.int (0 : Int32)), .val (.int (0 : Int32))] []))
      refine gs (fun t k => XS.iconst X0.here hx rfl (hb hby d2_78) k) ?_
      show G (s₁.setTop (mkF m 79 #[.val (.int p0), .val (.long ((p0.toInt64) - (48 : Int64))), .second, .val (.int (p0 ||| (32 : Int32))), .val (.long (((p0 ||| (32 : Int32)).toInt64) - (97 : Int64))), .second, .val (.int (0 : Int32)), .val (.int (0 : Int32))] [(.int (0 : Int32))]))
      obtain ⟨fs, hr, hrun, hended, hW, hsame⟩ := X0.leave (v := some (.int (0 : Int32))) (fun h => by rw [Bd.returns] at h; cases h)
      refine gl _ ⟨_, _, retN X0 hx (t := .boolean) Bd.returns (by simp) (hb hby d2_79) hr, hrun, hended, _, _, rfl, ?_, ⟨_, rfl⟩, hW, hsame.mono (by decide) (by decide)⟩
      show Q2 p0 h0 n0 _ s₁.heap _
      rw [e0]
      rw [lw_lt] at hc23
      rw [lw_lt] at hc45
      exact ⟨congrArg (fun z => some (Value.int z)) (by simp only [own_f, own_g, hc23, hc45, not_false_eq_true, not_true_eq_false, and_true, true_and, and_false, false_and, and_self, or_true, true_or, or_false, false_or, or_self, if_true, if_false, reduceIte]), N0, rfl⟩
    · refine gs (fun t k => XS.ifNo X0.here hx rfl (hb hby d2_45) rfl ((if0 _ _).trans (flt hc45).1) k) ?_
      show G (s₁.setTop (mkF m 48 #[.val (.int p0), .val (.long ((p0.toInt64) - (48 : Int64))), .second, .val (.int (p0 ||| (32 : Int32))), .val (.long (((p0 ||| (32 : Int32)).toInt64) - (97 : Int64))), .second, .val (.int (0 : Int32)), .unset] []))
      refine gs (fun t k => XS.lload X0.here hx rfl (hb hby d2_48) rfl k) ?_
      show G (s₁.setTop (mkF m 50 #[.val (.int p0), .val (.long ((p0.toInt64) - (48 : Int64))), .second, .val (.int (p0 ||| (32 : Int32))), .val (.long (((p0 ||| (32 : Int32)).toInt64) - (97 : Int64))), .second, .val (.int (0 : Int32)), .unset] [(.long (((p0 ||| (32 : Int32)).toInt64) - (97 : Int64)))]))
      refine gs (fun t k => X0.ldc2Long hx hown (mvT hZ (hw _ (List.mem_of_getElem? (i := 11) rfl))) (g := (mkF m 50 #[.val (.int p0), .val (.long ((p0.toInt64) - (48 : Int64))), .second, .val (.int (p0 ||| (32 : Int32))), .val (.long (((p0 ||| (32 : Int32)).toInt64) - (97 : Int64))), .second, .val (.int (0 : Int32)), .unset] [(.long (((p0 ||| (32 : Int32)).toInt64) - (97 : Int64)))])) rfl (hb hby d2_50) _ k) ?_
      show G (s₁.setTop (mkF m 53 #[.val (.int p0), .val (.long ((p0.toInt64) - (48 : Int64))), .second, .val (.int (p0 ||| (32 : Int32))), .val (.long (((p0 ||| (32 : Int32)).toInt64) - (97 : Int64))), .second, .val (.int (0 : Int32)), .unset] [(.long (26 : Int64)), (.long (((p0 ||| (32 : Int32)).toInt64) - (97 : Int64)))]))
      refine gs (fun t k => XS.lcmp X0.here hx rfl (hb hby d2_53) rfl k) ?_
      show G (s₁.setTop (mkF m 54 #[.val (.int p0), .val (.long ((p0.toInt64) - (48 : Int64))), .second, .val (.int (p0 ||| (32 : Int32))), .val (.long (((p0 ||| (32 : Int32)).toInt64) - (97 : Int64))), .second, .val (.int (0 : Int32)), .unset] [(.int (lcmpW (((p0 ||| (32 : Int32)).toInt64) - (97 : Int64)) (26 : Int64)))]))
      by_cases hc54 : (lcmpW (((p0 ||| (32 : Int32)).toInt64) - (97 : Int64)) (26 : Int64)) < (0 : Int32)
      · refine gs (fun t k => XS.ifNo X0.here hx rfl (hb hby d2_54) rfl ((if0 _ _).trans (tlt hc54).2.1) k) ?_
        show G (s₁.setTop (mkF m 57 #[.val (.int p0), .val (.long ((p0.toInt64) - (48 : Int64))), .second, .val (.int (p0 ||| (32 : Int32))), .val (.long (((p0 ||| (32 : Int32)).toInt64) - (97 : Int64))), .second, .val (.int (0 : Int32)), .unset] []))
        refine gs (fun t k => XS.iconst X0.here hx rfl (hb hby d2_57) k) ?_
        show G (s₁.setTop (mkF m 58 #[.val (.int p0), .val (.long ((p0.toInt64) - (48 : Int64))), .second, .val (.int (p0 ||| (32 : Int32))), .val (.long (((p0 ||| (32 : Int32)).toInt64) - (97 : Int64))), .second, .val (.int (0 : Int32)), .unset] [(.int (1 : Int32))]))
        refine gs (fun t k => XS.goto X0.here hx rfl (pc0 := 58) (pc' := 62) rfl (hb hby d2_58) (by decide) (by decide) k) ?_
        show G (s₁.setTop (mkF m 62 #[.val (.int p0), .val (.long ((p0.toInt64) - (48 : Int64))), .second, .val (.int (p0 ||| (32 : Int32))), .val (.long (((p0 ||| (32 : Int32)).toInt64) - (97 : Int64))), .second, .val (.int (0 : Int32)), .unset] [(.int (1 : Int32))]))
        refine gs (fun t k => XS.istore X0.here hx rfl (hb hby d2_62) rfl (l' := #[.val (.int p0), .val (.long ((p0.toInt64) - (48 : Int64))), .second, .val (.int (p0 ||| (32 : Int32))), .val (.long (((p0 ||| (32 : Int32)).toInt64) - (97 : Int64))), .second, .val (.int (0 : Int32)), .val (.int (1 : Int32))]) rfl k) ?_
        show G (s₁.setTop (mkF m 64 #[.val (.int p0), .val (.long ((p0.toInt64) - (48 : Int64))), .second, .val (.int (p0 ||| (32 : Int32))), .val (.long (((p0 ||| (32 : Int32)).toInt64) - (97 : Int64))), .second, .val (.int (0 : Int32)), .val (.int (1 : Int32))] []))
        refine gs (fun t k => XS.iload X0.here hx rfl (hb hby d2_64) rfl k) ?_
        show G (s₁.setTop (mkF m 66 #[.val (.int p0), .val (.long ((p0.toInt64) - (48 : Int64))), .second, .val (.int (p0 ||| (32 : Int32))), .val (.long (((p0 ||| (32 : Int32)).toInt64) - (97 : Int64))), .second, .val (.int (0 : Int32)), .val (.int (1 : Int32))] [(.int (0 : Int32))]))
        refine gs (fun t k => XS.ifNo X0.here hx rfl (hb hby d2_66) rfl ((if0 _ _).trans (teq (by decide : (0 : Int32) = (0 : Int32))).2) k) ?_
        show G (s₁.setTop (mkF m 69 #[.val (.int p0), .val (.long ((p0.toInt64) - (48 : Int64))), .second, .val (.int (p0 ||| (32 : Int32))), .val (.long (((p0 ||| (32 : Int32)).toInt64) - (97 : Int64))), .second, .val (.int (0 : Int32)), .val (.int (1 : Int32))] []))
        refine gs (fun t k => XS.iload X0.here hx rfl (hb hby d2_69) rfl k) ?_
        show G (s₁.setTop (mkF m 71 #[.val (.int p0), .val (.long ((p0.toInt64) - (48 : Int64))), .second, .val (.int (p0 ||| (32 : Int32))), .val (.long (((p0 ||| (32 : Int32)).toInt64) - (97 : Int64))), .second, .val (.int (0 : Int32)), .val (.int (1 : Int32))] [(.int (1 : Int32))]))
        refine gs (fun t k => XS.ifNo X0.here hx rfl (hb hby d2_71) rfl ((if0 _ _).trans (feq (by decide : ¬ ((1 : Int32) = (0 : Int32)))).1) k) ?_
        show G (s₁.setTop (mkF m 74 #[.val (.int p0), .val (.long ((p0.toInt64) - (48 : Int64))), .second, .val (.int (p0 ||| (32 : Int32))), .val (.long (((p0 ||| (32 : Int32)).toInt64) - (97 : Int64))), .second, .val (.int (0 : Int32)), .val (.int (1 : Int32))] []))
        refine gs (fun t k => XS.iconst X0.here hx rfl (hb hby d2_74) k) ?_
        show G (s₁.setTop (mkF m 75 #[.val (.int p0), .val (.long ((p0.toInt64) - (48 : Int64))), .second, .val (.int (p0 ||| (32 : Int32))), .val (.long (((p0 ||| (32 : Int32)).toInt64) - (97 : Int64))), .second, .val (.int (0 : Int32)), .val (.int (1 : Int32))] [(.int (1 : Int32))]))
        refine gs (fun t k => XS.goto X0.here hx rfl (pc0 := 75) (pc' := 79) rfl (hb hby d2_75) (by decide) (by decide) k) ?_
        show G (s₁.setTop (mkF m 79 #[.val (.int p0), .val (.long ((p0.toInt64) - (48 : Int64))), .second, .val (.int (p0 ||| (32 : Int32))), .val (.long (((p0 ||| (32 : Int32)).toInt64) - (97 : Int64))), .second, .val (.int (0 : Int32)), .val (.int (1 : Int32))] [(.int (1 : Int32))]))
        obtain ⟨fs, hr, hrun, hended, hW, hsame⟩ := X0.leave (v := some (.int (1 : Int32))) (fun h => by rw [Bd.returns] at h; cases h)
        refine gl _ ⟨_, _, retN X0 hx (t := .boolean) Bd.returns (by simp) (hb hby d2_79) hr, hrun, hended, _, _, rfl, ?_, ⟨_, rfl⟩, hW, hsame.mono (by decide) (by decide)⟩
        show Q2 p0 h0 n0 _ s₁.heap _
        rw [e0]
        rw [lw_lt] at hc23
        rw [lw_lt] at hc45
        rw [lw_lt] at hc54
        exact ⟨congrArg (fun z => some (Value.int z)) (by simp only [own_f, own_g, hc23, hc45, hc54, not_false_eq_true, not_true_eq_false, and_true, true_and, and_false, false_and, and_self, or_true, true_or, or_false, false_or, or_self, if_true, if_false, reduceIte]), N0, rfl⟩
      · refine gs (fun t k => XS.ifYes X0.here hx rfl (pc0 := 54) (pc' := 61) rfl (hb hby d2_54) rfl ((if0 _ _).trans (flt hc54).2.1) (by decide) (by decide) k) ?_
        show G (s₁.setTop (mkF m 61 #[.val (.int p0), .val (.long ((p0.toInt64) - (48 : Int64))), .second, .val (.int (p0 ||| (32 : Int32))), .val (.long (((p0 ||| (32 : Int32)).toInt64) - (97 : Int64))), .second, .val (.int (0 : Int32)), .unset] []))
        refine gs (fun t k => XS.iconst X0.here hx rfl (hb hby d2_61) k) ?_
        show G (s₁.setTop (mkF m 62 #[.val (.int p0), .val (.long ((p0.toInt64) - (48 : Int64))), .second, .val (.int (p0 ||| (32 : Int32))), .val (.long (((p0 ||| (32 : Int32)).toInt64) - (97 : Int64))), .second, .val (.int (0 : Int32)), .unset] [(.int (0 : Int32))]))
        refine gs (fun t k => XS.istore X0.here hx rfl (hb hby d2_62) rfl (l' := #[.val (.int p0), .val (.long ((p0.toInt64) - (48 : Int64))), .second, .val (.int (p0 ||| (32 : Int32))), .val (.long (((p0 ||| (32 : Int32)).toInt64) - (97 : Int64))), .second, .val (.int (0 : Int32)), .val (.int (0 : Int32))]) rfl k) ?_
        show G (s₁.setTop (mkF m 64 #[.val (.int p0), .val (.long ((p0.toInt64) - (48 : Int64))), .second, .val (.int (p0 ||| (32 : Int32))), .val (.long (((p0 ||| (32 : Int32)).toInt64) - (97 : Int64))), .second, .val (.int (0 : Int32)), .val (.int (0 : Int32))] []))
        refine gs (fun t k => XS.iload X0.here hx rfl (hb hby d2_64) rfl k) ?_
        show G (s₁.setTop (mkF m 66 #[.val (.int p0), .val (.long ((p0.toInt64) - (48 : Int64))), .second, .val (.int (p0 ||| (32 : Int32))), .val (.long (((p0 ||| (32 : Int32)).toInt64) - (97 : Int64))), .second, .val (.int (0 : Int32)), .val (.int (0 : Int32))] [(.int (0 : Int32))]))
        refine gs (fun t k => XS.ifNo X0.here hx rfl (hb hby d2_66) rfl ((if0 _ _).trans (teq (by decide : (0 : Int32) = (0 : Int32))).2) k) ?_
        show G (s₁.setTop (mkF m 69 #[.val (.int p0), .val (.long ((p0.toInt64) - (48 : Int64))), .second, .val (.int (p0 ||| (32 : Int32))), .val (.long (((p0 ||| (32 : Int32)).toInt64) - (97 : Int64))), .second, .val (.int (0 : Int32)), .val (.int (0 : Int32))] []))
        refine gs (fun t k => XS.iload X0.here hx rfl (hb hby d2_69) rfl k) ?_
        show G (s₁.setTop (mkF m 71 #[.val (.int p0), .val (.long ((p0.toInt64) - (48 : Int64))), .second, .val (.int (p0 ||| (32 : Int32))), .val (.long (((p0 ||| (32 : Int32)).toInt64) - (97 : Int64))), .second, .val (.int (0 : Int32)), .val (.int (0 : Int32))] [(.int (0 : Int32))]))
        refine gs (fun t k => XS.ifYes X0.here hx rfl (pc0 := 71) (pc' := 78) rfl (hb hby d2_71) rfl ((if0 _ _).trans (teq (by decide : (0 : Int32) = (0 : Int32))).1) (by decide) (by decide) k) ?_
        show G (s₁.setTop (mkF m 78 #[.val (.int p0), .val (.long ((p0.toInt64) - (48 : Int64))), .second, .val (.int (p0 ||| (32 : Int32))), .val (.long (((p0 ||| (32 : Int32)).toInt64) - (97 : Int64))), .second, .val (.int (0 : Int32)), .val (.int (0 : Int32))] []))
        refine gs (fun t k => XS.iconst X0.here hx rfl (hb hby d2_78) k) ?_
        show G (s₁.setTop (mkF m 79 #[.val (.int p0), .val (.long ((p0.toInt64) - (48 : Int64))), .second, .val (.int (p0 ||| (32 : Int32))), .val (.long (((p0 ||| (32 : Int32)).toInt64) - (97 : Int64))), .second, .val (.int (0 : Int32)), .val (.int (0 : Int32))] [(.int (0 : Int32))]))
        obtain ⟨fs, hr, hrun, hended, hW, hsame⟩ := X0.leave (v := some (.int (0 : Int32))) (fun h => by rw [Bd.returns] at h; cases h)
        refine gl _ ⟨_, _, retN X0 hx (t := .boolean) Bd.returns (by simp) (hb hby d2_79) hr, hrun, hended, _, _, rfl, ?_, ⟨_, rfl⟩, hW, hsame.mono (by decide) (by decide)⟩
        show Q2 p0 h0 n0 _ s₁.heap _
        rw [e0]
        rw [lw_lt] at hc23
        rw [lw_lt] at hc45
        rw [lw_lt] at hc54
        exact ⟨congrArg (fun z => some (Value.int z)) (by simp only [own_f, own_g, hc23, hc45, hc54, not_false_eq_true, not_true_eq_false, and_true, true_and, and_false, false_and, and_self, or_true, true_or, or_false, false_or, or_self, if_true, if_false, reduceIte]), N0, rfl⟩
  · refine gs (fun t k => XS.ifNo X0.here hx rfl (hb hby d2_23) rfl ((if0 _ _).trans (flt hc23).1) k) ?_
    show G (s₁.setTop (mkF m 26 #[.val (.int p0), .val (.long ((p0.toInt64) - (48 : Int64))), .second, .val (.int (p0 ||| (32 : Int32))), .val (.long (((p0 ||| (32 : Int32)).toInt64) - (97 : Int64))), .second, .unset, .unset] []))
    refine gs (fun t k => XS.lloadN X0.here hx rfl (hb hby d2_26) rfl k) ?_
    show G (s₁.setTop (mkF m 27 #[.val (.int p0), .val (.long ((p0.toInt64) - (48 : Int64))), .second, .val (.int (p0 ||| (32 : Int32))), .val (.long (((p0 ||| (32 : Int32)).toInt64) - (97 : Int64))), .second, .unset, .unset] [(.long ((p0.toInt64) - (48 : Int64)))]))
    refine gs (fun t k => X0.ldc2Long hx hown (mvT hZ (hw _ (List.mem_of_getElem? (i := 10) rfl))) (g := (mkF m 27 #[.val (.int p0), .val (.long ((p0.toInt64) - (48 : Int64))), .second, .val (.int (p0 ||| (32 : Int32))), .val (.long (((p0 ||| (32 : Int32)).toInt64) - (97 : Int64))), .second, .unset, .unset] [(.long ((p0.toInt64) - (48 : Int64)))])) rfl (hb hby d2_27) _ k) ?_
    show G (s₁.setTop (mkF m 30 #[.val (.int p0), .val (.long ((p0.toInt64) - (48 : Int64))), .second, .val (.int (p0 ||| (32 : Int32))), .val (.long (((p0 ||| (32 : Int32)).toInt64) - (97 : Int64))), .second, .unset, .unset] [(.long (10 : Int64)), (.long ((p0.toInt64) - (48 : Int64)))]))
    refine gs (fun t k => XS.lcmp X0.here hx rfl (hb hby d2_30) rfl k) ?_
    show G (s₁.setTop (mkF m 31 #[.val (.int p0), .val (.long ((p0.toInt64) - (48 : Int64))), .second, .val (.int (p0 ||| (32 : Int32))), .val (.long (((p0 ||| (32 : Int32)).toInt64) - (97 : Int64))), .second, .unset, .unset] [(.int (lcmpW ((p0.toInt64) - (48 : Int64)) (10 : Int64)))]))
    by_cases hc31 : (lcmpW ((p0.toInt64) - (48 : Int64)) (10 : Int64)) < (0 : Int32)
    · refine gs (fun t k => XS.ifNo X0.here hx rfl (hb hby d2_31) rfl ((if0 _ _).trans (tlt hc31).2.1) k) ?_
      show G (s₁.setTop (mkF m 34 #[.val (.int p0), .val (.long ((p0.toInt64) - (48 : Int64))), .second, .val (.int (p0 ||| (32 : Int32))), .val (.long (((p0 ||| (32 : Int32)).toInt64) - (97 : Int64))), .second, .unset, .unset] []))
      refine gs (fun t k => XS.iconst X0.here hx rfl (hb hby d2_34) k) ?_
      show G (s₁.setTop (mkF m 35 #[.val (.int p0), .val (.long ((p0.toInt64) - (48 : Int64))), .second, .val (.int (p0 ||| (32 : Int32))), .val (.long (((p0 ||| (32 : Int32)).toInt64) - (97 : Int64))), .second, .unset, .unset] [(.int (1 : Int32))]))
      refine gs (fun t k => XS.goto X0.here hx rfl (pc0 := 35) (pc' := 39) rfl (hb hby d2_35) (by decide) (by decide) k) ?_
      show G (s₁.setTop (mkF m 39 #[.val (.int p0), .val (.long ((p0.toInt64) - (48 : Int64))), .second, .val (.int (p0 ||| (32 : Int32))), .val (.long (((p0 ||| (32 : Int32)).toInt64) - (97 : Int64))), .second, .unset, .unset] [(.int (1 : Int32))]))
      refine gs (fun t k => XS.istore X0.here hx rfl (hb hby d2_39) rfl (l' := #[.val (.int p0), .val (.long ((p0.toInt64) - (48 : Int64))), .second, .val (.int (p0 ||| (32 : Int32))), .val (.long (((p0 ||| (32 : Int32)).toInt64) - (97 : Int64))), .second, .val (.int (1 : Int32)), .unset]) rfl k) ?_
      show G (s₁.setTop (mkF m 41 #[.val (.int p0), .val (.long ((p0.toInt64) - (48 : Int64))), .second, .val (.int (p0 ||| (32 : Int32))), .val (.long (((p0 ||| (32 : Int32)).toInt64) - (97 : Int64))), .second, .val (.int (1 : Int32)), .unset] []))
      refine gs (fun t k => XS.lload X0.here hx rfl (hb hby d2_41) rfl k) ?_
      show G (s₁.setTop (mkF m 43 #[.val (.int p0), .val (.long ((p0.toInt64) - (48 : Int64))), .second, .val (.int (p0 ||| (32 : Int32))), .val (.long (((p0 ||| (32 : Int32)).toInt64) - (97 : Int64))), .second, .val (.int (1 : Int32)), .unset] [(.long (((p0 ||| (32 : Int32)).toInt64) - (97 : Int64)))]))
      refine gs (fun t k => XS.lconst X0.here hx rfl (hb hby d2_43) k) ?_
      show G (s₁.setTop (mkF m 44 #[.val (.int p0), .val (.long ((p0.toInt64) - (48 : Int64))), .second, .val (.int (p0 ||| (32 : Int32))), .val (.long (((p0 ||| (32 : Int32)).toInt64) - (97 : Int64))), .second, .val (.int (1 : Int32)), .unset] [(.long (0 : Int64)), (.long (((p0 ||| (32 : Int32)).toInt64) - (97 : Int64)))]))
      refine gs (fun t k => XS.lcmp X0.here hx rfl (hb hby d2_44) rfl k) ?_
      show G (s₁.setTop (mkF m 45 #[.val (.int p0), .val (.long ((p0.toInt64) - (48 : Int64))), .second, .val (.int (p0 ||| (32 : Int32))), .val (.long (((p0 ||| (32 : Int32)).toInt64) - (97 : Int64))), .second, .val (.int (1 : Int32)), .unset] [(.int (lcmpW (((p0 ||| (32 : Int32)).toInt64) - (97 : Int64)) (0 : Int64)))]))
      by_cases hc45 : (lcmpW (((p0 ||| (32 : Int32)).toInt64) - (97 : Int64)) (0 : Int64)) < (0 : Int32)
      · refine gs (fun t k => XS.ifYes X0.here hx rfl (pc0 := 45) (pc' := 61) rfl (hb hby d2_45) rfl ((if0 _ _).trans (tlt hc45).1) (by decide) (by decide) k) ?_
        show G (s₁.setTop (mkF m 61 #[.val (.int p0), .val (.long ((p0.toInt64) - (48 : Int64))), .second, .val (.int (p0 ||| (32 : Int32))), .val (.long (((p0 ||| (32 : Int32)).toInt64) - (97 : Int64))), .second, .val (.int (1 : Int32)), .unset] []))
        refine gs (fun t k => XS.iconst X0.here hx rfl (hb hby d2_61) k) ?_
        show G (s₁.setTop (mkF m 62 #[.val (.int p0), .val (.long ((p0.toInt64) - (48 : Int64))), .second, .val (.int (p0 ||| (32 : Int32))), .val (.long (((p0 ||| (32 : Int32)).toInt64) - (97 : Int64))), .second, .val (.int (1 : Int32)), .unset] [(.int (0 : Int32))]))
        refine gs (fun t k => XS.istore X0.here hx rfl (hb hby d2_62) rfl (l' := #[.val (.int p0), .val (.long ((p0.toInt64) - (48 : Int64))), .second, .val (.int (p0 ||| (32 : Int32))), .val (.long (((p0 ||| (32 : Int32)).toInt64) - (97 : Int64))), .second, .val (.int (1 : Int32)), .val (.int (0 : Int32))]) rfl k) ?_
        show G (s₁.setTop (mkF m 64 #[.val (.int p0), .val (.long ((p0.toInt64) - (48 : Int64))), .second, .val (.int (p0 ||| (32 : Int32))), .val (.long (((p0 ||| (32 : Int32)).toInt64) - (97 : Int64))), .second, .val (.int (1 : Int32)), .val (.int (0 : Int32))] []))
        refine gs (fun t k => XS.iload X0.here hx rfl (hb hby d2_64) rfl k) ?_
        show G (s₁.setTop (mkF m 66 #[.val (.int p0), .val (.long ((p0.toInt64) - (48 : Int64))), .second, .val (.int (p0 ||| (32 : Int32))), .val (.long (((p0 ||| (32 : Int32)).toInt64) - (97 : Int64))), .second, .val (.int (1 : Int32)), .val (.int (0 : Int32))] [(.int (1 : Int32))]))
        refine gs (fun t k => XS.ifYes X0.here hx rfl (pc0 := 66) (pc' := 74) rfl (hb hby d2_66) rfl ((if0 _ _).trans (feq (by decide : ¬ ((1 : Int32) = (0 : Int32)))).2) (by decide) (by decide) k) ?_
        show G (s₁.setTop (mkF m 74 #[.val (.int p0), .val (.long ((p0.toInt64) - (48 : Int64))), .second, .val (.int (p0 ||| (32 : Int32))), .val (.long (((p0 ||| (32 : Int32)).toInt64) - (97 : Int64))), .second, .val (.int (1 : Int32)), .val (.int (0 : Int32))] []))
        refine gs (fun t k => XS.iconst X0.here hx rfl (hb hby d2_74) k) ?_
        show G (s₁.setTop (mkF m 75 #[.val (.int p0), .val (.long ((p0.toInt64) - (48 : Int64))), .second, .val (.int (p0 ||| (32 : Int32))), .val (.long (((p0 ||| (32 : Int32)).toInt64) - (97 : Int64))), .second, .val (.int (1 : Int32)), .val (.int (0 : Int32))] [(.int (1 : Int32))]))
        refine gs (fun t k => XS.goto X0.here hx rfl (pc0 := 75) (pc' := 79) rfl (hb hby d2_75) (by decide) (by decide) k) ?_
        show G (s₁.setTop (mkF m 79 #[.val (.int p0), .val (.long ((p0.toInt64) - (48 : Int64))), .second, .val (.int (p0 ||| (32 : Int32))), .val (.long (((p0 ||| (32 : Int32)).toInt64) - (97 : Int64))), .second, .val (.int (1 : Int32)), .val (.int (0 : Int32))] [(.int (1 : Int32))]))
        obtain ⟨fs, hr, hrun, hended, hW, hsame⟩ := X0.leave (v := some (.int (1 : Int32))) (fun h => by rw [Bd.returns] at h; cases h)
        refine gl _ ⟨_, _, retN X0 hx (t := .boolean) Bd.returns (by simp) (hb hby d2_79) hr, hrun, hended, _, _, rfl, ?_, ⟨_, rfl⟩, hW, hsame.mono (by decide) (by decide)⟩
        show Q2 p0 h0 n0 _ s₁.heap _
        rw [e0]
        rw [lw_lt] at hc23
        rw [lw_lt] at hc31
        rw [lw_lt] at hc45
        exact ⟨congrArg (fun z => some (Value.int z)) (by simp only [own_f, own_g, hc23, hc31, hc45, not_false_eq_true, not_true_eq_false, and_true, true_and, and_false, false_and, and_self, or_true, true_or, or_false, false_or, or_self, if_true, if_false, reduceIte]), N0, rfl⟩
      · refine gs (fun t k => XS.ifNo X0.here hx rfl (hb hby d2_45) rfl ((if0 _ _).trans (flt hc45).1) k) ?_
        show G (s₁.setTop (mkF m 48 #[.val (.int p0), .val (.long ((p0.toInt64) - (48 : Int64))), .second, .val (.int (p0 ||| (32 : Int32))), .val (.long (((p0 ||| (32 : Int32)).toInt64) - (97 : Int64))), .second, .val (.int (1 : Int32)), .unset] []))
        refine gs (fun t k => XS.lload X0.here hx rfl (hb hby d2_48) rfl k) ?_
        show G (s₁.setTop (mkF m 50 #[.val (.int p0), .val (.long ((p0.toInt64) - (48 : Int64))), .second, .val (.int (p0 ||| (32 : Int32))), .val (.long (((p0 ||| (32 : Int32)).toInt64) - (97 : Int64))), .second, .val (.int (1 : Int32)), .unset] [(.long (((p0 ||| (32 : Int32)).toInt64) - (97 : Int64)))]))
        refine gs (fun t k => X0.ldc2Long hx hown (mvT hZ (hw _ (List.mem_of_getElem? (i := 11) rfl))) (g := (mkF m 50 #[.val (.int p0), .val (.long ((p0.toInt64) - (48 : Int64))), .second, .val (.int (p0 ||| (32 : Int32))), .val (.long (((p0 ||| (32 : Int32)).toInt64) - (97 : Int64))), .second, .val (.int (1 : Int32)), .unset] [(.long (((p0 ||| (32 : Int32)).toInt64) - (97 : Int64)))])) rfl (hb hby d2_50) _ k) ?_
        show G (s₁.setTop (mkF m 53 #[.val (.int p0), .val (.long ((p0.toInt64) - (48 : Int64))), .second, .val (.int (p0 ||| (32 : Int32))), .val (.long (((p0 ||| (32 : Int32)).toInt64) - (97 : Int64))), .second, .val (.int (1 : Int32)), .unset] [(.long (26 : Int64)), (.long (((p0 ||| (32 : Int32)).toInt64) - (97 : Int64)))]))
        refine gs (fun t k => XS.lcmp X0.here hx rfl (hb hby d2_53) rfl k) ?_
        show G (s₁.setTop (mkF m 54 #[.val (.int p0), .val (.long ((p0.toInt64) - (48 : Int64))), .second, .val (.int (p0 ||| (32 : Int32))), .val (.long (((p0 ||| (32 : Int32)).toInt64) - (97 : Int64))), .second, .val (.int (1 : Int32)), .unset] [(.int (lcmpW (((p0 ||| (32 : Int32)).toInt64) - (97 : Int64)) (26 : Int64)))]))
        by_cases hc54 : (lcmpW (((p0 ||| (32 : Int32)).toInt64) - (97 : Int64)) (26 : Int64)) < (0 : Int32)
        · refine gs (fun t k => XS.ifNo X0.here hx rfl (hb hby d2_54) rfl ((if0 _ _).trans (tlt hc54).2.1) k) ?_
          show G (s₁.setTop (mkF m 57 #[.val (.int p0), .val (.long ((p0.toInt64) - (48 : Int64))), .second, .val (.int (p0 ||| (32 : Int32))), .val (.long (((p0 ||| (32 : Int32)).toInt64) - (97 : Int64))), .second, .val (.int (1 : Int32)), .unset] []))
          refine gs (fun t k => XS.iconst X0.here hx rfl (hb hby d2_57) k) ?_
          show G (s₁.setTop (mkF m 58 #[.val (.int p0), .val (.long ((p0.toInt64) - (48 : Int64))), .second, .val (.int (p0 ||| (32 : Int32))), .val (.long (((p0 ||| (32 : Int32)).toInt64) - (97 : Int64))), .second, .val (.int (1 : Int32)), .unset] [(.int (1 : Int32))]))
          refine gs (fun t k => XS.goto X0.here hx rfl (pc0 := 58) (pc' := 62) rfl (hb hby d2_58) (by decide) (by decide) k) ?_
          show G (s₁.setTop (mkF m 62 #[.val (.int p0), .val (.long ((p0.toInt64) - (48 : Int64))), .second, .val (.int (p0 ||| (32 : Int32))), .val (.long (((p0 ||| (32 : Int32)).toInt64) - (97 : Int64))), .second, .val (.int (1 : Int32)), .unset] [(.int (1 : Int32))]))
          refine gs (fun t k => XS.istore X0.here hx rfl (hb hby d2_62) rfl (l' := #[.val (.int p0), .val (.long ((p0.toInt64) - (48 : Int64))), .second, .val (.int (p0 ||| (32 : Int32))), .val (.long (((p0 ||| (32 : Int32)).toInt64) - (97 : Int64))), .second, .val (.int (1 : Int32)), .val (.int (1 : Int32))]) rfl k) ?_
          show G (s₁.setTop (mkF m 64 #[.val (.int p0), .val (.long ((p0.toInt64) - (48 : Int64))), .second, .val (.int (p0 ||| (32 : Int32))), .val (.long (((p0 ||| (32 : Int32)).toInt64) - (97 : Int64))), .second, .val (.int (1 : Int32)), .val (.int (1 : Int32))] []))
          refine gs (fun t k => XS.iload X0.here hx rfl (hb hby d2_64) rfl k) ?_
          show G (s₁.setTop (mkF m 66 #[.val (.int p0), .val (.long ((p0.toInt64) - (48 : Int64))), .second, .val (.int (p0 ||| (32 : Int32))), .val (.long (((p0 ||| (32 : Int32)).toInt64) - (97 : Int64))), .second, .val (.int (1 : Int32)), .val (.int (1 : Int32))] [(.int (1 : Int32))]))
          refine gs (fun t k => XS.ifYes X0.here hx rfl (pc0 := 66) (pc' := 74) rfl (hb hby d2_66) rfl ((if0 _ _).trans (feq (by decide : ¬ ((1 : Int32) = (0 : Int32)))).2) (by decide) (by decide) k) ?_
          show G (s₁.setTop (mkF m 74 #[.val (.int p0), .val (.long ((p0.toInt64) - (48 : Int64))), .second, .val (.int (p0 ||| (32 : Int32))), .val (.long (((p0 ||| (32 : Int32)).toInt64) - (97 : Int64))), .second, .val (.int (1 : Int32)), .val (.int (1 : Int32))] []))
          refine gs (fun t k => XS.iconst X0.here hx rfl (hb hby d2_74) k) ?_
          show G (s₁.setTop (mkF m 75 #[.val (.int p0), .val (.long ((p0.toInt64) - (48 : Int64))), .second, .val (.int (p0 ||| (32 : Int32))), .val (.long (((p0 ||| (32 : Int32)).toInt64) - (97 : Int64))), .second, .val (.int (1 : Int32)), .val (.int (1 : Int32))] [(.int (1 : Int32))]))
          refine gs (fun t k => XS.goto X0.here hx rfl (pc0 := 75) (pc' := 79) rfl (hb hby d2_75) (by decide) (by decide) k) ?_
          show G (s₁.setTop (mkF m 79 #[.val (.int p0), .val (.long ((p0.toInt64) - (48 : Int64))), .second, .val (.int (p0 ||| (32 : Int32))), .val (.long (((p0 ||| (32 : Int32)).toInt64) - (97 : Int64))), .second, .val (.int (1 : Int32)), .val (.int (1 : Int32))] [(.int (1 : Int32))]))
          obtain ⟨fs, hr, hrun, hended, hW, hsame⟩ := X0.leave (v := some (.int (1 : Int32))) (fun h => by rw [Bd.returns] at h; cases h)
          refine gl _ ⟨_, _, retN X0 hx (t := .boolean) Bd.returns (by simp) (hb hby d2_79) hr, hrun, hended, _, _, rfl, ?_, ⟨_, rfl⟩, hW, hsame.mono (by decide) (by decide)⟩
          show Q2 p0 h0 n0 _ s₁.heap _
          rw [e0]
          rw [lw_lt] at hc23
          rw [lw_lt] at hc31
          rw [lw_lt] at hc45
          rw [lw_lt] at hc54
          exact ⟨congrArg (fun z => some (Value.int z)) (by simp only [own_f, own_g, hc23, hc31, hc45, hc54, not_false_eq_true, not_true_eq_false, and_true, true_and, and_false, false_and, and_self, or_true, true_or, or_false, false_or, or_self, if_true, if_false, reduceIte]), N0, rfl⟩
        · refine gs (fun t k => XS.ifYes X0.here hx rfl (pc0 := 54) (pc' := 61) rfl (hb hby d2_54) rfl ((if0 _ _).trans (flt hc54).2.1) (by decide) (by decide) k) ?_
          show G (s₁.setTop (mkF m 61 #[.val (.int p0), .val (.long ((p0.toInt64) - (48 : Int64))), .second, .val (.int (p0 ||| (32 : Int32))), .val (.long (((p0 ||| (32 : Int32)).toInt64) - (97 : Int64))), .second, .val (.int (1 : Int32)), .unset] []))
          refine gs (fun t k => XS.iconst X0.here hx rfl (hb hby d2_61) k) ?_
          show G (s₁.setTop (mkF m 62 #[.val (.int p0), .val (.long ((p0.toInt64) - (48 : Int64))), .second, .val (.int (p0 ||| (32 : Int32))), .val (.long (((p0 ||| (32 : Int32)).toInt64) - (97 : Int64))), .second, .val (.int (1 : Int32)), .unset] [(.int (0 : Int32))]))
          refine gs (fun t k => XS.istore X0.here hx rfl (hb hby d2_62) rfl (l' := #[.val (.int p0), .val (.long ((p0.toInt64) - (48 : Int64))), .second, .val (.int (p0 ||| (32 : Int32))), .val (.long (((p0 ||| (32 : Int32)).toInt64) - (97 : Int64))), .second, .val (.int (1 : Int32)), .val (.int (0 : Int32))]) rfl k) ?_
          show G (s₁.setTop (mkF m 64 #[.val (.int p0), .val (.long ((p0.toInt64) - (48 : Int64))), .second, .val (.int (p0 ||| (32 : Int32))), .val (.long (((p0 ||| (32 : Int32)).toInt64) - (97 : Int64))), .second, .val (.int (1 : Int32)), .val (.int (0 : Int32))] []))
          refine gs (fun t k => XS.iload X0.here hx rfl (hb hby d2_64) rfl k) ?_
          show G (s₁.setTop (mkF m 66 #[.val (.int p0), .val (.long ((p0.toInt64) - (48 : Int64))), .second, .val (.int (p0 ||| (32 : Int32))), .val (.long (((p0 ||| (32 : Int32)).toInt64) - (97 : Int64))), .second, .val (.int (1 : Int32)), .val (.int (0 : Int32))] [(.int (1 : Int32))]))
          refine gs (fun t k => XS.ifYes X0.here hx rfl (pc0 := 66) (pc' := 74) rfl (hb hby d2_66) rfl ((if0 _ _).trans (feq (by decide : ¬ ((1 : Int32) = (0 : Int32)))).2) (by decide) (by decide) k) ?_
          show G (s₁.setTop (mkF m 74 #[.val (.int p0), .val (.long ((p0.toInt64) - (48 : Int64))), .second, .val (.int (p0 ||| (32 : Int32))), .val (.long (((p0 ||| (32 : Int32)).toInt64) - (97 : Int64))), .second, .val (.int (1 : Int32)), .val (.int (0 : Int32))] []))
          refine gs (fun t k => XS.iconst X0.here hx rfl (hb hby d2_74) k) ?_
          show G (s₁.setTop (mkF m 75 #[.val (.int p0), .val (.long ((p0.toInt64) - (48 : Int64))), .second, .val (.int (p0 ||| (32 : Int32))), .val (.long (((p0 ||| (32 : Int32)).toInt64) - (97 : Int64))), .second, .val (.int (1 : Int32)), .val (.int (0 : Int32))] [(.int (1 : Int32))]))
          refine gs (fun t k => XS.goto X0.here hx rfl (pc0 := 75) (pc' := 79) rfl (hb hby d2_75) (by decide) (by decide) k) ?_
          show G (s₁.setTop (mkF m 79 #[.val (.int p0), .val (.long ((p0.toInt64) - (48 : Int64))), .second, .val (.int (p0 ||| (32 : Int32))), .val (.long (((p0 ||| (32 : Int32)).toInt64) - (97 : Int64))), .second, .val (.int (1 : Int32)), .val (.int (0 : Int32))] [(.int (1 : Int32))]))
          obtain ⟨fs, hr, hrun, hended, hW, hsame⟩ := X0.leave (v := some (.int (1 : Int32))) (fun h => by rw [Bd.returns] at h; cases h)
          refine gl _ ⟨_, _, retN X0 hx (t := .boolean) Bd.returns (by simp) (hb hby d2_79) hr, hrun, hended, _, _, rfl, ?_, ⟨_, rfl⟩, hW, hsame.mono (by decide) (by decide)⟩
          show Q2 p0 h0 n0 _ s₁.heap _
          rw [e0]
          rw [lw_lt] at hc23
          rw [lw_lt] at hc31
          rw [lw_lt] at hc45
          rw [lw_lt] at hc54
          exact ⟨congrArg (fun z => some (Value.int z)) (by simp only [own_f, own_g, hc23, hc31, hc45, hc54, not_false_eq_true, not_true_eq_false, and_true, true_and, and_false, false_and, and_self, or_true, true_or, or_false, false_or, or_self, if_true, if_false, reduceIte]), N0, rfl⟩
    · refine gs (fun t k => XS.ifYes X0.here hx rfl (pc0 := 31) (pc' := 38) rfl (hb hby d2_31) rfl ((if0 _ _).trans (flt hc31).2.1) (by decide) (by decide) k) ?_
      show G (s₁.setTop (mkF m 38 #[.val (.int p0), .val (.long ((p0.toInt64) - (48 : Int64))), .second, .val (.int (p0 ||| (32 : Int32))), .val (.long (((p0 ||| (32 : Int32)).toInt64) - (97 : Int64))), .second, .unset, .unset] []))
      refine gs (fun t k => XS.iconst X0.here hx rfl (hb hby d2_38) k) ?_
      show G (s₁.setTop (mkF m 39 #[.val (.int p0), .val (.long ((p0.toInt64) - (48 : Int64))), .second, .val (.int (p0 ||| (32 : Int32))), .val (.long (((p0 ||| (32 : Int32)).toInt64) - (97 : Int64))), .second, .unset, .unset] [(.int (0 : Int32))]))
      refine gs (fun t k => XS.istore X0.here hx rfl (hb hby d2_39) rfl (l' := #[.val (.int p0), .val (.long ((p0.toInt64) - (48 : Int64))), .second, .val (.int (p0 ||| (32 : Int32))), .val (.long (((p0 ||| (32 : Int32)).toInt64) - (97 : Int64))), .second, .val (.int (0 : Int32)), .unset]) rfl k) ?_
      show G (s₁.setTop (mkF m 41 #[.val (.int p0), .val (.long ((p0.toInt64) - (48 : Int64))), .second, .val (.int (p0 ||| (32 : Int32))), .val (.long (((p0 ||| (32 : Int32)).toInt64) - (97 : Int64))), .second, .val (.int (0 : Int32)), .unset] []))
      refine gs (fun t k => XS.lload X0.here hx rfl (hb hby d2_41) rfl k) ?_
      show G (s₁.setTop (mkF m 43 #[.val (.int p0), .val (.long ((p0.toInt64) - (48 : Int64))), .second, .val (.int (p0 ||| (32 : Int32))), .val (.long (((p0 ||| (32 : Int32)).toInt64) - (97 : Int64))), .second, .val (.int (0 : Int32)), .unset] [(.long (((p0 ||| (32 : Int32)).toInt64) - (97 : Int64)))]))
      refine gs (fun t k => XS.lconst X0.here hx rfl (hb hby d2_43) k) ?_
      show G (s₁.setTop (mkF m 44 #[.val (.int p0), .val (.long ((p0.toInt64) - (48 : Int64))), .second, .val (.int (p0 ||| (32 : Int32))), .val (.long (((p0 ||| (32 : Int32)).toInt64) - (97 : Int64))), .second, .val (.int (0 : Int32)), .unset] [(.long (0 : Int64)), (.long (((p0 ||| (32 : Int32)).toInt64) - (97 : Int64)))]))
      refine gs (fun t k => XS.lcmp X0.here hx rfl (hb hby d2_44) rfl k) ?_
      show G (s₁.setTop (mkF m 45 #[.val (.int p0), .val (.long ((p0.toInt64) - (48 : Int64))), .second, .val (.int (p0 ||| (32 : Int32))), .val (.long (((p0 ||| (32 : Int32)).toInt64) - (97 : Int64))), .second, .val (.int (0 : Int32)), .unset] [(.int (lcmpW (((p0 ||| (32 : Int32)).toInt64) - (97 : Int64)) (0 : Int64)))]))
      by_cases hc45 : (lcmpW (((p0 ||| (32 : Int32)).toInt64) - (97 : Int64)) (0 : Int64)) < (0 : Int32)
      · refine gs (fun t k => XS.ifYes X0.here hx rfl (pc0 := 45) (pc' := 61) rfl (hb hby d2_45) rfl ((if0 _ _).trans (tlt hc45).1) (by decide) (by decide) k) ?_
        show G (s₁.setTop (mkF m 61 #[.val (.int p0), .val (.long ((p0.toInt64) - (48 : Int64))), .second, .val (.int (p0 ||| (32 : Int32))), .val (.long (((p0 ||| (32 : Int32)).toInt64) - (97 : Int64))), .second, .val (.int (0 : Int32)), .unset] []))
        refine gs (fun t k => XS.iconst X0.here hx rfl (hb hby d2_61) k) ?_
        show G (s₁.setTop (mkF m 62 #[.val (.int p0), .val (.long ((p0.toInt64) - (48 : Int64))), .second, .val (.int (p0 ||| (32 : Int32))), .val (.long (((p0 ||| (32 : Int32)).toInt64) - (97 : Int64))), .second, .val (.int (0 : Int32)), .unset] [(.int (0 : Int32))]))
        refine gs (fun t k => XS.istore X0.here hx rfl (hb hby d2_62) rfl (l' := #[.val (.int p0), .val (.long ((p0.toInt64) - (48 : Int64))), .second, .val (.int (p0 ||| (32 : Int32))), .val (.long (((p0 ||| (32 : Int32)).toInt64) - (97 : Int64))), .second, .val (.int (0 : Int32)), .val (.int (0 : Int32))]) rfl k) ?_
        show G (s₁.setTop (mkF m 64 #[.val (.int p0), .val (.long ((p0.toInt64) - (48 : Int64))), .second, .val (.int (p0 ||| (32 : Int32))), .val (.long (((p0 ||| (32 : Int32)).toInt64) - (97 : Int64))), .second, .val (.int (0 : Int32)), .val (.int (0 : Int32))] []))
        refine gs (fun t k => XS.iload X0.here hx rfl (hb hby d2_64) rfl k) ?_
        show G (s₁.setTop (mkF m 66 #[.val (.int p0), .val (.long ((p0.toInt64) - (48 : Int64))), .second, .val (.int (p0 ||| (32 : Int32))), .val (.long (((p0 ||| (32 : Int32)).toInt64) - (97 : Int64))), .second, .val (.int (0 : Int32)), .val (.int (0 : Int32))] [(.int (0 : Int32))]))
        refine gs (fun t k => XS.ifNo X0.here hx rfl (hb hby d2_66) rfl ((if0 _ _).trans (teq (by decide : (0 : Int32) = (0 : Int32))).2) k) ?_
        show G (s₁.setTop (mkF m 69 #[.val (.int p0), .val (.long ((p0.toInt64) - (48 : Int64))), .second, .val (.int (p0 ||| (32 : Int32))), .val (.long (((p0 ||| (32 : Int32)).toInt64) - (97 : Int64))), .second, .val (.int (0 : Int32)), .val (.int (0 : Int32))] []))
        refine gs (fun t k => XS.iload X0.here hx rfl (hb hby d2_69) rfl k) ?_
        show G (s₁.setTop (mkF m 71 #[.val (.int p0), .val (.long ((p0.toInt64) - (48 : Int64))), .second, .val (.int (p0 ||| (32 : Int32))), .val (.long (((p0 ||| (32 : Int32)).toInt64) - (97 : Int64))), .second, .val (.int (0 : Int32)), .val (.int (0 : Int32))] [(.int (0 : Int32))]))
        refine gs (fun t k => XS.ifYes X0.here hx rfl (pc0 := 71) (pc' := 78) rfl (hb hby d2_71) rfl ((if0 _ _).trans (teq (by decide : (0 : Int32) = (0 : Int32))).1) (by decide) (by decide) k) ?_
        show G (s₁.setTop (mkF m 78 #[.val (.int p0), .val (.long ((p0.toInt64) - (48 : Int64))), .second, .val (.int (p0 ||| (32 : Int32))), .val (.long (((p0 ||| (32 : Int32)).toInt64) - (97 : Int64))), .second, .val (.int (0 : Int32)), .val (.int (0 : Int32))] []))
        refine gs (fun t k => XS.iconst X0.here hx rfl (hb hby d2_78) k) ?_
        show G (s₁.setTop (mkF m 79 #[.val (.int p0), .val (.long ((p0.toInt64) - (48 : Int64))), .second, .val (.int (p0 ||| (32 : Int32))), .val (.long (((p0 ||| (32 : Int32)).toInt64) - (97 : Int64))), .second, .val (.int (0 : Int32)), .val (.int (0 : Int32))] [(.int (0 : Int32))]))
        obtain ⟨fs, hr, hrun, hended, hW, hsame⟩ := X0.leave (v := some (.int (0 : Int32))) (fun h => by rw [Bd.returns] at h; cases h)
        refine gl _ ⟨_, _, retN X0 hx (t := .boolean) Bd.returns (by simp) (hb hby d2_79) hr, hrun, hended, _, _, rfl, ?_, ⟨_, rfl⟩, hW, hsame.mono (by decide) (by decide)⟩
        show Q2 p0 h0 n0 _ s₁.heap _
        rw [e0]
        rw [lw_lt] at hc23
        rw [lw_lt] at hc31
        rw [lw_lt] at hc45
        exact ⟨congrArg (fun z => some (Value.int z)) (by simp only [own_f, own_g, hc23, hc31, hc45, not_false_eq_true, not_true_eq_false, and_true, true_and, and_false, false_and, and_self, or_true, true_or, or_false, false_or, or_self, if_true, if_false, reduceIte]), N0, rfl⟩
      · refine gs (fun t k => XS.ifNo X0.here hx rfl (hb hby d2_45) rfl ((if0 _ _).trans (flt hc45).1) k) ?_
        show G (s₁.setTop (mkF m 48 #[.val (.int p0), .val (.long ((p0.toInt64) - (48 : Int64))), .second, .val (.int (p0 ||| (32 : Int32))), .val (.long (((p0 ||| (32 : Int32)).toInt64) - (97 : Int64))), .second, .val (.int (0 : Int32)), .unset] []))
        refine gs (fun t k => XS.lload X0.here hx rfl (hb hby d2_48) rfl k) ?_
        show G (s₁.setTop (mkF m 50 #[.val (.int p0), .val (.long ((p0.toInt64) - (48 : Int64))), .second, .val (.int (p0 ||| (32 : Int32))), .val (.long (((p0 ||| (32 : Int32)).toInt64) - (97 : Int64))), .second, .val (.int (0 : Int32)), .unset] [(.long (((p0 ||| (32 : Int32)).toInt64) - (97 : Int64)))]))
        refine gs (fun t k => X0.ldc2Long hx hown (mvT hZ (hw _ (List.mem_of_getElem? (i := 11) rfl))) (g := (mkF m 50 #[.val (.int p0), .val (.long ((p0.toInt64) - (48 : Int64))), .second, .val (.int (p0 ||| (32 : Int32))), .val (.long (((p0 ||| (32 : Int32)).toInt64) - (97 : Int64))), .second, .val (.int (0 : Int32)), .unset] [(.long (((p0 ||| (32 : Int32)).toInt64) - (97 : Int64)))])) rfl (hb hby d2_50) _ k) ?_
        show G (s₁.setTop (mkF m 53 #[.val (.int p0), .val (.long ((p0.toInt64) - (48 : Int64))), .second, .val (.int (p0 ||| (32 : Int32))), .val (.long (((p0 ||| (32 : Int32)).toInt64) - (97 : Int64))), .second, .val (.int (0 : Int32)), .unset] [(.long (26 : Int64)), (.long (((p0 ||| (32 : Int32)).toInt64) - (97 : Int64)))]))
        refine gs (fun t k => XS.lcmp X0.here hx rfl (hb hby d2_53) rfl k) ?_
        show G (s₁.setTop (mkF m 54 #[.val (.int p0), .val (.long ((p0.toInt64) - (48 : Int64))), .second, .val (.int (p0 ||| (32 : Int32))), .val (.long (((p0 ||| (32 : Int32)).toInt64) - (97 : Int64))), .second, .val (.int (0 : Int32)), .unset] [(.int (lcmpW (((p0 ||| (32 : Int32)).toInt64) - (97 : Int64)) (26 : Int64)))]))
        by_cases hc54 : (lcmpW (((p0 ||| (32 : Int32)).toInt64) - (97 : Int64)) (26 : Int64)) < (0 : Int32)
        · refine gs (fun t k => XS.ifNo X0.here hx rfl (hb hby d2_54) rfl ((if0 _ _).trans (tlt hc54).2.1) k) ?_
          show G (s₁.setTop (mkF m 57 #[.val (.int p0), .val (.long ((p0.toInt64) - (48 : Int64))), .second, .val (.int (p0 ||| (32 : Int32))), .val (.long (((p0 ||| (32 : Int32)).toInt64) - (97 : Int64))), .second, .val (.int (0 : Int32)), .unset] []))
          refine gs (fun t k => XS.iconst X0.here hx rfl (hb hby d2_57) k) ?_
          show G (s₁.setTop (mkF m 58 #[.val (.int p0), .val (.long ((p0.toInt64) - (48 : Int64))), .second, .val (.int (p0 ||| (32 : Int32))), .val (.long (((p0 ||| (32 : Int32)).toInt64) - (97 : Int64))), .second, .val (.int (0 : Int32)), .unset] [(.int (1 : Int32))]))
          refine gs (fun t k => XS.goto X0.here hx rfl (pc0 := 58) (pc' := 62) rfl (hb hby d2_58) (by decide) (by decide) k) ?_
          show G (s₁.setTop (mkF m 62 #[.val (.int p0), .val (.long ((p0.toInt64) - (48 : Int64))), .second, .val (.int (p0 ||| (32 : Int32))), .val (.long (((p0 ||| (32 : Int32)).toInt64) - (97 : Int64))), .second, .val (.int (0 : Int32)), .unset] [(.int (1 : Int32))]))
          refine gs (fun t k => XS.istore X0.here hx rfl (hb hby d2_62) rfl (l' := #[.val (.int p0), .val (.long ((p0.toInt64) - (48 : Int64))), .second, .val (.int (p0 ||| (32 : Int32))), .val (.long (((p0 ||| (32 : Int32)).toInt64) - (97 : Int64))), .second, .val (.int (0 : Int32)), .val (.int (1 : Int32))]) rfl k) ?_
          show G (s₁.setTop (mkF m 64 #[.val (.int p0), .val (.long ((p0.toInt64) - (48 : Int64))), .second, .val (.int (p0 ||| (32 : Int32))), .val (.long (((p0 ||| (32 : Int32)).toInt64) - (97 : Int64))), .second, .val (.int (0 : Int32)), .val (.int (1 : Int32))] []))
          refine gs (fun t k => XS.iload X0.here hx rfl (hb hby d2_64) rfl k) ?_
          show G (s₁.setTop (mkF m 66 #[.val (.int p0), .val (.long ((p0.toInt64) - (48 : Int64))), .second, .val (.int (p0 ||| (32 : Int32))), .val (.long (((p0 ||| (32 : Int32)).toInt64) - (97 : Int64))), .second, .val (.int (0 : Int32)), .val (.int (1 : Int32))] [(.int (0 : Int32))]))
          refine gs (fun t k => XS.ifNo X0.here hx rfl (hb hby d2_66) rfl ((if0 _ _).trans (teq (by decide : (0 : Int32) = (0 : Int32))).2) k) ?_
          show G (s₁.setTop (mkF m 69 #[.val (.int p0), .val (.long ((p0.toInt64) - (48 : Int64))), .second, .val (.int (p0 ||| (32 : Int32))), .val (.long (((p0 ||| (32 : Int32)).toInt64) - (97 : Int64))), .second, .val (.int (0 : Int32)), .val (.int (1 : Int32))] []))
          refine gs (fun t k => XS.iload X0.here hx rfl (hb hby d2_69) rfl k) ?_
          show G (s₁.setTop (mkF m 71 #[.val (.int p0), .val (.long ((p0.toInt64) - (48 : Int64))), .second, .val (.int (p0 ||| (32 : Int32))), .val (.long (((p0 ||| (32 : Int32)).toInt64) - (97 : Int64))), .second, .val (.int (0 : Int32)), .val (.int (1 : Int32))] [(.int (1 : Int32))]))
          refine gs (fun t k => XS.ifNo X0.here hx rfl (hb hby d2_71) rfl ((if0 _ _).trans (feq (by decide : ¬ ((1 : Int32) = (0 : Int32)))).1) k) ?_
          show G (s₁.setTop (mkF m 74 #[.val (.int p0), .val (.long ((p0.toInt64) - (48 : Int64))), .second, .val (.int (p0 ||| (32 : Int32))), .val (.long (((p0 ||| (32 : Int32)).toInt64) - (97 : Int64))), .second, .val (.int (0 : Int32)), .val (.int (1 : Int32))] []))
          refine gs (fun t k => XS.iconst X0.here hx rfl (hb hby d2_74) k) ?_
          show G (s₁.setTop (mkF m 75 #[.val (.int p0), .val (.long ((p0.toInt64) - (48 : Int64))), .second, .val (.int (p0 ||| (32 : Int32))), .val (.long (((p0 ||| (32 : Int32)).toInt64) - (97 : Int64))), .second, .val (.int (0 : Int32)), .val (.int (1 : Int32))] [(.int (1 : Int32))]))
          refine gs (fun t k => XS.goto X0.here hx rfl (pc0 := 75) (pc' := 79) rfl (hb hby d2_75) (by decide) (by decide) k) ?_
          show G (s₁.setTop (mkF m 79 #[.val (.int p0), .val (.long ((p0.toInt64) - (48 : Int64))), .second, .val (.int (p0 ||| (32 : Int32))), .val (.long (((p0 ||| (32 : Int32)).toInt64) - (97 : Int64))), .second, .val (.int (0 : Int32)), .val (.int (1 : Int32))] [(.int (1 : Int32))]))
          obtain ⟨fs, hr, hrun, hended, hW, hsame⟩ := X0.leave (v := some (.int (1 : Int32))) (fun h => by rw [Bd.returns] at h; cases h)
          refine gl _ ⟨_, _, retN X0 hx (t := .boolean) Bd.returns (by simp) (hb hby d2_79) hr, hrun, hended, _, _, rfl, ?_, ⟨_, rfl⟩, hW, hsame.mono (by decide) (by decide)⟩
          show Q2 p0 h0 n0 _ s₁.heap _
          rw [e0]
          rw [lw_lt] at hc23
          rw [lw_lt] at hc31
          rw [lw_lt] at hc45
          rw [lw_lt] at hc54
          exact ⟨congrArg (fun z => some (Value.int z)) (by simp only [own_f, own_g, hc23, hc31, hc45, hc54, not_false_eq_true, not_true_eq_false, and_true, true_and, and_false, false_and, and_self, or_true, true_or, or_false, false_or, or_self, if_true, if_false, reduceIte]), N0, rfl⟩
        · refine gs (fun t k => XS.ifYes X0.here hx rfl (pc0 := 54) (pc' := 61) rfl (hb hby d2_54) rfl ((if0 _ _).trans (flt hc54).2.1) (by decide) (by decide) k) ?_
          show G (s₁.setTop (mkF m 61 #[.val (.int p0), .val (.long ((p0.toInt64) - (48 : Int64))), .second, .val (.int (p0 ||| (32 : Int32))), .val (.long (((p0 ||| (32 : Int32)).toInt64) - (97 : Int64))), .second, .val (.int (0 : Int32)), .unset] []))
          refine gs (fun t k => XS.iconst X0.here hx rfl (hb hby d2_61) k) ?_
          show G (s₁.setTop (mkF m 62 #[.val (.int p0), .val (.long ((p0.toInt64) - (48 : Int64))), .second, .val (.int (p0 ||| (32 : Int32))), .val (.long (((p0 ||| (32 : Int32)).toInt64) - (97 : Int64))), .second, .val (.int (0 : Int32)), .unset] [(.int (0 : Int32))]))
          refine gs (fun t k => XS.istore X0.here hx rfl (hb hby d2_62) rfl (l' := #[.val (.int p0), .val (.long ((p0.toInt64) - (48 : Int64))), .second, .val (.int (p0 ||| (32 : Int32))), .val (.long (((p0 ||| (32 : Int32)).toInt64) - (97 : Int64))), .second, .val (.int (0 : Int32)), .val (.int (0 : Int32))]) rfl k) ?_
          show G (s₁.setTop (mkF m 64 #[.val (.int p0), .val (.long ((p0.toInt64) - (48 : Int64))), .second, .val (.int (p0 ||| (32 : Int32))), .val (.long (((p0 ||| (32 : Int32)).toInt64) - (97 : Int64))), .second, .val (.int (0 : Int32)), .val (.int (0 : Int32))] []))
          refine gs (fun t k => XS.iload X0.here hx rfl (hb hby d2_64) rfl k) ?_
          show G (s₁.setTop (mkF m 66 #[.val (.int p0), .val (.long ((p0.toInt64) - (48 : Int64))), .second, .val (.int (p0 ||| (32 : Int32))), .val (.long (((p0 ||| (32 : Int32)).toInt64) - (97 : Int64))), .second, .val (.int (0 : Int32)), .val (.int (0 : Int32))] [(.int (0 : Int32))]))
          refine gs (fun t k => XS.ifNo X0.here hx rfl (hb hby d2_66) rfl ((if0 _ _).trans (teq (by decide : (0 : Int32) = (0 : Int32))).2) k) ?_
          show G (s₁.setTop (mkF m 69 #[.val (.int p0), .val (.long ((p0.toInt64) - (48 : Int64))), .second, .val (.int (p0 ||| (32 : Int32))), .val (.long (((p0 ||| (32 : Int32)).toInt64) - (97 : Int64))), .second, .val (.int (0 : Int32)), .val (.int (0 : Int32))] []))
          refine gs (fun t k => XS.iload X0.here hx rfl (hb hby d2_69) rfl k) ?_
          show G (s₁.setTop (mkF m 71 #[.val (.int p0), .val (.long ((p0.toInt64) - (48 : Int64))), .second, .val (.int (p0 ||| (32 : Int32))), .val (.long (((p0 ||| (32 : Int32)).toInt64) - (97 : Int64))), .second, .val (.int (0 : Int32)), .val (.int (0 : Int32))] [(.int (0 : Int32))]))
          refine gs (fun t k => XS.ifYes X0.here hx rfl (pc0 := 71) (pc' := 78) rfl (hb hby d2_71) rfl ((if0 _ _).trans (teq (by decide : (0 : Int32) = (0 : Int32))).1) (by decide) (by decide) k) ?_
          show G (s₁.setTop (mkF m 78 #[.val (.int p0), .val (.long ((p0.toInt64) - (48 : Int64))), .second, .val (.int (p0 ||| (32 : Int32))), .val (.long (((p0 ||| (32 : Int32)).toInt64) - (97 : Int64))), .second, .val (.int (0 : Int32)), .val (.int (0 : Int32))] []))
          refine gs (fun t k => XS.iconst X0.here hx rfl (hb hby d2_78) k) ?_
          show G (s₁.setTop (mkF m 79 #[.val (.int p0), .val (.long ((p0.toInt64) - (48 : Int64))), .second, .val (.int (p0 ||| (32 : Int32))), .val (.long (((p0 ||| (32 : Int32)).toInt64) - (97 : Int64))), .second, .val (.int (0 : Int32)), .val (.int (0 : Int32))] [(.int (0 : Int32))]))
          obtain ⟨fs, hr, hrun, hended, hW, hsame⟩ := X0.leave (v := some (.int (0 : Int32))) (fun h => by rw [Bd.returns] at h; cases h)
          refine gl _ ⟨_, _, retN X0 hx (t := .boolean) Bd.returns (by simp) (hb hby d2_79) hr, hrun, hended, _, _, rfl, ?_, ⟨_, rfl⟩, hW, hsame.mono (by decide) (by decide)⟩
          show Q2 p0 h0 n0 _ s₁.heap _
          rw [e0]
          rw [lw_lt] at hc23
          rw [lw_lt] at hc31
          rw [lw_lt] at hc45
          rw [lw_lt] at hc54
          exact ⟨congrArg (fun z => some (Value.int z)) (by simp only [own_f, own_g, hc23, hc31, hc45, hc54, not_false_eq_true, not_true_eq_false, and_true, true_and, and_false, false_and, and_self, or_true, true_or, or_false, false_or, or_self, if_true, if_false, reduceIte]), N0, rfl⟩
theorem pd_0 : parseMethodDescriptor "(I)Z" = some ⟨[.int], some .boolean⟩ := by decide +kernel
theorem ef_0 (m : MethodId) (p0 : Int32) (p1 : Int32) : entryFrame m #[(.int p0), (.int p1)] maxLocals = mkF m 0 #[.val (.int p0), .val (.int p1), .unset, .unset, .unset] [] := by first | (simp [entryFrame, mkF, argsToLocals, Value.category, maxLocals]; done) | rfl
def Q0 (h0 : Heap) (n0 : Nat) (v : Option Value) (h : Heap) (L : List Loc) : Prop := v = some (.int 1) ∧ Fr n0 L
set_option maxRecDepth 65536 in
set_option maxHeartbeats 40000000 in
theorem rm0 (l : Launch) (Z : State) (a0 : Array Value) (hw : ∀ d ∈ tables_1, d.before a0 Z = true) (ws : List Jvm.Cond) (p0 : Int32) (p1 : Int32)  (h0 : Heap) (n0 : Nat) (Z0 : n0 ≤ h0.size)  :
    MetFree l x (head1 (Jvm.Cond.code x code maxLocals ret :: ws) room_1) (fun a U => a = #[(.int p0), (.int p1)] ∧ Z.Warmed39 U.vm ∧ U.heap = h0) (fun _ _ _ _ _ => True) (fun _ U o U' => ∃ v L, o = .returned v ∧ Q0 h0 n0 v U'.heap L ∧ FrameEnd U o U' L room_1.cells room_1.slots) := by
  refine MetFree.of_bodySF (plainFor_of_name pn_io_evenkeel_server_FlagsIsAsciiLetterOrDigitPinLaw) hisR ?_
  intro p e s m args below meth c s₁ Bd hml0 hP hK
  obtain ⟨rfl, hZ, hh⟩ := hP
  have hx := Bd.exec
  have hby := Bd.bytes
  have hml : c.maxLocals = 5 := hml0
  have hown : s.vm.findClass "io/evenkeel/server/FlagsIsAsciiLetterOrDigitPinLaw" = some m.cls := findClass_of_methodNamed Bd.named
  have hnm := (name_of_methodNamed Bd.named Bd.method).1
  have X0 : Stand p l e room_1 s m #[(.int p0), (.int p1)] below meth c s₁ [] 0 0 := Stand.of_body Bd
  have e0 : s₁.heap = h0 := by rw [← hh, Bd.state]; rfl
  have N0 := Fr.nil n0
  have pre0 : ∀ t, Steps p.tables e below (s₁.setTop (mkF m 0 #[.val (.int p0), .val (.int p1), .unset, .unset, .unset] [])) t → Steps p.tables e below (s₁.setTop (entryFrame m #[(.int p0), (.int p1)] maxLocals)) t := fun t k => castTop (ef_0 m p0 p1) k
  have K0 := Keep.refl h0 []
  refine own_start pre0 fun G gs gl => ?_
  show G (s₁.setTop (mkF m 0 #[.val (.int p0), .val (.int p1), .unset, .unset, .unset] []))
  refine gs (fun t k => XS.iloadN X0.here hx rfl (hb hby at_0) rfl k) ?_
  show G (s₁.setTop (mkF m 1 #[.val (.int p0), .val (.int p1), .unset, .unset, .unset] [(.int p1)]))
  refine gs (fun t k => XS.sipush X0.here hx rfl (hb hby at_1) k) ?_
  show G (s₁.setTop (mkF m 4 #[.val (.int p0), .val (.int p1), .unset, .unset, .unset] [(.int (255 : Int32)), (.int p1)]))
  refine gs (fun t k => XS.iand X0.here hx rfl (hb hby at_4) rfl k) ?_
  show G (s₁.setTop (mkF m 5 #[.val (.int p0), .val (.int p1), .unset, .unset, .unset] [(.int (p1 &&& (255 : Int32)))]))
  obtain ⟨p2, hp2⟩ : ∃ z : Int32, z = (p1 &&& (255 : Int32)) := ⟨_, rfl⟩
  rw [← hp2]
  show G (s₁.setTop (mkF m 5 #[.val (.int p0), .val (.int p1), .unset, .unset, .unset] [(.int p2)]))
  refine gs (fun t k => XS.istoreN X0.here hx rfl (hb hby at_5) rfl (l' := #[.val (.int p0), .val (.int p1), .val (.int p2), .unset, .unset]) rfl k) ?_
  show G (s₁.setTop (mkF m 6 #[.val (.int p0), .val (.int p1), .val (.int p2), .unset, .unset] []))
  refine gs (fun t k => XS.iloadN X0.here hx rfl (hb hby at_6) rfl k) ?_
  show G (s₁.setTop (mkF m 7 #[.val (.int p0), .val (.int p1), .val (.int p2), .unset, .unset] [(.int p0)]))
  obtain ⟨_, _, ⟨T1, L1, k1, n1⟩, -, X1, ⟨Lc1, hQ1, l1, y1, z1⟩, st1⟩ := Jvm.LawKit.callS X0 hx (y := (⟨"io/evenkeel/server/Flags", "isAsciiLetterOrDigit", "(I)Z"⟩ : MethodName)) hown (mvT hZ (hw _ (List.mem_of_getElem? (i := 0) rfl))) (mvT hZ (hw _ (List.mem_of_getElem? (i := 1) rfl))) (mvT hZ (hw _ (List.mem_of_getElem? (i := 2) rfl))) (mvT hZ (hw _ (List.mem_of_getElem? (i := 3) rfl))) (by decide) (backOf (W := 0) (rm1 l Z a0 hw [] p0 h0 n0 Z0) hZ (hw _ (List.mem_of_getElem? (i := 3) rfl)) (hw _ (List.mem_of_getElem? (i := 2) rfl)) (by decide) (by decide)) (g := (mkF m 7 #[.val (.int p0), .val (.int p1), .val (.int p2), .unset, .unset] [(.int p0)])) rfl (by rw [hml]; rfl) (argsL := [(.int p0)]) (rest := []) (lenOf pd_0 rfl) rfl (by show 2 * 0 + _ ≤ _; exact Nat.le_of_eq rfl) (hb hby at_7) (fun _ _ => ⟨rfl, e0, (by decide : 0 + 0 ≤ _), (by decide : 0 + 0 ≤ _)⟩)
  dsimp only [Pt.U, Pt.locs, Pt.cells, Pt.slots] at X1 l1 y1 z1 st1 hQ1
  subst y1 z1
  obtain ⟨rfl, N1q, e1⟩ := hQ1
  have N1 : Fr n0 L1 := by rw [l1]; exact Fr.app N0 N1q
  refine gs (fun t k => st1 _ k) ?_
  show G (T1.setTop (mkF m 10 #[.val (.int p0), .val (.int p1), .val (.int p2), .unset, .unset] [(.int (own_f p0))]))
  refine gs (fun t k => XS.iloadN X1.here hx rfl (hb hby at_10) rfl k) ?_
  show G (T1.setTop (mkF m 11 #[.val (.int p0), .val (.int p1), .val (.int p2), .unset, .unset] [(.int p0), (.int (own_f p0))]))
  obtain ⟨_, _, ⟨T2, L2, k2, n2⟩, -, X2, ⟨Lc2, hQ2, l2, y2, z2⟩, st2⟩ := Jvm.LawKit.callS X1 hx (y := (⟨"io/evenkeel/server/FlagsIsAsciiLetterOrDigitPinLaw", "reference", "(I)Z"⟩ : MethodName)) hown (mvT hZ (hw _ (List.mem_of_getElem? (i := 4) rfl))) (mvT hZ (hw _ (List.mem_of_getElem? (i := 5) rfl))) (mvT hZ (hw _ (List.mem_of_getElem? (i := 6) rfl))) (mvT hZ (hw _ (List.mem_of_getElem? (i := 7) rfl))) (by decide) (backOf (W := 1) (rm2 l Z a0 hw [] p0 h0 n0 Z0) hZ (hw _ (List.mem_of_getElem? (i := 7) rfl)) (hw _ (List.mem_of_getElem? (i := 6) rfl)) (by decide) (by decide)) (g := (mkF m 11 #[.val (.int p0), .val (.int p1), .val (.int p2), .unset, .unset] [(.int p0), (.int (own_f p0))])) rfl (by rw [hml]; rfl) (argsL := [(.int p0)]) (rest := [(.int (own_f p0))]) (lenOf pd_0 rfl) rfl (by show 2 * 0 + _ ≤ _; exact Nat.le_of_eq rfl) (hb hby at_11) (fun _ _ => ⟨rfl, e1, (by decide : 0 + 0 ≤ _), (by decide : 0 + 0 ≤ _)⟩)
  dsimp only [Pt.U, Pt.locs, Pt.cells, Pt.slots] at X2 l2 y2 z2 st2 hQ2
  subst y2 z2
  obtain ⟨rfl, N2q, e2⟩ := hQ2
  have N2 : Fr n0 L2 := by rw [l2]; exact Fr.app N1 N2q
  refine gs (fun t k => st2 _ k) ?_
  show G (T2.setTop (mkF m 14 #[.val (.int p0), .val (.int p1), .val (.int p2), .unset, .unset] [(.int (own_g p0)), (.int (own_f p0))]))
  refine gs (fun t k => XS.icmpNo X2.here hx rfl (hb hby at_14) rfl (teq (own_law p0)).2 k) ?_
  show G (T2.setTop (mkF m 17 #[.val (.int p0), .val (.int p1), .val (.int p2), .unset, .unset] []))
  refine gs (fun t k => XS.iconst X2.here hx rfl (hb hby at_17) k) ?_
  show G (T2.setTop (mkF m 18 #[.val (.int p0), .val (.int p1), .val (.int p2), .unset, .unset] [(.int (1 : Int32))]))
  refine gs (fun t k => XS.goto X2.here hx rfl (pc0 := 18) (pc' := 22) rfl (hb hby at_18) (by decide) (by decide) k) ?_
  show G (T2.setTop (mkF m 22 #[.val (.int p0), .val (.int p1), .val (.int p2), .unset, .unset] [(.int (1 : Int32))]))
  refine gs (fun t k => XS.istoreN X2.here hx rfl (hb hby at_22) rfl (l' := #[.val (.int p0), .val (.int p1), .val (.int p2), .val (.int (1 : Int32)), .unset]) rfl k) ?_
  show G (T2.setTop (mkF m 23 #[.val (.int p0), .val (.int p1), .val (.int p2), .val (.int (1 : Int32)), .unset] []))
  refine gs (fun t k => XS.iloadN X2.here hx rfl (hb hby at_23) rfl k) ?_
  show G (T2.setTop (mkF m 24 #[.val (.int p0), .val (.int p1), .val (.int p2), .val (.int (1 : Int32)), .unset] [(.int p2)]))
  obtain ⟨_, _, ⟨T3, L3, k3, n3⟩, -, X3, ⟨Lc3, hQ3, l3, y3, z3⟩, st3⟩ := Jvm.LawKit.callS X2 hx (y := (⟨"io/evenkeel/server/Flags", "isAsciiLetterOrDigit", "(I)Z"⟩ : MethodName)) hown (mvT hZ (hw _ (List.mem_of_getElem? (i := 0) rfl))) (mvT hZ (hw _ (List.mem_of_getElem? (i := 1) rfl))) (mvT hZ (hw _ (List.mem_of_getElem? (i := 2) rfl))) (mvT hZ (hw _ (List.mem_of_getElem? (i := 3) rfl))) (by decide) (backOf (W := 0) (rm1 l Z a0 hw [] p2 h0 n0 Z0) hZ (hw _ (List.mem_of_getElem? (i := 3) rfl)) (hw _ (List.mem_of_getElem? (i := 2) rfl)) (by decide) (by decide)) (g := (mkF m 24 #[.val (.int p0), .val (.int p1), .val (.int p2), .val (.int (1 : Int32)), .unset] [(.int p2)])) rfl (by rw [hml]; rfl) (argsL := [(.int p2)]) (rest := []) (lenOf pd_0 rfl) rfl (by show 2 * 0 + _ ≤ _; exact Nat.le_of_eq rfl) (hb hby at_24) (fun _ _ => ⟨rfl, e2, (by decide : 0 + 0 ≤ _), (by decide : 0 + 0 ≤ _)⟩)
  dsimp only [Pt.U, Pt.locs, Pt.cells, Pt.slots] at X3 l3 y3 z3 st3 hQ3
  subst y3 z3
  obtain ⟨rfl, N3q, e3⟩ := hQ3
  have N3 : Fr n0 L3 := by rw [l3]; exact Fr.app N2 N3q
  refine gs (fun t k => st3 _ k) ?_
  show G (T3.setTop (mkF m 27 #[.val (.int p0), .val (.int p1), .val (.int p2), .val (.int (1 : Int32)), .unset] [(.int (own_f p2))]))
  refine gs (fun t k => XS.iloadN X3.here hx rfl (hb hby at_27) rfl k) ?_
  show G (T3.setTop (mkF m 28 #[.val (.int p0), .val (.int p1), .val (.int p2), .val (.int (1 : Int32)), .unset] [(.int p2), (.int (own_f p2))]))
  obtain ⟨_, _, ⟨T4, L4, k4, n4⟩, -, X4, ⟨Lc4, hQ4, l4, y4, z4⟩, st4⟩ := Jvm.LawKit.callS X3 hx (y := (⟨"io/evenkeel/server/FlagsIsAsciiLetterOrDigitPinLaw", "reference", "(I)Z"⟩ : MethodName)) hown (mvT hZ (hw _ (List.mem_of_getElem? (i := 4) rfl))) (mvT hZ (hw _ (List.mem_of_getElem? (i := 5) rfl))) (mvT hZ (hw _ (List.mem_of_getElem? (i := 6) rfl))) (mvT hZ (hw _ (List.mem_of_getElem? (i := 7) rfl))) (by decide) (backOf (W := 1) (rm2 l Z a0 hw [] p2 h0 n0 Z0) hZ (hw _ (List.mem_of_getElem? (i := 7) rfl)) (hw _ (List.mem_of_getElem? (i := 6) rfl)) (by decide) (by decide)) (g := (mkF m 28 #[.val (.int p0), .val (.int p1), .val (.int p2), .val (.int (1 : Int32)), .unset] [(.int p2), (.int (own_f p2))])) rfl (by rw [hml]; rfl) (argsL := [(.int p2)]) (rest := [(.int (own_f p2))]) (lenOf pd_0 rfl) rfl (by show 2 * 0 + _ ≤ _; exact Nat.le_of_eq rfl) (hb hby at_28) (fun _ _ => ⟨rfl, e3, (by decide : 0 + 0 ≤ _), (by decide : 0 + 0 ≤ _)⟩)
  dsimp only [Pt.U, Pt.locs, Pt.cells, Pt.slots] at X4 l4 y4 z4 st4 hQ4
  subst y4 z4
  obtain ⟨rfl, N4q, e4⟩ := hQ4
  have N4 : Fr n0 L4 := by rw [l4]; exact Fr.app N3 N4q
  refine gs (fun t k => st4 _ k) ?_
  show G (T4.setTop (mkF m 31 #[.val (.int p0), .val (.int p1), .val (.int p2), .val (.int (1 : Int32)), .unset] [(.int (own_g p2)), (.int (own_f p2))]))
  refine gs (fun t k => XS.icmpNo X4.here hx rfl (hb hby at_31) rfl (teq (own_law p2)).2 k) ?_
  show G (T4.setTop (mkF m 34 #[.val (.int p0), .val (.int p1), .val (.int p2), .val (.int (1 : Int32)), .unset] []))
  refine gs (fun t k => XS.iconst X4.here hx rfl (hb hby at_34) k) ?_
  show G (T4.setTop (mkF m 35 #[.val (.int p0), .val (.int p1), .val (.int p2), .val (.int (1 : Int32)), .unset] [(.int (1 : Int32))]))
  refine gs (fun t k => XS.goto X4.here hx rfl (pc0 := 35) (pc' := 39) rfl (hb hby at_35) (by decide) (by decide) k) ?_
  show G (T4.setTop (mkF m 39 #[.val (.int p0), .val (.int p1), .val (.int p2), .val (.int (1 : Int32)), .unset] [(.int (1 : Int32))]))
  refine gs (fun t k => XS.istore X4.here hx rfl (hb hby at_39) rfl (l' := #[.val (.int p0), .val (.int p1), .val (.int p2), .val (.int (1 : Int32)), .val (.int (1 : Int32))]) rfl k) ?_
  show G (T4.setTop (mkF m 41 #[.val (.int p0), .val (.int p1), .val (.int p2), .val (.int (1 : Int32)), .val (.int (1 : Int32))] []))
  refine gs (fun t k => XS.iloadN X4.here hx rfl (hb hby at_41) rfl k) ?_
  show G (T4.setTop (mkF m 42 #[.val (.int p0), .val (.int p1), .val (.int p2), .val (.int (1 : Int32)), .val (.int (1 : Int32))] [(.int (1 : Int32))]))
  refine gs (fun t k => XS.ifNo X4.here hx rfl (hb hby at_42) rfl ((if0 _ _).trans (feq (by decide : ¬ ((1 : Int32) = (0 : Int32)))).1) k) ?_
  show G (T4.setTop (mkF m 45 #[.val (.int p0), .val (.int p1), .val (.int p2), .val (.int (1 : Int32)), .val (.int (1 : Int32))] []))
  refine gs (fun t k => XS.iload X4.here hx rfl (hb hby at_45) rfl k) ?_
  show G (T4.setTop (mkF m 47 #[.val (.int p0), .val (.int p1), .val (.int p2), .val (.int (1 : Int32)), .val (.int (1 : Int32))] [(.int (1 : Int32))]))
  refine gs (fun t k => XS.ifNo X4.here hx rfl (hb hby at_47) rfl ((if0 _ _).trans (feq (by decide : ¬ ((1 : Int32) = (0 : Int32)))).1) k) ?_
  show G (T4.setTop (mkF m 50 #[.val (.int p0), .val (.int p1), .val (.int p2), .val (.int (1 : Int32)), .val (.int (1 : Int32))] []))
  refine gs (fun t k => XS.iconst X4.here hx rfl (hb hby at_50) k) ?_
  show G (T4.setTop (mkF m 51 #[.val (.int p0), .val (.int p1), .val (.int p2), .val (.int (1 : Int32)), .val (.int (1 : Int32))] [(.int (1 : Int32))]))
  refine gs (fun t k => XS.goto X4.here hx rfl (pc0 := 51) (pc' := 55) rfl (hb hby at_51) (by decide) (by decide) k) ?_
  show G (T4.setTop (mkF m 55 #[.val (.int p0), .val (.int p1), .val (.int p2), .val (.int (1 : Int32)), .val (.int (1 : Int32))] [(.int (1 : Int32))]))
  obtain ⟨fs, hr, hrun, hended, hW, hsame⟩ := X4.leave (v := some (.int (1 : Int32))) (fun h => by rw [Bd.returns] at h; cases h)
  refine gl _ ⟨_, _, retN X4 hx (t := .boolean) Bd.returns (by simp) (hb hby at_55) hr, hrun, hended, _, _, rfl, ?_, ⟨_, rfl⟩, hW, hsame.mono (by decide) (by decide)⟩
  show Q0 h0 n0 _ T4.heap _
  rw [e4]
  exact ⟨rfl, N4⟩
set_option maxRecDepth 65536 in
set_option maxHeartbeats 40000000 in
theorem comes_1 {Post : Tables → Env → Array Value → State → Outcome → State → Prop} (hpost : ∀ tb e args s v u, (limb_1_1.after args s (.returned v) u = true ∧ limb_1_2.after args s (.returned v) u = true ∧ True) → FrameEnd s (.returned v) u (Jvm.fieldLocs frame_1_writes args s ++ Jvm.arrayLocs frame_1_arrays args s ++ Jvm.staticLocs frame_1_statics s) 0 0 → Post tb e args s (.returned v) u) :
    ArmFor flags0 classFile x code maxLocals ret World_1 tables_1 room_1 Calls_1 rest_1 Pre_1 Post := by
  intro l hfl _ _ p e ha hc hk s m args below hf hA hF happ hP
  obtain ⟨hcalls, hrest, hpre⟩ := hP
  obtain ⟨-, -, -, hnamed, -, -, -, hat⟩ := (Spec.applies_iff hf).mp happ
  obtain ⟨hg, hn⟩ := and_e (Cond.before_iff.mp (show (Jvm.Cond.and given_1 narrow_1).before args s = true from hpre))
  obtain ⟨hg0, hg1⟩ := and_e hg
  obtain ⟨hv0, ht0⟩ := and_e hg1
  have hv1 := ht0
  obtain ⟨w0, w1, rfl⟩ : ∃ w0 w1 : Value, args = #[w0, w1] := by
    have hs : args.size = 2 := by simpa [Cond.value, given_1] using hg0
    obtain ⟨L⟩ := args
    match L, hs with
    | [w0, w1], _ => exact ⟨w0, w1, rfl⟩
  have hw := fun d (hd : d ∈ tables_1) => atoms_spec (ws := Jvm.Cond.code x code maxLocals ret :: tables_1) hat d (List.mem_cons_of_mem _ hd)
  have hfit : Fit s := fun {y c} hc i hi => by
    obtain ⟨ha, rfl⟩ := Array.getElem?_eq_some_iff.mp hc
    have q := List.all_eq_true.mp ((Array.all_eq_true_iff_forall_mem.mp hF) _ (Array.getElem_mem ha)) i (List.mem_range.mpr hi)
    simpa [Array.getElem?_eq_getElem hi] using q
  obtain ⟨i0, ei0⟩ := is_v hv0
  obtain rfl : w0 = (.int i0) := Option.some.inj ei0
  obtain ⟨i1, ei1⟩ := is_v hv1
  obtain rfl : w1 = (.int i1) := Option.some.inj ei1
  obtain ⟨n, o, h1, h2, h3, _, L, rfl, ⟨rfl, N⟩, hq⟩ := rm0 l s _ hw tables_1 i0 i1 s.heap s.heap.size (Nat.le_refl _)  p e ha hc hk s m _ below hf ((Spec.applies_iff_loose hf).mp happ).1 ⟨rfl, State.Warmed39.refl s, rfl⟩ trivial
  refine ⟨n, _, h1, h2, h3, hpost _ _ _ _ _ _ ⟨Cond.after_iff.mpr rfl, Cond.after_iff.mpr (eq_i res_at (Term.int_eval (1)) rfl), trivial⟩ ⟨hq.1, hq.2.1, (hq.2.2.sift fun y hy => Or.inr (N y hy)).mono (by decide) (by decide)⟩⟩
theorem main_1_1 : Claimed_1_1 := comes_1 fun _ _ _ _ _ _ h hF => ⟨h.1, hF⟩
theorem main_1_2 : Claimed_1_2 := comes_1 fun _ _ _ _ _ _ h hF => ⟨h.2.1, hF⟩
end Jvm.Pilot.@@N@@
namespace Jvm.Pilot.@@N@@
open Jvm Jvm.ClassFile Sem Op Lib Jvm.Free Jvm.Stand Jvm.Pilot.@@N@@.Jvm.D
/-! MADE BY PROGRAM (witnessworld.py) out of the Statement's table words and the real class files: 9 classes; the members and pool entries that the words name. The judged class is class 1, her method 1. -/
namespace start1
open Jvm.ClassFile
def u (s : String) : CpInfo := .utf8 (stringToUtf16 s)
/-- a pool by its gaps: so many unusable entries, then the entry; so many at the end -/
def gap : Nat → List CpInfo → List CpInfo
  | 0, r => r
  | n + 1, r => .unusable :: gap n r
def poolList (es : List (Nat × CpInfo)) (last : Nat) : List CpInfo := es.foldr (fun e r => gap e.1 (e.2 :: r)) (gap last [])
def pool (es : List (Nat × CpInfo)) (last : Nat) : Array CpInfo := ⟨poolList es last⟩
def fileOf (pool : Array CpInfo) (this : Nat) (attrs : Array Attribute := #[]) (ms : Array MethodInfo := #[]) (fl : Nat := 33) (sup : Nat := 0) (ifs : Array Nat := #[]) (fds : Array FieldInfo := #[]) : ClassFile where
  minorVersion := 0
  majorVersion := 65
  constantPool := pool
  accessFlags := fl
  thisClass := this
  superClass := sup
  interfaces := ifs
  fields := fds
  methods := ms
  attributes := attrs
def plain (name : String) (sup : Option ClassId) : Class where
  name := name
  kind := .ordinary
  loader := none
  accessFlags := 33
  super := sup
  interfaces := #[]
  cf := none
  fields := #[]
  methods := #[]
  instanceTypes := #[]
  staticTypes := #[]
  resolved := #[]
  callSites := []
  init := .initialized
  statics := none
  mirror := none

def pool0 : Array CpInfo := pool [(5, u "<init>"), (0, u "()V"), (1, .class_ 10), (1, u "java/lang/Object")] 113

def k0m0 : Method := { name := "<init>", desc := "()V", sig := { parameters := [], returnType := none }, accessFlags := 1, code := none }
/-- java/lang/Object -/
def k0 : Class := { plain "java/lang/Object" none with
  accessFlags := 33
  interfaces := #[]
  cf := some (fileOf pool0 8 #[] #[{ accessFlags := 1, nameIndex := 5, descriptorIndex := 6, attributes := #[] }] 33 0 #[] #[])
  fields := #[]
  methods := #[k0m0]
  instanceTypes := #[]
  staticTypes := #[]
  resolved := Array.replicate 124 none
  statics := none }

def pool1 : Array CpInfo := pool [(2, .class_ 4), (1, u "java/lang/Object"), (0, u "<init>"), (0, u "()V"), (0, .methodref 8 9), (0, .class_ 10), (0, .nameAndType 11 12), (0, u "io/evenkeel/server/Flags"), (0, u "isAsciiLetterOrDigit"), (0, u "(I)Z"), (0, .methodref 14 15), (0, .class_ 16), (0, .nameAndType 17 12), (0, u "io/evenkeel/server/FlagsIsAsciiLetterOrDigitPinLaw"), (0, u "reference"), (0, .long 48), (1, .long 97), (1, .long 10), (1, .long 26), (3, u "law"), (0, u "(II)Z")] 3

def k1m0 : Method := { name := "<init>", desc := "()V", sig := { parameters := [], returnType := none }, accessFlags := 2, code := none }
def k1c1 : Code := { maxStack := 2, maxLocals := 5, code := code, exceptionTable := #[], attributes := #[] }
def k1m1 : Method := { name := "law", desc := "(II)Z", sig := { parameters := [.int, .int], returnType := some .boolean }, accessFlags := 9, code := some k1c1 }
def k1c2 : Code := { maxStack := 4, maxLocals := 8, code := method_3_code, exceptionTable := #[], attributes := #[] }
def k1m2 : Method := { name := "reference", desc := "(I)Z", sig := { parameters := [.int], returnType := some .boolean }, accessFlags := 10, code := some k1c2 }
/-- io/evenkeel/server/FlagsIsAsciiLetterOrDigitPinLaw -/
def k1 : Class := { plain "io/evenkeel/server/FlagsIsAsciiLetterOrDigitPinLaw" (some 0) with
  accessFlags := 49
  interfaces := #[]
  cf := some (fileOf pool1 14 #[] #[{ accessFlags := 2, nameIndex := 5, descriptorIndex := 6, attributes := #[] }, { accessFlags := 9, nameIndex := 28, descriptorIndex := 29, attributes := #[] }, { accessFlags := 10, nameIndex := 17, descriptorIndex := 12, attributes := #[] }] 49 2 #[] #[])
  fields := #[]
  methods := #[k1m0, k1m1, k1m2]
  instanceTypes := #[]
  staticTypes := #[]
  resolved := Array.replicate 33 none
  statics := none }

def pool2 : Array CpInfo := pool [(2, .class_ 4), (1, u "java/lang/Object"), (0, u "<init>"), (0, u "()V"), (58, .class_ 66), (0, u "io/evenkeel/server/Flags$Flag"), (19, .class_ 88), (1, u "io/evenkeel/server/Flags$Repeated"), (89, .class_ 179), (0, u "io/evenkeel/server/Flags$HostPort"), (4, .class_ 186), (1, u "io/evenkeel/server/Flags"), (53, u "isAsciiLetterOrDigit"), (0, u "(I)Z")] 107

def k2m0 : Method := { name := "<init>", desc := "()V", sig := { parameters := [], returnType := none }, accessFlags := 2, code := none }
def k2c1 : Code := { maxStack := 2, maxLocals := 1, code := prog_157_method_14_code, exceptionTable := #[], attributes := #[] }
def k2m1 : Method := { name := "isAsciiLetterOrDigit", desc := "(I)Z", sig := { parameters := [.int], returnType := some .boolean }, accessFlags := 8, code := some k2c1 }
/-- io/evenkeel/server/Flags -/
def k2 : Class := { plain "io/evenkeel/server/Flags" (some 0) with
  accessFlags := 48
  interfaces := #[]
  cf := some (fileOf pool2 184 #[.nestMembers #[178, 86, 65]] #[{ accessFlags := 2, nameIndex := 5, descriptorIndex := 6, attributes := #[] }, { accessFlags := 8, nameIndex := 240, descriptorIndex := 241, attributes := #[] }] 48 2 #[] #[])
  fields := #[]
  methods := #[k2m0, k2m1]
  instanceTypes := #[]
  staticTypes := #[]
  resolved := Array.replicate 349 none
  statics := none }

def pool3 : Array CpInfo := pool [(1, u "java/lang/Cloneable"), (0, .class_ 1), (0, u "java/lang/Object"), (0, .class_ 3)] 3

/-- java/lang/Cloneable -/
def k3 : Class := { plain "java/lang/Cloneable" (some 0) with
  accessFlags := 1537
  interfaces := #[]
  cf := some (fileOf pool3 2 #[] #[] 1537 4 #[] #[])
  fields := #[]
  methods := #[]
  instanceTypes := #[]
  staticTypes := #[]
  resolved := Array.replicate 8 none
  statics := none }

def pool4 : Array CpInfo := pool [(1, u "java/io/Serializable"), (0, .class_ 1), (0, u "java/lang/Object"), (0, .class_ 3)] 3

/-- java/io/Serializable -/
def k4 : Class := { plain "java/io/Serializable" (some 0) with
  accessFlags := 1537
  interfaces := #[]
  cf := some (fileOf pool4 2 #[] #[] 1537 4 #[] #[])
  fields := #[]
  methods := #[]
  instanceTypes := #[]
  staticTypes := #[]
  resolved := Array.replicate 8 none
  statics := none }

/-- the primitive byte -/
def k5 : Class := { plain "byte" none with kind := .primitive 'B', accessFlags := 0x411 }
/-- [B -/
def k6 : Class := { plain "[B" (some 0) with kind := .array 5 .byte, interfaces := #[3, 4], accessFlags := 1041 }

/-- the primitive int -/
def k7 : Class := { plain "int" none with kind := .primitive 'I', accessFlags := 0x411 }
/-- [I -/
def k8 : Class := { plain "[I" (some 0) with kind := .array 7 .int, interfaces := #[3, 4], accessFlags := 1041 }

def heap : Heap := #[]
def classes : Array Class := #[k0, k1, k2, k3, k4, k5, k6, k7, k8]
def interned : List (Array UInt16 × Addr) := []
def slotsUsed : Nat := 0
def theMethod : MethodId := ⟨1, 1⟩
def args0 : Array Value := #[.int 97, .int 300]
def aboutOver (below : List Frame) : State where
  vm := { classes := classes, interned := interned.toArray }
  heap := heap
  slotsUsed := slotsUsed
  threads := #[{ frames := .invoking theMethod args0 :: below }]
def below0 : List Frame := [.native { method := ⟨0, 0⟩, args := #[] }]
def about1 : State := aboutOver below0
def p0 : Program := .bare "" "" ""
def e0 : Env := launch0.env 0 0 0
theorem w_frames : about1.frames = Frame.invoking theMethod args0 :: below0 := rfl
set_option maxRecDepth 65536 in
theorem w_args : argsFit about1.vm theMethod args0 = true := by decide +kernel
set_option maxRecDepth 65536 in
theorem w_heap : heapFits about1 = true := by decide +kernel
set_option maxRecDepth 65536 in
theorem w_runnable : about1.curStatus? = some .runnable := by decide +kernel
set_option maxRecDepth 65536 in
theorem w_alone : about1.alone = true := by decide +kernel
set_option maxRecDepth 65536 in
theorem w_named : about1.methodNamed? x = some theMethod := by decide +kernel
set_option maxRecDepth 65536 in
theorem w_hears : about1.hears theMethod below0 = true := by decide +kernel
set_option maxRecDepth 65536 in
theorem w_ripe : about1.ripe theMethod args0 below0 = true := by decide +kernel
theorem w_running : about1.status = .running := rfl
set_option maxRecDepth 65536 in
theorem w_room : about1.hasRoom e0.platform room_1 = true :=
  launch0.hasRoom_least _ room_1 (by decide +kernel) (by decide +kernel) (by decide +kernel) (by decide +kernel) (by decide +kernel) (by decide +kernel)
theorem allAtoms_all (ts : List Jvm.Cond) (a : Array Jvm.Value) (st : Jvm.State) : (allAtoms ts).before a st = ts.all (fun c => c.before a st) := by
  induction ts with
  | nil => rfl
  | cons c t ih =>
    show (Jvm.Cond.and c (allAtoms t)).before a st = _
    rw [Jvm.Cond.before_and, ih, List.all_cons]
def words1 : List Jvm.Cond := Jvm.Cond.code x code maxLocals ret :: tables_1
/-- a 'code' word, met by the world's own term for the bytes: nothing is compared byte by byte -/
theorem code_word {y : MethodName} {bytes : ByteArray} {mx : Nat} {rt : Option FieldType} {a : Array Value} {s : State} {m : MethodId} {meth : Method} {c : Code} (h1 : s.methodNamed? y = some m) (h2 : s.vm.method? m = some meth) (h3 : meth.code = some c) (h4 : c.code = bytes)
    (h5 : (c.maxLocals == mx && c.exceptionTable.isEmpty && decide (c.maxStack ≤ mostOperands) && decide (meth.sig.returnType = rt) && !meth.locks && decide (parseMethodDescriptor y.desc = some meth.sig)) = true) : (Jvm.Cond.code y bytes mx rt).before a s = true := by
  simp only [Bool.and_eq_true, beq_iff_eq, Bool.not_eq_true', decide_eq_true_eq] at h5
  obtain ⟨⟨⟨⟨⟨g1, g2⟩, g3⟩, g4⟩, g5⟩, g6⟩ := h5
  simp [Cond.before, Cond.holds, Cond.value, h1, h2, h3, h4, g1, g2, g3, g4, g5, g6]
def isCode : Jvm.Cond → Bool
  | .code _ _ _ _ => true
  | _ => false
theorem all_split {L : List Jvm.Cond} {P : Jvm.Cond → Bool} (h1 : L.all (fun c => isCode c || P c) = true) (h2 : ∀ c ∈ L.filter isCode, P c = true) : L.all P = true := by
  refine List.all_eq_true.mpr fun c hc => ?_
  have h := List.all_eq_true.mp h1 c hc
  rcases Bool.eq_false_or_eq_true (isCode c) with hi | hi
  · exact h2 c (List.mem_filter.mpr ⟨hc, hi⟩)
  · simpa [hi] using h
set_option maxRecDepth 65536 in
theorem w_c0 : (Jvm.Cond.code x code maxLocals ret).before args0 about1 = true := code_word (m := ⟨1, 1⟩) (meth := k1m1) (c := k1c1) (by decide +kernel) rfl rfl rfl (by decide +kernel)
set_option maxRecDepth 65536 in
theorem w_c1 : (Jvm.Cond.code ({ cls := "io/evenkeel/server/Flags", name := "isAsciiLetterOrDigit", desc := "(I)Z" } : Jvm.MethodName) prog_157_method_14_code (1 : Nat) (Option.some Jvm.ClassFile.FieldType.boolean)).before args0 about1 = true := code_word (m := ⟨2, 1⟩) (meth := k2m1) (c := k2c1) (by decide +kernel) rfl rfl rfl (by decide +kernel)
set_option maxRecDepth 65536 in
theorem w_c2 : (Jvm.Cond.code ({ cls := "io/evenkeel/server/FlagsIsAsciiLetterOrDigitPinLaw", name := "reference", desc := "(I)Z" } : Jvm.MethodName) method_3_code (8 : Nat) (Option.some Jvm.ClassFile.FieldType.boolean)).before args0 about1 = true := code_word (m := ⟨1, 2⟩) (meth := k1m2) (c := k1c2) (by decide +kernel) rfl rfl rfl (by decide +kernel)
def codes1 : List Jvm.Cond := [Jvm.Cond.code x code maxLocals ret, Jvm.Cond.code ({ cls := "io/evenkeel/server/Flags", name := "isAsciiLetterOrDigit", desc := "(I)Z" } : Jvm.MethodName) prog_157_method_14_code (1 : Nat) (Option.some Jvm.ClassFile.FieldType.boolean), Jvm.Cond.code ({ cls := "io/evenkeel/server/FlagsIsAsciiLetterOrDigitPinLaw", name := "reference", desc := "(I)Z" } : Jvm.MethodName) method_3_code (8 : Nat) (Option.some Jvm.ClassFile.FieldType.boolean)]
set_option maxRecDepth 65536 in
theorem codes_eq : words1.filter isCode = codes1 := rfl
theorem w_codes : ∀ c ∈ words1.filter isCode, c.before args0 about1 = true := by
  rw [codes_eq]
  intro c hc
  simp only [codes1, List.mem_cons, List.not_mem_nil, or_false] at hc
  rcases hc with rfl | rfl | rfl
  · exact w_c0
  · exact w_c1
  · exact w_c2
set_option maxRecDepth 65536 in
theorem w_t1 : words1.all (fun c => isCode c || c.before args0 about1) = true := by decide +kernel
theorem w_tables : (allAtoms (Jvm.Cond.code x code maxLocals ret :: tables_1)).before args0 about1 = true := by
  rw [allAtoms_all]
  show words1.all (fun c => c.before args0 about1) = true
  refine all_split ?_ w_codes
  rw [w_t1]
set_option maxRecDepth 65536 in
theorem w_case : (Jvm.Cond.and given_1 narrow_1).before args0 about1 = true := by decide +kernel
theorem w_applies : (headSpec (Jvm.Cond.code x code maxLocals ret :: tables_1) room_1).applies x e0.platform about1 = true :=
  (Spec.applies_iff w_frames).mpr ⟨w_running, w_runnable, w_alone, w_named, w_hears, w_ripe, w_room, w_tables⟩
theorem atStart : AtStart classFile x code maxLocals ret World_1 tables_1 room_1 Calls_1 rest_1 Pre_1 launch0 p0 e0 about1 theMethod args0 below0 :=
  ⟨lists_1, trivial, launch0.admits_env _ _ _, launch0.least_env, fairChoices_fair.cas, fairChoices_fair.clock, w_frames, w_args, w_heap, w_applies, trivial, trivial, w_case⟩
end start1
theorem witness_1 : WitnessClaimed_1 := ⟨start1.p0, start1.e0, start1.about1, start1.theMethod, start1.args0, start1.below0, start1.atStart⟩
end Jvm.Pilot.@@N@@
