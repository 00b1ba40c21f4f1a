import JvmDerived
import JvmDerived.Pilot.@@N@@Statement
import JvmDerived.Pilot.@@N@@Code
set_option linter.unusedVariables false
set_option linter.unusedSimpArgs false
namespace Jvm.RoadKit
open Sem ClassFile Op Lib Jvm.Stand Jvm.Free Jvm.LawKit
section New
variable {p : Program} {l : Launch} {e : Env} {R : Room} {s : State} {m : MethodId} {args : Array Value} {below : List Frame} {meth : Method} {c : Code} {T : State} {locs : List Loc} {cells slots : Nat}
theorem own_retI (X : Stand p l e R s m args below meth c T locs cells slots) (hx : p.tables.exec = Jvm.exec) {pc : Nat} {Ls : Array Slot} {z : Int32} {rest : List Value} (hret : meth.sig.returnType = some .int) (hd : decode c.code pc = .ok (.ireturn, 1)) {fs : List Frame}
    (hl : ∀ (f : JFrame) (acts : List Action), f.method = m → f.locked = none → f.entered = [] → (doReturn e (T.setTop f) acts (some (.int z))).1 = T.setFrames fs) : Steps p.tables e below (T.setTop (mkF m pc Ls (.int z :: rest))) (T.setFrames fs) :=
  retOut X hx hret rfl (Or.inl ⟨rfl, Or.inl rfl, z, rfl⟩) hd hl
theorem own_start {S S0 : State} {P : State → Outcome → Prop} (pre : ∀ t, Steps p.tables e below S t → Steps p.tables e below S0 t)
    (k : ∀ G : State → Prop, (∀ {U U' : State}, (∀ t, Steps p.tables e below U' t → Steps p.tables e below U t) → G U' → G U) → (∀ U, (∃ s₂ o, Steps p.tables e below U s₂ ∧ P s₂ o) → G U) → G S) :
    ∃ s₂ o, Steps p.tables e below S0 s₂ ∧ P s₂ o := by
  obtain ⟨t, o, h1, h2⟩ := k (fun U => ∃ s₂ o, Steps p.tables e below U s₂ ∧ P s₂ o) (fun f ⟨t, o, h1, h2⟩ => ⟨t, o, f t h1, h2⟩) (fun _ h => h)
  exact ⟨t, o, pre t h1, h2⟩
theorem own_lsw {g : JFrame} {target : State} (X : Stand p l e R s m args below meth c T locs cells slots) (hx : p.tables.exec = Jvm.exec) (hg : g.method = m) {dflt : Int} {ps : Array (Int × Int)} {len : Nat} {pc0 pc' : Nat} (hpc : g.pc = pc0) (hd : decode c.code g.pc = .ok (.lookupswitch dflt ps, len)) {i : Int32} {rest : List Value} (hs : g.stack = .int i :: rest)
    (hsort : (ps.toList.zip ps.toList.tail).all (fun q => decide (q.1.1 < q.2.1)) = true) {o : Int} (hoff : lookupswitch.offset ps.toList dflt i.toInt = o) (ho : 0 ≤ (pc0 : Int) + o) (hp : ((pc0 : Int) + o).toNat = pc') (hr : Steps p.tables e below (T.setTop { g with pc := pc', stack := rest }) target) : Steps p.tables e below (T.setTop g) target := by
  subst hg hpc hp hoff
  jvm_step X.here [X.here.top, hx, hd, hs, ho, lookupswitch.wp_chain]
  exact ⟨fun a b a1 b1 hm => by simpa using List.all_eq_true.mp hsort _ hm, hr⟩
theorem own_lt {a b : Int32} (h : a < b) : a.toInt < b.toInt := Int32.lt_iff_toInt_lt.mp h
theorem own_nlt {a b : Int32} (h : ¬ a < b) : b.toInt ≤ a.toInt := Int.not_lt.mp fun q => h (Int32.lt_iff_toInt_lt.mpr q)
theorem own_miss {a o : Int} {r : List (Int × Int)} {d k : Int} (h : a ≠ k) : lookupswitch.offset ((a, o) :: r) d k = lookupswitch.offset r d k := by rw [lookupswitch.offset_cons, if_neg h]
theorem own_nek {x K : Int32} {k : Int} (h : ¬ x = K) (e : K.toInt = k) : k ≠ x.toInt := fun q => h (Int32.toInt_inj.mp (q.symm.trans e.symm))
theorem own_sta_keep {Z : State} {h h' : Heap} {C n d : String} {v : Value} (F : Sta Z h C n d v) (K : Keep h h' []) : Sta Z h' C n d v := by
  obtain ⟨cf, i, k, f, st, cell, h1, h2, h3, h4, h5, r⟩ := F; exact ⟨cf, i, k, f, st, cell, h1, h2, h3, h4, K.2.1 _ _ h5 nin0, r⟩
theorem own_sta_keepE {Z : State} {h h' : Heap} {C n d D : String} {v : Value} {a : Addr} (F : Sta Z h C n d v) (K : Keep h h' [a]) (E : Exa Z h a D) : Sta Z h' C n d v := by
  obtain ⟨cf, i, k, f, st, cell, h1, h2, h3, h4, h5, h6, r⟩ := F
  obtain ⟨c2, k2, q1, -, -, q4, -⟩ := E
  refine ⟨cf, i, k, f, st, cell, h1, h2, h3, h4, K.2.1 _ _ h5 (ninS (fun z => ?_) nin0), h6, r⟩
  subst z; cases q1.symm.trans h5; rw [q4] at h6; cases h6
theorem own_arvset {Z : State} {h h' : Heap} {a : Addr} {c : Cell} {ty : FieldType} {k : ClassId} {z j : Int32} {vs : List Value} {dv v : Value} {N : Nat} (A : Arr Z h a c ty) (q1 : c.cls = k) (S : c.slots.size = z.toNatClampNeg) (q3 : ¬ z < 0) (H : Has c vs dv) (F : ∀ i, i < c.slots.size → fits ty (vs.getD i dv) = true) (hv : fits ty v = true) (W : Wr h h' a j.toNatClampNeg v) (i : Nat) (hj : j.toNatClampNeg = i) (hl : vs.length = N) (hi : i < N) :
    ∃ vs', vs'.length = N ∧ Arv Z h' a k ty z vs' dv := ⟨_, by rw [List.length_set]; exact hl, Arv.set A q1 S q3 H F hv W i hj (by rw [hl]; exact hi)⟩
end New
end Jvm.RoadKit
namespace Jvm.Pilot.@@N@@
open Jvm Jvm.ClassFile Sem Op Lib Jvm.Free Jvm.Stand Jvm.LawKit Jvm.RoadKit Bundle Jvm.Pilot.@@N@@.Jvm.D
theorem own_chr {x v : Int32} (h : v = (x &&& (255 : Int32)).toUInt32.toUInt16.toUInt32.toInt32) : 0 ≤ v.toInt ∧ v.toInt ≤ 255 := by
  rw [i2c_mask] at h
  subst h
  have h1 := c_and x 255 (by decide)
  have e : (255 : Int32).toInt = 255 := by decide
  omega
theorem own_n255 {v : Int32} (h : 0 ≤ v.toInt ∧ v.toInt ≤ 255) : ¬ (255 : Int32) < v := by
  have e : (255 : Int32).toInt = 255 := by decide
  rw [Int32.lt_iff_toInt_lt]; omega
theorem own_nar {v : Int32} (h : 0 ≤ v.toInt ∧ v.toInt ≤ 255) : ¬ (255 : Int32) < nar .char v := by
  have e : (255 : Int32).toInt = 255 := by decide
  have q := c_i2c v
  rw [Int32.lt_iff_toInt_lt]
  show ¬ (255 : Int32).toInt < (v.toUInt32.toUInt16.toUInt32.toInt32).toInt
  omega
def own_r (g : Int32) : Int32 := if (0 : Int32) < g then 1 else 0
theorem own_r0 {g : Int32} : ¬ own_r g = 0 ↔ (0 : Int32) < g := by
  unfold own_r; split <;> simp_all
theorem own_m {g h : Int32} (a : g.toInt ≤ h.toInt) (b : ¬ own_r g = 0) : ¬ own_r h = 0 := by
  rw [own_r0, Int32.lt_iff_toInt_lt] at *; omega
theorem d6_0 : decode jdk_52_method_21_code 0 = .ok (.iconst 0, 1) := by decide +kernel
theorem d6_1 : decode jdk_52_method_21_code 1 = .ok (.istore 5, 2) := by decide +kernel
theorem d6_3 : decode jdk_52_method_21_code 3 = .ok (.iload 5, 2) := by decide +kernel
theorem d6_5 : decode jdk_52_method_21_code 5 = .ok (.iload 4, 2) := by decide +kernel
theorem d6_7 : decode jdk_52_method_21_code 7 = .ok (.if_icmp .ge 37, 3) := by decide +kernel
theorem d6_10 : decode jdk_52_method_21_code 10 = .ok (.aload_n 0, 1) := by decide +kernel
theorem d6_11 : decode jdk_52_method_21_code 11 = .ok (.iload_n 1, 1) := by decide +kernel
theorem d6_12 : decode jdk_52_method_21_code 12 = .ok (.caload, 1) := by decide +kernel
theorem d6_13 : decode jdk_52_method_21_code 13 = .ok (.istore 6, 2) := by decide +kernel
theorem d6_15 : decode jdk_52_method_21_code 15 = .ok (.iload 6, 2) := by decide +kernel
theorem d6_17 : decode jdk_52_method_21_code 17 = .ok (.sipush 255, 3) := by decide +kernel
theorem d6_20 : decode jdk_52_method_21_code 20 = .ok (.if_icmp .le 6, 3) := by decide +kernel
theorem d6_26 : decode jdk_52_method_21_code 26 = .ok (.aload_n 2, 1) := by decide +kernel
theorem d6_27 : decode jdk_52_method_21_code 27 = .ok (.iload_n 3, 1) := by decide +kernel
theorem d6_28 : decode jdk_52_method_21_code 28 = .ok (.iload 6, 2) := by decide +kernel
theorem d6_30 : decode jdk_52_method_21_code 30 = .ok (.i2b, 1) := by decide +kernel
theorem d6_31 : decode jdk_52_method_21_code 31 = .ok (.bastore, 1) := by decide +kernel
theorem d6_32 : decode jdk_52_method_21_code 32 = .ok (.iinc 1 1, 3) := by decide +kernel
theorem d6_35 : decode jdk_52_method_21_code 35 = .ok (.iinc 3 1, 3) := by decide +kernel
theorem d6_38 : decode jdk_52_method_21_code 38 = .ok (.iinc 5 1, 3) := by decide +kernel
theorem d6_41 : decode jdk_52_method_21_code 41 = .ok (.goto (-38), 3) := by decide +kernel
theorem d6_44 : decode jdk_52_method_21_code 44 = .ok (.iload 4, 2) := by decide +kernel
theorem d6_46 : decode jdk_52_method_21_code 46 = .ok (.ireturn, 1) := by decide +kernel
theorem pn_java_lang_StringUTF16 : plainName "java/lang/StringUTF16" = true := by first | (simp [plainName, overriddenIn]; done) | decide +kernel
theorem ef_6 (m : MethodId) (a0_ : Addr) (a2_ : Addr) : entryFrame m #[(.ref a0_), (.int (0 : Int32)), (.ref a2_), (.int (0 : Int32)), (.int (2 : Int32))] 7 = mkF m 0 #[.val (.ref a0_), .val (.int (0 : Int32)), .val (.ref a2_), .val (.int (0 : Int32)), .val (.int (2 : Int32)), .unset, .unset] [] := by first | (simp [entryFrame, mkF, argsToLocals, Value.category]; done) | rfl
def Q6 (Z : State) (a2_ : Addr) (h0 : Heap) (n0 : Nat) (v : Option Value) (h : Heap) (L : List Loc) : Prop := v = some (.int (2 : Int32)) ∧ Fr n0 L ∧ Keep h0 h [a2_] ∧ ∃ (k : ClassId) (vs : List Value), Arv Z h a2_ k .byte (2 : Int32) vs (.int (0 : Int32))
set_option maxRecDepth 65536 in
set_option maxHeartbeats 40000000 in
theorem rm6 (l : Launch) (Z : State) (a0 : Array Value) (hw : ∀ d ∈ tables_1, d.before a0 Z = true) (ws : List Jvm.Cond) (a0_ : Addr) (a2_ : Addr) (x y : Int32) (kq1 : ClassId) (kq2 : ClassId) (h0 : Heap) (n0 : Nat) (Z0 : n0 ≤ h0.size) (V1 : Arv Z h0 a0_ kq1 .char (2 : Int32) [.int x, .int y] (.int (0 : Int32))) (rx : ¬ (255 : Int32) < x) (ry : ¬ (255 : Int32) < y) (V2 : Arv Z h0 a2_ kq2 .byte (2 : Int32) [.int (0 : Int32), .int (0 : Int32)] (.int (0 : Int32))) (ne : a0_ ≠ a2_) (g_a2_ : n0 ≤ a2_) :
    MetFree l (⟨"java/lang/StringUTF16", "compress", "([CI[BII)I"⟩ : MethodName) (head1 (Jvm.Cond.code (⟨"java/lang/StringUTF16", "compress", "([CI[BII)I"⟩ : MethodName) jdk_52_method_21_code 7 (some .int) :: ws) ({ frames := 0, cells := 0, slots := 0, locals := 0 } : Room)) (fun a U => a = #[(.ref a0_), (.int (0 : Int32)), (.ref a2_), (.int (0 : Int32)), (.int (2 : Int32))] ∧ Z.Warmed39 U.vm ∧ U.heap = h0) (fun _ _ _ _ _ => True) (fun _ U o U' => ∃ v L, o = .returned v ∧ Q6 Z a2_ h0 n0 v U'.heap L ∧ FrameEnd U o U' L ({ frames := 0, cells := 0, slots := 0, locals := 0 } : Room).cells ({ frames := 0, cells := 0, slots := 0, locals := 0 } : Room).slots) := by
  refine MetFree.of_bodySF (plainFor_of_name pn_java_lang_StringUTF16) hisR ?_
  intro p e s m args below meth c s₁ Bd hml0 hP hK
  obtain ⟨rfl, hZ, hh⟩ := hP
  have hx := Bd.exec
  have hby := Bd.bytes
  have hml : c.maxLocals = 7 := hml0
  have hown : s.vm.findClass "java/lang/StringUTF16" = some m.cls := findClass_of_methodNamed Bd.named
  have hnm := (name_of_methodNamed Bd.named Bd.method).1
  have X0 : Stand p l e ({ frames := 0, cells := 0, slots := 0, locals := 0 } : Room) s m #[(.ref a0_), (.int (0 : Int32)), (.ref a2_), (.int (0 : Int32)), (.int (2 : Int32))] below meth c s₁ [] 0 0 := Stand.of_body Bd
  have e0 : s₁.heap = h0 := by rw [← hh, Bd.state]; rfl
  have N0 := Fr.nil n0
  have pre0 : ∀ t, Steps p.tables e below (s₁.setTop (mkF m 0 #[.val (.ref a0_), .val (.int (0 : Int32)), .val (.ref a2_), .val (.int (0 : Int32)), .val (.int (2 : Int32)), .unset, .unset] [])) t → Steps p.tables e below (s₁.setTop (entryFrame m #[(.ref a0_), (.int (0 : Int32)), (.ref a2_), (.int (0 : Int32)), (.int (2 : Int32))] 7)) t := fun t k => castTop (ef_6 m a0_ a2_) k
  have K0 := Keep.refl h0 [a2_]
  refine own_start pre0 fun G gs gl => ?_
  show G (s₁.setTop (mkF m 0 #[.val (.ref a0_), .val (.int (0 : Int32)), .val (.ref a2_), .val (.int (0 : Int32)), .val (.int (2 : Int32)), .unset, .unset] []))
  refine gs (fun t k => XS.iconst X0.here hx rfl (hb hby d6_0) k) ?_
  show G (s₁.setTop (mkF m 1 #[.val (.ref a0_), .val (.int (0 : Int32)), .val (.ref a2_), .val (.int (0 : Int32)), .val (.int (2 : Int32)), .unset, .unset] [(.int (0 : Int32))]))
  refine gs (fun t k => XS.istore X0.here hx rfl (hb hby d6_1) rfl (l' := #[.val (.ref a0_), .val (.int (0 : Int32)), .val (.ref a2_), .val (.int (0 : Int32)), .val (.int (2 : Int32)), .val (.int (0 : Int32)), .unset]) rfl k) ?_
  show G (s₁.setTop (mkF m 3 #[.val (.ref a0_), .val (.int (0 : Int32)), .val (.ref a2_), .val (.int (0 : Int32)), .val (.int (2 : Int32)), .val (.int (0 : Int32)), .unset] []))
  refine gs (fun t k => XS.iload X0.here hx rfl (hb hby d6_3) rfl k) ?_
  show G (s₁.setTop (mkF m 5 #[.val (.ref a0_), .val (.int (0 : Int32)), .val (.ref a2_), .val (.int (0 : Int32)), .val (.int (2 : Int32)), .val (.int (0 : Int32)), .unset] [(.int (0 : Int32))]))
  refine gs (fun t k => XS.iload X0.here hx rfl (hb hby d6_5) rfl k) ?_
  show G (s₁.setTop (mkF m 7 #[.val (.ref a0_), .val (.int (0 : Int32)), .val (.ref a2_), .val (.int (0 : Int32)), .val (.int (2 : Int32)), .val (.int (0 : Int32)), .unset] [(.int (2 : Int32)), (.int (0 : Int32))]))
  refine gs (fun t k => XS.icmpNo X0.here hx rfl (hb hby d6_7) rfl (tlt (by decide : (0 : Int32) < (2 : Int32))).2.1 k) ?_
  show G (s₁.setTop (mkF m 10 #[.val (.ref a0_), .val (.int (0 : Int32)), .val (.ref a2_), .val (.int (0 : Int32)), .val (.int (2 : Int32)), .val (.int (0 : Int32)), .unset] []))
  refine gs (fun t k => XS.aloadN X0.here hx rfl (hb hby d6_10) rfl rfl k) ?_
  show G (s₁.setTop (mkF m 11 #[.val (.ref a0_), .val (.int (0 : Int32)), .val (.ref a2_), .val (.int (0 : Int32)), .val (.int (2 : Int32)), .val (.int (0 : Int32)), .unset] [(.ref a0_)]))
  refine gs (fun t k => XS.iloadN X0.here hx rfl (hb hby d6_11) rfl k) ?_
  show G (s₁.setTop (mkF m 12 #[.val (.ref a0_), .val (.int (0 : Int32)), .val (.ref a2_), .val (.int (0 : Int32)), .val (.int (2 : Int32)), .val (.int (0 : Int32)), .unset] [(.int (0 : Int32)), (.ref a0_)]))
  obtain ⟨lc1, lA1, -, lS1, lN1, lH1, -⟩ := id V1
  have lin1 : ¬ ((0 : Int32) < 0 ∨ lc1.slots.size ≤ ((0 : Int32)).toNatClampNeg) := inb_of lS1 ⟨by decide, by decide⟩
  have lat1 : lc1.slots[((0 : Int32)).toNatClampNeg]? = some (.int x) := lH1 0 (by rw [lS1]; decide)
  refine gs (fun t k => X0.caload hx (j := (0 : Int32)) (v := (.int x)) (by rw [e0]; exact lA1.1) (State.isArrayOf_alike hZ.alike lA1.2.1) lA1.2.2 lin1 lat1 (g := (mkF m 12 #[.val (.ref a0_), .val (.int (0 : Int32)), .val (.ref a2_), .val (.int (0 : Int32)), .val (.int (2 : Int32)), .val (.int (0 : Int32)), .unset] [(.int (0 : Int32)), (.ref a0_)])) rfl rfl (hb hby d6_12) _ k) ?_
  show G (s₁.setTop (mkF m 13 #[.val (.ref a0_), .val (.int (0 : Int32)), .val (.ref a2_), .val (.int (0 : Int32)), .val (.int (2 : Int32)), .val (.int (0 : Int32)), .unset] [(.int x)]))
  refine gs (fun t k => XS.istore X0.here hx rfl (hb hby d6_13) rfl (l' := #[.val (.ref a0_), .val (.int (0 : Int32)), .val (.ref a2_), .val (.int (0 : Int32)), .val (.int (2 : Int32)), .val (.int (0 : Int32)), .val (.int x)]) rfl k) ?_
  show G (s₁.setTop (mkF m 15 #[.val (.ref a0_), .val (.int (0 : Int32)), .val (.ref a2_), .val (.int (0 : Int32)), .val (.int (2 : Int32)), .val (.int (0 : Int32)), .val (.int x)] []))
  refine gs (fun t k => XS.iload X0.here hx rfl (hb hby d6_15) rfl k) ?_
  show G (s₁.setTop (mkF m 17 #[.val (.ref a0_), .val (.int (0 : Int32)), .val (.ref a2_), .val (.int (0 : Int32)), .val (.int (2 : Int32)), .val (.int (0 : Int32)), .val (.int x)] [(.int x)]))
  refine gs (fun t k => XS.sipush X0.here hx rfl (hb hby d6_17) k) ?_
  show G (s₁.setTop (mkF m 20 #[.val (.ref a0_), .val (.int (0 : Int32)), .val (.ref a2_), .val (.int (0 : Int32)), .val (.int (2 : Int32)), .val (.int (0 : Int32)), .val (.int x)] [(.int (255 : Int32)), (.int x)]))
  refine gs (fun t k => XS.icmpYes X0.here hx rfl (pc0 := 20) (pc' := 26) rfl (hb hby d6_20) rfl (flt rx).2.2.2 (by decide) (by decide) k) ?_
  show G (s₁.setTop (mkF m 26 #[.val (.ref a0_), .val (.int (0 : Int32)), .val (.ref a2_), .val (.int (0 : Int32)), .val (.int (2 : Int32)), .val (.int (0 : Int32)), .val (.int x)] []))
  refine gs (fun t k => XS.aloadN X0.here hx rfl (hb hby d6_26) rfl rfl k) ?_
  show G (s₁.setTop (mkF m 27 #[.val (.ref a0_), .val (.int (0 : Int32)), .val (.ref a2_), .val (.int (0 : Int32)), .val (.int (2 : Int32)), .val (.int (0 : Int32)), .val (.int x)] [(.ref a2_)]))
  refine gs (fun t k => XS.iloadN X0.here hx rfl (hb hby d6_27) rfl k) ?_
  show G (s₁.setTop (mkF m 28 #[.val (.ref a0_), .val (.int (0 : Int32)), .val (.ref a2_), .val (.int (0 : Int32)), .val (.int (2 : Int32)), .val (.int (0 : Int32)), .val (.int x)] [(.int (0 : Int32)), (.ref a2_)]))
  refine gs (fun t k => XS.iload X0.here hx rfl (hb hby d6_28) rfl k) ?_
  show G (s₁.setTop (mkF m 30 #[.val (.ref a0_), .val (.int (0 : Int32)), .val (.ref a2_), .val (.int (0 : Int32)), .val (.int (2 : Int32)), .val (.int (0 : Int32)), .val (.int x)] [(.int x), (.int (0 : Int32)), (.ref a2_)]))
  refine gs (fun t k => XS.i2b X0.here hx rfl (hb hby d6_30) rfl k) ?_
  show G (s₁.setTop (mkF m 31 #[.val (.ref a0_), .val (.int (0 : Int32)), .val (.ref a2_), .val (.int (0 : Int32)), .val (.int (2 : Int32)), .val (.int (0 : Int32)), .val (.int x)] [(.int (x.toInt8.toInt32)), (.int (0 : Int32)), (.ref a2_)]))
  obtain ⟨vc2, vA2, vq2, vS2, vN2, vH2, vG2⟩ := V2
  have hin2 : ¬ ((0 : Int32) < 0 ∨ vc2.slots.size ≤ ((0 : Int32)).toNatClampNeg) := inb_of vS2 ⟨by decide, by decide⟩
  obtain ⟨T2, h2, X2, e2, W2, st2⟩ := stB X0 hx hZ e0 vA2 (j := (0 : Int32)) hin2 (g := (mkF m 31 #[.val (.ref a0_), .val (.int (0 : Int32)), .val (.ref a2_), .val (.int (0 : Int32)), .val (.int (2 : Int32)), .val (.int (0 : Int32)), .val (.int x)] [(.int (x.toInt8.toInt32)), (.int (0 : Int32)), (.ref a2_)])) rfl rfl (hb hby d6_31)
  have V1_q3 := V1.other W2 ne
  have K4 := K0.wr W2 (Or.inl (List.mem_of_getElem? (i := 0) rfl))
  have V_a2__q2 := Arv.set vA2 vq2 vS2 vN2 vH2 vG2 (fits_nar_byte _) W2 0 rfl (Nat.le_of_ble_eq_true rfl)
  have N2 := Fr.snoc X2 N0 g_a2_
  refine gs (fun t k => st2 _ k) ?_
  show G (T2.setTop (mkF m 32 #[.val (.ref a0_), .val (.int (0 : Int32)), .val (.ref a2_), .val (.int (0 : Int32)), .val (.int (2 : Int32)), .val (.int (0 : Int32)), .val (.int x)] []))
  refine gs (fun t k => XS.iinc X2.here hx rfl (hb hby d6_32) rfl (l' := #[.val (.ref a0_), .val (.int (1 : Int32)), .val (.ref a2_), .val (.int (0 : Int32)), .val (.int (2 : Int32)), .val (.int (0 : Int32)), .val (.int x)]) rfl k) ?_
  show G (T2.setTop (mkF m 35 #[.val (.ref a0_), .val (.int (1 : Int32)), .val (.ref a2_), .val (.int (0 : Int32)), .val (.int (2 : Int32)), .val (.int (0 : Int32)), .val (.int x)] []))
  refine gs (fun t k => XS.iinc X2.here hx rfl (hb hby d6_35) rfl (l' := #[.val (.ref a0_), .val (.int (1 : Int32)), .val (.ref a2_), .val (.int (1 : Int32)), .val (.int (2 : Int32)), .val (.int (0 : Int32)), .val (.int x)]) rfl k) ?_
  show G (T2.setTop (mkF m 38 #[.val (.ref a0_), .val (.int (1 : Int32)), .val (.ref a2_), .val (.int (1 : Int32)), .val (.int (2 : Int32)), .val (.int (0 : Int32)), .val (.int x)] []))
  refine gs (fun t k => XS.iinc X2.here hx rfl (hb hby d6_38) rfl (l' := #[.val (.ref a0_), .val (.int (1 : Int32)), .val (.ref a2_), .val (.int (1 : Int32)), .val (.int (2 : Int32)), .val (.int (1 : Int32)), .val (.int x)]) rfl k) ?_
  show G (T2.setTop (mkF m 41 #[.val (.ref a0_), .val (.int (1 : Int32)), .val (.ref a2_), .val (.int (1 : Int32)), .val (.int (2 : Int32)), .val (.int (1 : Int32)), .val (.int x)] []))
  refine gs (fun t k => XS.goto X2.here hx rfl (pc0 := 41) (pc' := 3) rfl (hb hby d6_41) (by decide) (by decide) k) ?_
  show G (T2.setTop (mkF m 3 #[.val (.ref a0_), .val (.int (1 : Int32)), .val (.ref a2_), .val (.int (1 : Int32)), .val (.int (2 : Int32)), .val (.int (1 : Int32)), .val (.int x)] []))
  refine gs (fun t k => XS.iload X2.here hx rfl (hb hby d6_3) rfl k) ?_
  show G (T2.setTop (mkF m 5 #[.val (.ref a0_), .val (.int (1 : Int32)), .val (.ref a2_), .val (.int (1 : Int32)), .val (.int (2 : Int32)), .val (.int (1 : Int32)), .val (.int x)] [(.int (1 : Int32))]))
  refine gs (fun t k => XS.iload X2.here hx rfl (hb hby d6_5) rfl k) ?_
  show G (T2.setTop (mkF m 7 #[.val (.ref a0_), .val (.int (1 : Int32)), .val (.ref a2_), .val (.int (1 : Int32)), .val (.int (2 : Int32)), .val (.int (1 : Int32)), .val (.int x)] [(.int (2 : Int32)), (.int (1 : Int32))]))
  refine gs (fun t k => XS.icmpNo X2.here hx rfl (hb hby d6_7) rfl (tlt (by decide : (1 : Int32) < (2 : Int32))).2.1 k) ?_
  show G (T2.setTop (mkF m 10 #[.val (.ref a0_), .val (.int (1 : Int32)), .val (.ref a2_), .val (.int (1 : Int32)), .val (.int (2 : Int32)), .val (.int (1 : Int32)), .val (.int x)] []))
  refine gs (fun t k => XS.aloadN X2.here hx rfl (hb hby d6_10) rfl rfl k) ?_
  show G (T2.setTop (mkF m 11 #[.val (.ref a0_), .val (.int (1 : Int32)), .val (.ref a2_), .val (.int (1 : Int32)), .val (.int (2 : Int32)), .val (.int (1 : Int32)), .val (.int x)] [(.ref a0_)]))
  refine gs (fun t k => XS.iloadN X2.here hx rfl (hb hby d6_11) rfl k) ?_
  show G (T2.setTop (mkF m 12 #[.val (.ref a0_), .val (.int (1 : Int32)), .val (.ref a2_), .val (.int (1 : Int32)), .val (.int (2 : Int32)), .val (.int (1 : Int32)), .val (.int x)] [(.int (1 : Int32)), (.ref a0_)]))
  obtain ⟨lc5, lA5, -, lS5, lN5, lH5, -⟩ := id V1_q3
  have lin5 : ¬ ((1 : Int32) < 0 ∨ lc5.slots.size ≤ ((1 : Int32)).toNatClampNeg) := inb_of lS5 ⟨by decide, by decide⟩
  have lat5 : lc5.slots[((1 : Int32)).toNatClampNeg]? = some (.int y) := lH5 1 (by rw [lS5]; decide)
  refine gs (fun t k => X2.caload hx (j := (1 : Int32)) (v := (.int y)) (by rw [e2]; exact lA5.1) (State.isArrayOf_alike hZ.alike lA5.2.1) lA5.2.2 lin5 lat5 (g := (mkF m 12 #[.val (.ref a0_), .val (.int (1 : Int32)), .val (.ref a2_), .val (.int (1 : Int32)), .val (.int (2 : Int32)), .val (.int (1 : Int32)), .val (.int x)] [(.int (1 : Int32)), (.ref a0_)])) rfl rfl (hb hby d6_12) _ k) ?_
  show G (T2.setTop (mkF m 13 #[.val (.ref a0_), .val (.int (1 : Int32)), .val (.ref a2_), .val (.int (1 : Int32)), .val (.int (2 : Int32)), .val (.int (1 : Int32)), .val (.int x)] [(.int y)]))
  refine gs (fun t k => XS.istore X2.here hx rfl (hb hby d6_13) rfl (l' := #[.val (.ref a0_), .val (.int (1 : Int32)), .val (.ref a2_), .val (.int (1 : Int32)), .val (.int (2 : Int32)), .val (.int (1 : Int32)), .val (.int y)]) rfl k) ?_
  show G (T2.setTop (mkF m 15 #[.val (.ref a0_), .val (.int (1 : Int32)), .val (.ref a2_), .val (.int (1 : Int32)), .val (.int (2 : Int32)), .val (.int (1 : Int32)), .val (.int y)] []))
  refine gs (fun t k => XS.iload X2.here hx rfl (hb hby d6_15) rfl k) ?_
  show G (T2.setTop (mkF m 17 #[.val (.ref a0_), .val (.int (1 : Int32)), .val (.ref a2_), .val (.int (1 : Int32)), .val (.int (2 : Int32)), .val (.int (1 : Int32)), .val (.int y)] [(.int y)]))
  refine gs (fun t k => XS.sipush X2.here hx rfl (hb hby d6_17) k) ?_
  show G (T2.setTop (mkF m 20 #[.val (.ref a0_), .val (.int (1 : Int32)), .val (.ref a2_), .val (.int (1 : Int32)), .val (.int (2 : Int32)), .val (.int (1 : Int32)), .val (.int y)] [(.int (255 : Int32)), (.int y)]))
  refine gs (fun t k => XS.icmpYes X2.here hx rfl (pc0 := 20) (pc' := 26) rfl (hb hby d6_20) rfl (flt ry).2.2.2 (by decide) (by decide) k) ?_
  show G (T2.setTop (mkF m 26 #[.val (.ref a0_), .val (.int (1 : Int32)), .val (.ref a2_), .val (.int (1 : Int32)), .val (.int (2 : Int32)), .val (.int (1 : Int32)), .val (.int y)] []))
  refine gs (fun t k => XS.aloadN X2.here hx rfl (hb hby d6_26) rfl rfl k) ?_
  show G (T2.setTop (mkF m 27 #[.val (.ref a0_), .val (.int (1 : Int32)), .val (.ref a2_), .val (.int (1 : Int32)), .val (.int (2 : Int32)), .val (.int (1 : Int32)), .val (.int y)] [(.ref a2_)]))
  refine gs (fun t k => XS.iloadN X2.here hx rfl (hb hby d6_27) rfl k) ?_
  show G (T2.setTop (mkF m 28 #[.val (.ref a0_), .val (.int (1 : Int32)), .val (.ref a2_), .val (.int (1 : Int32)), .val (.int (2 : Int32)), .val (.int (1 : Int32)), .val (.int y)] [(.int (1 : Int32)), (.ref a2_)]))
  refine gs (fun t k => XS.iload X2.here hx rfl (hb hby d6_28) rfl k) ?_
  show G (T2.setTop (mkF m 30 #[.val (.ref a0_), .val (.int (1 : Int32)), .val (.ref a2_), .val (.int (1 : Int32)), .val (.int (2 : Int32)), .val (.int (1 : Int32)), .val (.int y)] [(.int y), (.int (1 : Int32)), (.ref a2_)]))
  refine gs (fun t k => XS.i2b X2.here hx rfl (hb hby d6_30) rfl k) ?_
  show G (T2.setTop (mkF m 31 #[.val (.ref a0_), .val (.int (1 : Int32)), .val (.ref a2_), .val (.int (1 : Int32)), .val (.int (2 : Int32)), .val (.int (1 : Int32)), .val (.int y)] [(.int (y.toInt8.toInt32)), (.int (1 : Int32)), (.ref a2_)]))
  obtain ⟨vc6, vA6, vq6, vS6, vN6, vH6, vG6⟩ := V_a2__q2
  have hin6 : ¬ ((1 : Int32) < 0 ∨ vc6.slots.size ≤ ((1 : Int32)).toNatClampNeg) := inb_of vS6 ⟨by decide, by decide⟩
  obtain ⟨T6, h6, X6, e6, W6, st6⟩ := stB X2 hx hZ e2 vA6 (j := (1 : Int32)) hin6 (g := (mkF m 31 #[.val (.ref a0_), .val (.int (1 : Int32)), .val (.ref a2_), .val (.int (1 : Int32)), .val (.int (2 : Int32)), .val (.int (1 : Int32)), .val (.int y)] [(.int (y.toInt8.toInt32)), (.int (1 : Int32)), (.ref a2_)])) rfl rfl (hb hby d6_31)
  have V1_q7 := V1_q3.other W6 ne
  have K8 := K4.wr W6 (Or.inl (List.mem_of_getElem? (i := 0) rfl))
  have V_a2__q6 := Arv.set vA6 vq6 vS6 vN6 vH6 vG6 (fits_nar_byte _) W6 1 rfl (Nat.le_of_ble_eq_true rfl)
  have N6 := Fr.snoc X6 N2 g_a2_
  refine gs (fun t k => st6 _ k) ?_
  show G (T6.setTop (mkF m 32 #[.val (.ref a0_), .val (.int (1 : Int32)), .val (.ref a2_), .val (.int (1 : Int32)), .val (.int (2 : Int32)), .val (.int (1 : Int32)), .val (.int y)] []))
  refine gs (fun t k => XS.iinc X6.here hx rfl (hb hby d6_32) rfl (l' := #[.val (.ref a0_), .val (.int (2 : Int32)), .val (.ref a2_), .val (.int (1 : Int32)), .val (.int (2 : Int32)), .val (.int (1 : Int32)), .val (.int y)]) rfl k) ?_
  show G (T6.setTop (mkF m 35 #[.val (.ref a0_), .val (.int (2 : Int32)), .val (.ref a2_), .val (.int (1 : Int32)), .val (.int (2 : Int32)), .val (.int (1 : Int32)), .val (.int y)] []))
  refine gs (fun t k => XS.iinc X6.here hx rfl (hb hby d6_35) rfl (l' := #[.val (.ref a0_), .val (.int (2 : Int32)), .val (.ref a2_), .val (.int (2 : Int32)), .val (.int (2 : Int32)), .val (.int (1 : Int32)), .val (.int y)]) rfl k) ?_
  show G (T6.setTop (mkF m 38 #[.val (.ref a0_), .val (.int (2 : Int32)), .val (.ref a2_), .val (.int (2 : Int32)), .val (.int (2 : Int32)), .val (.int (1 : Int32)), .val (.int y)] []))
  refine gs (fun t k => XS.iinc X6.here hx rfl (hb hby d6_38) rfl (l' := #[.val (.ref a0_), .val (.int (2 : Int32)), .val (.ref a2_), .val (.int (2 : Int32)), .val (.int (2 : Int32)), .val (.int (2 : Int32)), .val (.int y)]) rfl k) ?_
  show G (T6.setTop (mkF m 41 #[.val (.ref a0_), .val (.int (2 : Int32)), .val (.ref a2_), .val (.int (2 : Int32)), .val (.int (2 : Int32)), .val (.int (2 : Int32)), .val (.int y)] []))
  refine gs (fun t k => XS.goto X6.here hx rfl (pc0 := 41) (pc' := 3) rfl (hb hby d6_41) (by decide) (by decide) k) ?_
  show G (T6.setTop (mkF m 3 #[.val (.ref a0_), .val (.int (2 : Int32)), .val (.ref a2_), .val (.int (2 : Int32)), .val (.int (2 : Int32)), .val (.int (2 : Int32)), .val (.int y)] []))
  refine gs (fun t k => XS.iload X6.here hx rfl (hb hby d6_3) rfl k) ?_
  show G (T6.setTop (mkF m 5 #[.val (.ref a0_), .val (.int (2 : Int32)), .val (.ref a2_), .val (.int (2 : Int32)), .val (.int (2 : Int32)), .val (.int (2 : Int32)), .val (.int y)] [(.int (2 : Int32))]))
  refine gs (fun t k => XS.iload X6.here hx rfl (hb hby d6_5) rfl k) ?_
  show G (T6.setTop (mkF m 7 #[.val (.ref a0_), .val (.int (2 : Int32)), .val (.ref a2_), .val (.int (2 : Int32)), .val (.int (2 : Int32)), .val (.int (2 : Int32)), .val (.int y)] [(.int (2 : Int32)), (.int (2 : Int32))]))
  refine gs (fun t k => XS.icmpYes X6.here hx rfl (pc0 := 7) (pc' := 44) rfl (hb hby d6_7) rfl (flt (by decide : ¬ ((2 : Int32) < (2 : Int32)))).2.1 (by decide) (by decide) k) ?_
  show G (T6.setTop (mkF m 44 #[.val (.ref a0_), .val (.int (2 : Int32)), .val (.ref a2_), .val (.int (2 : Int32)), .val (.int (2 : Int32)), .val (.int (2 : Int32)), .val (.int y)] []))
  refine gs (fun t k => XS.iload X6.here hx rfl (hb hby d6_44) rfl k) ?_
  show G (T6.setTop (mkF m 46 #[.val (.ref a0_), .val (.int (2 : Int32)), .val (.ref a2_), .val (.int (2 : Int32)), .val (.int (2 : Int32)), .val (.int (2 : Int32)), .val (.int y)] [(.int (2 : Int32))]))
  obtain ⟨fs, hr, hrun, hended, hW, hsame⟩ := X6.leave (v := some (.int (2 : Int32))) (fun h => by rw [Bd.returns] at h; cases h)
  refine gl _ ⟨_, _, own_retI X6 hx Bd.returns (hb hby d6_46) hr, hrun, hended, _, _, rfl, ?_, ⟨_, rfl⟩, hW, hsame.mono (by decide) (by decide)⟩
  show Q6 Z a2_ h0 n0 _ T6.heap _
  rw [e6]
  exact ⟨rfl, N6, K8, _, _, V_a2__q6⟩
theorem pd_0 : parseMethodDescriptor "([CI[BII)I" = some ⟨[(.array .char), .int, (.array .byte), .int, .int], some .int⟩ := by decide +kernel
theorem d5_0 : decode jdk_52_method_16_code 0 = .ok (.iload_n 2, 1) := by decide +kernel
theorem d5_1 : decode jdk_52_method_16_code 1 = .ok (.newarray .byte, 2) := by decide +kernel
theorem d5_3 : decode jdk_52_method_16_code 3 = .ok (.astore_n 3, 1) := by decide +kernel
theorem d5_4 : decode jdk_52_method_16_code 4 = .ok (.aload_n 0, 1) := by decide +kernel
theorem d5_5 : decode jdk_52_method_16_code 5 = .ok (.iload_n 1, 1) := by decide +kernel
theorem d5_6 : decode jdk_52_method_16_code 6 = .ok (.aload_n 3, 1) := by decide +kernel
theorem d5_7 : decode jdk_52_method_16_code 7 = .ok (.iconst 0, 1) := by decide +kernel
theorem d5_8 : decode jdk_52_method_16_code 8 = .ok (.iload_n 2, 1) := by decide +kernel
theorem d5_9 : decode jdk_52_method_16_code 9 = .ok (.invokestatic 115, 3) := by decide +kernel
theorem d5_12 : decode jdk_52_method_16_code 12 = .ok (.istore 4, 2) := by decide +kernel
theorem d5_14 : decode jdk_52_method_16_code 14 = .ok (.iload 4, 2) := by decide +kernel
theorem d5_16 : decode jdk_52_method_16_code 16 = .ok (.iload_n 2, 1) := by decide +kernel
theorem d5_17 : decode jdk_52_method_16_code 17 = .ok (.if_icmp .eq 40, 3) := by decide +kernel
theorem d5_57 : decode jdk_52_method_16_code 57 = .ok (.aload_n 3, 1) := by decide +kernel
theorem d5_58 : decode jdk_52_method_16_code 58 = .ok (.areturn, 1) := by decide +kernel
theorem ef_5 (m : MethodId) (a0_ : Addr) : entryFrame m #[(.ref a0_), (.int (0 : Int32)), (.int (2 : Int32))] 6 = mkF m 0 #[.val (.ref a0_), .val (.int (0 : Int32)), .val (.int (2 : Int32)), .unset, .unset, .unset] [] := by first | (simp [entryFrame, mkF, argsToLocals, Value.category]; done) | rfl
def Q5 (Z : State) (h0 : Heap) (n0 : Nat) (v : Option Value) (h : Heap) (L : List Loc) : Prop := ∃ t : Addr, v = some (.ref t) ∧ Fr n0 L ∧ Keep h0 h [] ∧ ∃ (k : ClassId) (vs : List Value), Arv Z h t k .byte (2 : Int32) vs (.int (0 : Int32))
set_option maxRecDepth 65536 in
set_option maxHeartbeats 40000000 in
theorem rm5 (l : Launch) (Z : State) (a0 : Array Value) (hw : ∀ d ∈ tables_1, d.before a0 Z = true) (ws : List Jvm.Cond) (a0_ : Addr) (x y : Int32) (kq1 : ClassId) (h0 : Heap) (n0 : Nat) (Z0 : n0 ≤ h0.size) (V1 : Arv Z h0 a0_ kq1 .char (2 : Int32) [.int x, .int y] (.int (0 : Int32))) (rx : ¬ (255 : Int32) < x) (ry : ¬ (255 : Int32) < y) :
    MetFree l (⟨"java/lang/StringUTF16", "compress", "([CII)[B"⟩ : MethodName) (head1 (Jvm.Cond.code (⟨"java/lang/StringUTF16", "compress", "([CII)[B"⟩ : MethodName) jdk_52_method_16_code 6 (some (.array .byte)) :: ws) ({ frames := 1, cells := 1, slots := 2, locals := 18 } : Room)) (fun a U => a = #[(.ref a0_), (.int (0 : Int32)), (.int (2 : Int32))] ∧ Z.Warmed39 U.vm ∧ U.heap = h0) (fun _ _ _ _ _ => True) (fun _ U o U' => ∃ v L, o = .returned v ∧ Q5 Z h0 n0 v U'.heap L ∧ FrameEnd U o U' L ({ frames := 1, cells := 1, slots := 2, locals := 18 } : Room).cells ({ frames := 1, cells := 1, slots := 2, locals := 18 } : Room).slots) := by
  refine MetFree.of_bodySF (plainFor_of_name pn_java_lang_StringUTF16) hisR ?_
  intro p e s m args below meth c s₁ Bd hml0 hP hK
  obtain ⟨rfl, hZ, hh⟩ := hP
  have hx := Bd.exec
  have hby := Bd.bytes
  have hml : c.maxLocals = 6 := hml0
  have hown : s.vm.findClass "java/lang/StringUTF16" = some m.cls := findClass_of_methodNamed Bd.named
  have hnm := (name_of_methodNamed Bd.named Bd.method).1
  have X0 : Stand p l e ({ frames := 1, cells := 1, slots := 2, locals := 18 } : Room) s m #[(.ref a0_), (.int (0 : Int32)), (.int (2 : Int32))] below meth c s₁ [] 0 0 := Stand.of_body Bd
  have e0 : s₁.heap = h0 := by rw [← hh, Bd.state]; rfl
  have N0 := Fr.nil n0
  have pre0 : ∀ t, Steps p.tables e below (s₁.setTop (mkF m 0 #[.val (.ref a0_), .val (.int (0 : Int32)), .val (.int (2 : Int32)), .unset, .unset, .unset] [])) t → Steps p.tables e below (s₁.setTop (entryFrame m #[(.ref a0_), (.int (0 : Int32)), (.int (2 : Int32))] 6)) t := fun t k => castTop (ef_5 m a0_) k
  have K0 := Keep.refl h0 []
  refine own_start pre0 fun G gs gl => ?_
  show G (s₁.setTop (mkF m 0 #[.val (.ref a0_), .val (.int (0 : Int32)), .val (.int (2 : Int32)), .unset, .unset, .unset] []))
  refine gs (fun t k => XS.iloadN X0.here hx rfl (hb hby d5_0) rfl k) ?_
  show G (s₁.setTop (mkF m 1 #[.val (.ref a0_), .val (.int (0 : Int32)), .val (.int (2 : Int32)), .unset, .unset, .unset] [(.int (2 : Int32))]))
  obtain ⟨T1, h1, k1, X1, e1, E1, A1, st1⟩ := newP X0 hx hZ (hw _ (List.mem_of_getElem? (i := 23) rfl)) e0 (g := (mkF m 1 #[.val (.ref a0_), .val (.int (0 : Int32)), .val (.int (2 : Int32)), .unset, .unset, .unset] [(.int (2 : Int32))])) rfl (hb hby d5_1) rfl (by decide) (cap := 2) (by decide) (by decide) (by decide) (by decide)
  obtain ⟨b1, g1⟩ : ∃ z, z = h0.size := ⟨_, rfl⟩
  rw [← g1] at A1 st1
  have sz_b1 : h0.size ≤ b1 := Nat.le_trans K0.1 (Nat.le_of_eq g1.symm)
  have g_b1 : n0 ≤ b1 := Nat.le_trans Z0 sz_b1
  have ne_a0__b1 : a0_ ≠ b1 := Nat.ne_of_lt (Nat.lt_of_lt_of_le V1.lt (Nat.le_of_eq g1.symm))
  have V1_q2 := V1.ext E1
  have K3 := K0.ext E1
  have V_b1 : Arv Z h1 b1 k1 .byte (2 : Int32) [(.int (0 : Int32)), (.int (0 : Int32))] (.int (0 : Int32)) := (Arv.new A1 (by decide)).pad (pad_rep [] (.int (0 : Int32)) 2)
  refine gs (fun t k => st1 _ k) ?_
  show G (T1.setTop (mkF m 3 #[.val (.ref a0_), .val (.int (0 : Int32)), .val (.int (2 : Int32)), .unset, .unset, .unset] [(.ref b1)]))
  refine gs (fun t k => XS.astoreN X1.here hx rfl (hb hby d5_3) rfl rfl (l' := #[.val (.ref a0_), .val (.int (0 : Int32)), .val (.int (2 : Int32)), .val (.ref b1), .unset, .unset]) rfl k) ?_
  show G (T1.setTop (mkF m 4 #[.val (.ref a0_), .val (.int (0 : Int32)), .val (.int (2 : Int32)), .val (.ref b1), .unset, .unset] []))
  refine gs (fun t k => XS.aloadN X1.here hx rfl (hb hby d5_4) rfl rfl k) ?_
  show G (T1.setTop (mkF m 5 #[.val (.ref a0_), .val (.int (0 : Int32)), .val (.int (2 : Int32)), .val (.ref b1), .unset, .unset] [(.ref a0_)]))
  refine gs (fun t k => XS.iloadN X1.here hx rfl (hb hby d5_5) rfl k) ?_
  show G (T1.setTop (mkF m 6 #[.val (.ref a0_), .val (.int (0 : Int32)), .val (.int (2 : Int32)), .val (.ref b1), .unset, .unset] [(.int (0 : Int32)), (.ref a0_)]))
  refine gs (fun t k => XS.aloadN X1.here hx rfl (hb hby d5_6) rfl rfl k) ?_
  show G (T1.setTop (mkF m 7 #[.val (.ref a0_), .val (.int (0 : Int32)), .val (.int (2 : Int32)), .val (.ref b1), .unset, .unset] [(.ref b1), (.int (0 : Int32)), (.ref a0_)]))
  refine gs (fun t k => XS.iconst X1.here hx rfl (hb hby d5_7) k) ?_
  show G (T1.setTop (mkF m 8 #[.val (.ref a0_), .val (.int (0 : Int32)), .val (.int (2 : Int32)), .val (.ref b1), .unset, .unset] [(.int (0 : Int32)), (.ref b1), (.int (0 : Int32)), (.ref a0_)]))
  refine gs (fun t k => XS.iloadN X1.here hx rfl (hb hby d5_8) rfl k) ?_
  show G (T1.setTop (mkF m 9 #[.val (.ref a0_), .val (.int (0 : Int32)), .val (.int (2 : Int32)), .val (.ref b1), .unset, .unset] [(.int (2 : Int32)), (.int (0 : Int32)), (.ref b1), (.int (0 : Int32)), (.ref a0_)]))
  obtain ⟨_, _, ⟨T4, L4, k4, n4⟩, -, X4, ⟨Lc4, hQ4, l4, y4, z4⟩, st4⟩ := Jvm.LawKit.callS X1 hx (y := (⟨"java/lang/StringUTF16", "compress", "([CI[BII)I"⟩ : MethodName)) hown (mvT hZ (hw _ (List.mem_of_getElem? (i := 24) rfl))) (mvT hZ (hw _ (List.mem_of_getElem? (i := 25) rfl))) (mvT hZ (hw _ (List.mem_of_getElem? (i := 21) rfl))) (mvT hZ (hw _ (List.mem_of_getElem? (i := 26) rfl))) (by decide) (backOf (W := 0) (rm6 l Z a0 hw [] a0_ b1 x y kq1 _ h1 n0 (Nat.le_trans Z0 K3.1) V1_q2 rx ry V_b1 ne_a0__b1 g_b1) hZ (hw _ (List.mem_of_getElem? (i := 26) rfl)) (hw _ (List.mem_of_getElem? (i := 21) rfl)) (by decide) (by decide)) (g := (mkF m 9 #[.val (.ref a0_), .val (.int (0 : Int32)), .val (.int (2 : Int32)), .val (.ref b1), .unset, .unset] [(.int (2 : Int32)), (.int (0 : Int32)), (.ref b1), (.int (0 : Int32)), (.ref a0_)])) rfl (by rw [hml]; rfl) (argsL := [(.ref a0_), (.int (0 : Int32)), (.ref b1), (.int (0 : Int32)), (.int (2 : Int32))]) (rest := []) (lenOf pd_0 rfl) rfl (by show 2 * 0 + _ ≤ _; exact Nat.le_of_eq rfl) (hb hby d5_9) (fun _ _ => ⟨rfl, e1, (by decide : 1 + 0 ≤ _), (by decide : 2 + 0 ≤ _)⟩)
  dsimp only [Pt.U, Pt.locs, Pt.cells, Pt.slots] at X4 l4 y4 z4 st4 hQ4
  subst y4 z4
  obtain ⟨rfl, N4q, Kc4, kk4, vs4, VN4⟩ := hQ4
  have N4 : Fr n0 L4 := by rw [l4]; exact Fr.app N0 N4q
  refine gs (fun t k => st4 _ k) ?_
  have V1_q5 := V1_q2.keep Kc4 (ninS ne_a0__b1 nin0)
  have K6 := K3.trans Kc4 (allS (Or.inr sz_b1) all0)
  show G (T4.setTop (mkF m 12 #[.val (.ref a0_), .val (.int (0 : Int32)), .val (.int (2 : Int32)), .val (.ref b1), .unset, .unset] [(.int (2 : Int32))]))
  refine gs (fun t k => XS.istore X4.here hx rfl (hb hby d5_12) rfl (l' := #[.val (.ref a0_), .val (.int (0 : Int32)), .val (.int (2 : Int32)), .val (.ref b1), .val (.int (2 : Int32)), .unset]) rfl k) ?_
  show G (T4.setTop (mkF m 14 #[.val (.ref a0_), .val (.int (0 : Int32)), .val (.int (2 : Int32)), .val (.ref b1), .val (.int (2 : Int32)), .unset] []))
  refine gs (fun t k => XS.iload X4.here hx rfl (hb hby d5_14) rfl k) ?_
  show G (T4.setTop (mkF m 16 #[.val (.ref a0_), .val (.int (0 : Int32)), .val (.int (2 : Int32)), .val (.ref b1), .val (.int (2 : Int32)), .unset] [(.int (2 : Int32))]))
  refine gs (fun t k => XS.iloadN X4.here hx rfl (hb hby d5_16) rfl k) ?_
  show G (T4.setTop (mkF m 17 #[.val (.ref a0_), .val (.int (0 : Int32)), .val (.int (2 : Int32)), .val (.ref b1), .val (.int (2 : Int32)), .unset] [(.int (2 : Int32)), (.int (2 : Int32))]))
  refine gs (fun t k => XS.icmpYes X4.here hx rfl (pc0 := 17) (pc' := 57) rfl (hb hby d5_17) rfl (teq (by decide : (2 : Int32) = (2 : Int32))).1 (by decide) (by decide) k) ?_
  show G (T4.setTop (mkF m 57 #[.val (.ref a0_), .val (.int (0 : Int32)), .val (.int (2 : Int32)), .val (.ref b1), .val (.int (2 : Int32)), .unset] []))
  refine gs (fun t k => XS.aloadN X4.here hx rfl (hb hby d5_57) rfl rfl k) ?_
  show G (T4.setTop (mkF m 58 #[.val (.ref a0_), .val (.int (0 : Int32)), .val (.int (2 : Int32)), .val (.ref b1), .val (.int (2 : Int32)), .unset] [(.ref b1)]))
  obtain ⟨fs, hr, hrun, hended, hW, hsame⟩ := X4.leave (v := some (.ref b1)) (fun h => by rw [Bd.returns] at h; cases h)
  refine gl _ ⟨_, _, retOut X4 hx Bd.returns rfl (Or.inr (Or.inr (Or.inr (Or.inr ⟨rfl, rfl, rfl⟩)))) (hb hby d5_58) hr, hrun, hended, _, _, rfl, ?_, ⟨_, rfl⟩, hW, hsame.mono (by decide) (by decide)⟩
  show Q5 Z h0 n0 _ T4.heap _
  exact ⟨_, rfl, N4, K6, _, _, VN4⟩
theorem d7_0 : decode jdk_52_method_15_code 0 = .ok (.iload_n 1, 1) := by decide +kernel
theorem d7_1 : decode jdk_52_method_15_code 1 = .ok (.aload_n 0, 1) := by decide +kernel
theorem d7_2 : decode jdk_52_method_15_code 2 = .ok (.arraylength, 1) := by decide +kernel
theorem d7_3 : decode jdk_52_method_15_code 3 = .ok (.isub, 1) := by decide +kernel
theorem d7_4 : decode jdk_52_method_15_code 4 = .ok (.bipush 31, 2) := by decide +kernel
theorem d7_6 : decode jdk_52_method_15_code 6 = .ok (.iushr, 1) := by decide +kernel
theorem d7_7 : decode jdk_52_method_15_code 7 = .ok (.i2b, 1) := by decide +kernel
theorem d7_8 : decode jdk_52_method_15_code 8 = .ok (.ireturn, 1) := by decide +kernel
theorem ef_7 (m : MethodId) (a0_ : Addr) : entryFrame m #[(.ref a0_), (.int (2 : Int32))] 2 = mkF m 0 #[.val (.ref a0_), .val (.int (2 : Int32))] [] := by first | (simp [entryFrame, mkF, argsToLocals, Value.category]; done) | rfl
def Q7 (h0 : Heap) (n0 : Nat) (v : Option Value) (h : Heap) (L : List Loc) : Prop := v = some (.int (0 : Int32)) ∧ Fr n0 L ∧ h = h0
set_option maxRecDepth 65536 in
set_option maxHeartbeats 40000000 in
theorem rm7 (l : Launch) (Z : State) (a0 : Array Value) (hw : ∀ d ∈ tables_1, d.before a0 Z = true) (ws : List Jvm.Cond) (a0_ : Addr) (kq : ClassId) (vs : List Value) (h0 : Heap) (n0 : Nat) (Z0 : n0 ≤ h0.size) (V : Arv Z h0 a0_ kq .byte (2 : Int32) vs (.int (0 : Int32))) :
    MetFree l (⟨"java/lang/StringUTF16", "coderFromArrayLen", "([BI)B"⟩ : MethodName) (head1 (Jvm.Cond.code (⟨"java/lang/StringUTF16", "coderFromArrayLen", "([BI)B"⟩ : MethodName) jdk_52_method_15_code 2 (some .byte) :: ws) ({ frames := 0, cells := 0, slots := 0, locals := 0 } : Room)) (fun a U => a = #[(.ref a0_), (.int (2 : Int32))] ∧ Z.Warmed39 U.vm ∧ U.heap = h0) (fun _ _ _ _ _ => True) (fun _ U o U' => ∃ v L, o = .returned v ∧ Q7 h0 n0 v U'.heap L ∧ FrameEnd U o U' L ({ frames := 0, cells := 0, slots := 0, locals := 0 } : Room).cells ({ frames := 0, cells := 0, slots := 0, locals := 0 } : Room).slots) := by
  refine MetFree.of_bodySF (plainFor_of_name pn_java_lang_StringUTF16) hisR ?_
  intro p e s m args below meth c s₁ Bd hml0 hP hK
  obtain ⟨rfl, hZ, hh⟩ := hP
  have hx := Bd.exec
  have hby := Bd.bytes
  have hml : c.maxLocals = 2 := hml0
  have hown : s.vm.findClass "java/lang/StringUTF16" = some m.cls := findClass_of_methodNamed Bd.named
  have hnm := (name_of_methodNamed Bd.named Bd.method).1
  have X0 : Stand p l e ({ frames := 0, cells := 0, slots := 0, locals := 0 } : Room) s m #[(.ref a0_), (.int (2 : Int32))] below meth c s₁ [] 0 0 := Stand.of_body Bd
  have e0 : s₁.heap = h0 := by rw [← hh, Bd.state]; rfl
  have N0 := Fr.nil n0
  have pre0 : ∀ t, Steps p.tables e below (s₁.setTop (mkF m 0 #[.val (.ref a0_), .val (.int (2 : Int32))] [])) t → Steps p.tables e below (s₁.setTop (entryFrame m #[(.ref a0_), (.int (2 : Int32))] 2)) t := fun t k => castTop (ef_7 m a0_) k
  have K0 := Keep.refl h0 []
  refine own_start pre0 fun G gs gl => ?_
  show G (s₁.setTop (mkF m 0 #[.val (.ref a0_), .val (.int (2 : Int32))] []))
  obtain ⟨c1, A1, -, S1, M1, -, -⟩ := V
  show G (s₁.setTop (mkF m 0 #[.val (.ref a0_), .val (.int (2 : Int32))] []))
  refine gs (fun t k => XS.iloadN X0.here hx rfl (hb hby d7_0) rfl k) ?_
  show G (s₁.setTop (mkF m 1 #[.val (.ref a0_), .val (.int (2 : Int32))] [(.int (2 : Int32))]))
  refine gs (fun t k => XS.aloadN X0.here hx rfl (hb hby d7_1) rfl rfl k) ?_
  show G (s₁.setTop (mkF m 2 #[.val (.ref a0_), .val (.int (2 : Int32))] [(.ref a0_), (.int (2 : Int32))]))
  refine gs (fun t k => X0.arraylength hx (by rw [e0]; exact A1.1) (State.isArrayOf_alike hZ.alike A1.2.1) (g := (mkF m 2 #[.val (.ref a0_), .val (.int (2 : Int32))] [(.ref a0_), (.int (2 : Int32))])) rfl rfl (hb hby d7_2) _ k) ?_
  rw [len_of S1 M1]
  show G (s₁.setTop (mkF m 3 #[.val (.ref a0_), .val (.int (2 : Int32))] [(.int (2 : Int32)), (.int (2 : Int32))]))
  refine gs (fun t k => XS.isub X0.here hx rfl (hb hby d7_3) rfl k) ?_
  show G (s₁.setTop (mkF m 4 #[.val (.ref a0_), .val (.int (2 : Int32))] [(.int ((2 : Int32) - (2 : Int32)))]))
  refine gs (fun t k => XS.bipush X0.here hx rfl (hb hby d7_4) k) ?_
  show G (s₁.setTop (mkF m 6 #[.val (.ref a0_), .val (.int (2 : Int32))] [(.int (31 : Int32)), (.int ((2 : Int32) - (2 : Int32)))]))
  refine gs (fun t k => XS.iushr X0.here hx rfl (hb hby d7_6) rfl k) ?_
  show G (s₁.setTop (mkF m 7 #[.val (.ref a0_), .val (.int (2 : Int32))] [(.int ((((2 : Int32) - (2 : Int32)).toUInt32 >>> ((31 : Int32) &&& 31).toUInt32).toInt32))]))
  refine gs (fun t k => XS.i2b X0.here hx rfl (hb hby d7_7) rfl k) ?_
  show G (s₁.setTop (mkF m 8 #[.val (.ref a0_), .val (.int (2 : Int32))] [(.int (((((2 : Int32) - (2 : Int32)).toUInt32 >>> ((31 : Int32) &&& 31).toUInt32).toInt32).toInt8.toInt32))]))
  obtain ⟨fs, hr, hrun, hended, hW, hsame⟩ := X0.leave (v := some (.int (((((2 : Int32) - (2 : Int32)).toUInt32 >>> ((31 : Int32) &&& 31).toUInt32).toInt32).toInt8.toInt32))) (fun h => by rw [Bd.returns] at h; cases h)
  refine gl _ ⟨_, _, retN X0 hx (t := .byte) Bd.returns (by simp) (hb hby d7_8) hr, hrun, hended, _, _, rfl, ?_, ⟨_, rfl⟩, hW, hsame.mono (by decide) (by decide)⟩
  show Q7 h0 n0 _ s₁.heap _
  rw [e0]
  exact ⟨congrArg (fun z => some (Value.int z)) (by decide), N0, rfl⟩
theorem pd_1 : parseMethodDescriptor "([CII)[B" = some ⟨[(.array .char), .int, .int], some (.array .byte)⟩ := by decide +kernel
theorem pd_2 : parseMethodDescriptor "([BI)B" = some ⟨[(.array .byte), .int], some .byte⟩ := by decide +kernel
theorem d3_0 : decode jdk_42_method_149_code 0 = .ok (.aload_n 0, 1) := by decide +kernel
theorem d3_1 : decode jdk_42_method_149_code 1 = .ok (.invokespecial 1, 3) := by decide +kernel
theorem d3_4 : decode jdk_42_method_149_code 4 = .ok (.iload_n 3, 1) := by decide +kernel
theorem d3_5 : decode jdk_42_method_149_code 5 = .ok (.ifCond .ne 22, 3) := by decide +kernel
theorem d3_27 : decode jdk_42_method_149_code 27 = .ok (.getstatic 38, 3) := by decide +kernel
theorem d3_30 : decode jdk_42_method_149_code 30 = .ok (.ifCond .eq 28, 3) := by decide +kernel
theorem d3_33 : decode jdk_42_method_149_code 33 = .ok (.aload_n 1, 1) := by decide +kernel
theorem d3_34 : decode jdk_42_method_149_code 34 = .ok (.iload_n 2, 1) := by decide +kernel
theorem d3_35 : decode jdk_42_method_149_code 35 = .ok (.iload_n 3, 1) := by decide +kernel
theorem d3_36 : decode jdk_42_method_149_code 36 = .ok (.invokestatic 177, 3) := by decide +kernel
theorem d3_39 : decode jdk_42_method_149_code 39 = .ok (.astore 5, 2) := by decide +kernel
theorem d3_41 : decode jdk_42_method_149_code 41 = .ok (.aload_n 0, 1) := by decide +kernel
theorem d3_42 : decode jdk_42_method_149_code 42 = .ok (.aload 5, 2) := by decide +kernel
theorem d3_44 : decode jdk_42_method_149_code 44 = .ok (.iload_n 3, 1) := by decide +kernel
theorem d3_45 : decode jdk_42_method_149_code 45 = .ok (.invokestatic 47, 3) := by decide +kernel
theorem d3_48 : decode jdk_42_method_149_code 48 = .ok (.putfield 15, 3) := by decide +kernel
theorem d3_51 : decode jdk_42_method_149_code 51 = .ok (.aload_n 0, 1) := by decide +kernel
theorem d3_52 : decode jdk_42_method_149_code 52 = .ok (.aload 5, 2) := by decide +kernel
theorem d3_54 : decode jdk_42_method_149_code 54 = .ok (.putfield 9, 3) := by decide +kernel
theorem d3_57 : decode jdk_42_method_149_code 57 = .ok (.return_, 1) := by decide +kernel
theorem pn_java_lang_String : plainName "java/lang/String" = true := by first | (simp [plainName, overriddenIn]; done) | decide +kernel
theorem ef_3 (m : MethodId) (a0_ : Addr) (a1_ : Addr) : entryFrame m #[(.ref a0_), (.ref a1_), (.int (0 : Int32)), (.int (2 : Int32)), .null] 6 = mkF m 0 #[.val (.ref a0_), .val (.ref a1_), .val (.int (0 : Int32)), .val (.int (2 : Int32)), .val .null, .unset] [] := by first | (simp [entryFrame, mkF, argsToLocals, Value.category]; done) | rfl
def Q3 (Z : State) (a0_ : Addr) (h0 : Heap) (n0 : Nat) (v : Option Value) (h : Heap) (L : List Loc) : Prop := v = none ∧ Fr n0 L ∧ Keep h0 h [a0_] ∧ Exa Z h a0_ "java/lang/String" ∧ ∃ (t : Addr) (k : ClassId) (vs : List Value), Fld Z h a0_ "java/lang/String" "value" "[B" (.ref t) ∧ Fld Z h a0_ "java/lang/String" "coder" "B" (.int (0 : Int32)) ∧ Arv Z h t k .byte (2 : Int32) vs (.int (0 : Int32))
set_option maxRecDepth 65536 in
set_option maxHeartbeats 40000000 in
theorem rm3 (l : Launch) (Z : State) (a0 : Array Value) (hw : ∀ d ∈ tables_1, d.before a0 Z = true) (ws : List Jvm.Cond) (a0_ : Addr) (a1_ : Addr) (x y : Int32) (kq1 : ClassId) (cs : Int32) (h0 : Heap) (n0 : Nat) (Z0 : n0 ≤ h0.size) (E_a : Exa Z h0 a0_ "java/lang/String") (F_v : Fld Z h0 a0_ "java/lang/String" "value" "[B" .null) (F_c : Fld Z h0 a0_ "java/lang/String" "coder" "B" (.int (0 : Int32))) (g_a0_ : n0 ≤ a0_) (V1 : Arv Z h0 a1_ kq1 .char (2 : Int32) [.int x, .int y] (.int (0 : Int32))) (rx : ¬ (255 : Int32) < x) (ry : ¬ (255 : Int32) < y) (SC : Sta Z h0 "java/lang/String" "COMPACT_STRINGS" "Z" (.int cs)) (hcs : ¬ cs = (0 : Int32)) :
    MetFree l (⟨"java/lang/String", "<init>", "([CIILjava/lang/Void;)V"⟩ : MethodName) (head1 (Jvm.Cond.code (⟨"java/lang/String", "<init>", "([CIILjava/lang/Void;)V"⟩ : MethodName) jdk_42_method_149_code 6 none :: ws) ({ frames := 2, cells := 1, slots := 2, locals := 35 } : Room)) (fun a U => a = #[(.ref a0_), (.ref a1_), (.int (0 : Int32)), (.int (2 : Int32)), .null] ∧ Z.Warmed39 U.vm ∧ U.heap = h0) (fun _ _ _ _ _ => True) (fun _ U o U' => ∃ v L, o = .returned v ∧ Q3 Z a0_ h0 n0 v U'.heap L ∧ FrameEnd U o U' L ({ frames := 2, cells := 1, slots := 2, locals := 35 } : Room).cells ({ frames := 2, cells := 1, slots := 2, locals := 35 } : Room).slots) := by
  refine MetFree.of_bodySF (plainFor_of_name pn_java_lang_String) hisR ?_
  intro p e s m args below meth c s₁ Bd hml0 hP hK
  obtain ⟨rfl, hZ, hh⟩ := hP
  have hx := Bd.exec
  have hby := Bd.bytes
  have hml : c.maxLocals = 6 := hml0
  have hown : s.vm.findClass "java/lang/String" = some m.cls := findClass_of_methodNamed Bd.named
  have hnm := (name_of_methodNamed Bd.named Bd.method).1
  have X0 : Stand p l e ({ frames := 2, cells := 1, slots := 2, locals := 35 } : Room) s m #[(.ref a0_), (.ref a1_), (.int (0 : Int32)), (.int (2 : Int32)), .null] below meth c s₁ [] 0 0 := Stand.of_body Bd
  have e0 : s₁.heap = h0 := by rw [← hh, Bd.state]; rfl
  have N0 := Fr.nil n0
  have pre0 : ∀ t, Steps p.tables e below (s₁.setTop (mkF m 0 #[.val (.ref a0_), .val (.ref a1_), .val (.int (0 : Int32)), .val (.int (2 : Int32)), .val .null, .unset] [])) t → Steps p.tables e below (s₁.setTop (entryFrame m #[(.ref a0_), (.ref a1_), (.int (0 : Int32)), (.int (2 : Int32)), .null] 6)) t := fun t k => castTop (ef_3 m a0_ a1_) k
  have K0 := Keep.refl h0 [a0_]
  refine own_start pre0 fun G gs gl => ?_
  show G (s₁.setTop (mkF m 0 #[.val (.ref a0_), .val (.ref a1_), .val (.int (0 : Int32)), .val (.int (2 : Int32)), .val .null, .unset] []))
  refine gs (fun t k => XS.aloadN X0.here hx rfl (hb hby d3_0) rfl rfl k) ?_
  show G (s₁.setTop (mkF m 1 #[.val (.ref a0_), .val (.ref a1_), .val (.int (0 : Int32)), .val (.int (2 : Int32)), .val .null, .unset] [(.ref a0_)]))
  obtain ⟨T1, X1, e1, st1⟩ := initO X0 hx hZ hown (hw _ (List.mem_of_getElem? (i := 15) rfl)) (hw _ (List.mem_of_getElem? (i := 16) rfl)) (hw _ (List.mem_of_getElem? (i := 17) rfl)) e0 (g := (mkF m 1 #[.val (.ref a0_), .val (.ref a1_), .val (.int (0 : Int32)), .val (.int (2 : Int32)), .val .null, .unset] [(.ref a0_)])) rfl (by rw [hml]; rfl) rfl (hb hby d3_1) (by decide) (W := 0) (by show 2 * 0 + _ ≤ _; exact Nat.le_of_eq rfl) (by decide)
  refine gs (fun t k => st1 _ k) ?_
  show G (T1.setTop (mkF m 4 #[.val (.ref a0_), .val (.ref a1_), .val (.int (0 : Int32)), .val (.int (2 : Int32)), .val .null, .unset] []))
  refine gs (fun t k => XS.iloadN X1.here hx rfl (hb hby d3_4) rfl k) ?_
  show G (T1.setTop (mkF m 5 #[.val (.ref a0_), .val (.ref a1_), .val (.int (0 : Int32)), .val (.int (2 : Int32)), .val .null, .unset] [(.int (2 : Int32))]))
  refine gs (fun t k => XS.ifYes X1.here hx rfl (pc0 := 5) (pc' := 27) rfl (hb hby d3_5) rfl ((if0 _ _).trans (feq (by decide : ¬ ((2 : Int32) = (0 : Int32)))).2) (by decide) (by decide) k) ?_
  show G (T1.setTop (mkF m 27 #[.val (.ref a0_), .val (.ref a1_), .val (.int (0 : Int32)), .val (.int (2 : Int32)), .val .null, .unset] []))
  obtain ⟨T2, X2, e2, st2⟩ := getS2 X1 hx hZ hown (host := "") (Or.inl (hw _ (List.mem_of_getElem? (i := 18) rfl))) Via.refl e1 SC (g := (mkF m 27 #[.val (.ref a0_), .val (.ref a1_), .val (.int (0 : Int32)), .val (.int (2 : Int32)), .val .null, .unset] [])) rfl (hb hby d3_27)
  refine gs (fun t k => st2 _ k) ?_
  show G (T2.setTop (mkF m 30 #[.val (.ref a0_), .val (.ref a1_), .val (.int (0 : Int32)), .val (.int (2 : Int32)), .val .null, .unset] [(.int cs)]))
  refine gs (fun t k => XS.ifNo X2.here hx rfl (hb hby d3_30) rfl ((if0 _ _).trans (feq hcs).1) k) ?_
  show G (T2.setTop (mkF m 33 #[.val (.ref a0_), .val (.ref a1_), .val (.int (0 : Int32)), .val (.int (2 : Int32)), .val .null, .unset] []))
  refine gs (fun t k => XS.aloadN X2.here hx rfl (hb hby d3_33) rfl rfl k) ?_
  show G (T2.setTop (mkF m 34 #[.val (.ref a0_), .val (.ref a1_), .val (.int (0 : Int32)), .val (.int (2 : Int32)), .val .null, .unset] [(.ref a1_)]))
  refine gs (fun t k => XS.iloadN X2.here hx rfl (hb hby d3_34) rfl k) ?_
  show G (T2.setTop (mkF m 35 #[.val (.ref a0_), .val (.ref a1_), .val (.int (0 : Int32)), .val (.int (2 : Int32)), .val .null, .unset] [(.int (0 : Int32)), (.ref a1_)]))
  refine gs (fun t k => XS.iloadN X2.here hx rfl (hb hby d3_35) rfl k) ?_
  show G (T2.setTop (mkF m 36 #[.val (.ref a0_), .val (.ref a1_), .val (.int (0 : Int32)), .val (.int (2 : Int32)), .val .null, .unset] [(.int (2 : Int32)), (.int (0 : Int32)), (.ref a1_)]))
  obtain ⟨_, _, ⟨T3, L3, k3, n3⟩, -, X3, ⟨Lc3, hQ3, l3, y3, z3⟩, st3⟩ := Jvm.LawKit.callS X2 hx (y := (⟨"java/lang/StringUTF16", "compress", "([CII)[B"⟩ : MethodName)) hown (mvT hZ (hw _ (List.mem_of_getElem? (i := 19) rfl))) (mvT hZ (hw _ (List.mem_of_getElem? (i := 20) rfl))) (mvT hZ (hw _ (List.mem_of_getElem? (i := 21) rfl))) (mvT hZ (hw _ (List.mem_of_getElem? (i := 22) rfl))) (by decide) (backOf (W := 0) (rm5 l Z a0 hw [] a1_ x y kq1 h0 n0 (Nat.le_trans Z0 K0.1) V1 rx ry) hZ (hw _ (List.mem_of_getElem? (i := 22) rfl)) (hw _ (List.mem_of_getElem? (i := 21) rfl)) (by decide) (by decide)) (g := (mkF m 36 #[.val (.ref a0_), .val (.ref a1_), .val (.int (0 : Int32)), .val (.int (2 : Int32)), .val .null, .unset] [(.int (2 : Int32)), (.int (0 : Int32)), (.ref a1_)])) rfl (by rw [hml]; rfl) (argsL := [(.ref a1_), (.int (0 : Int32)), (.int (2 : Int32))]) (rest := []) (lenOf pd_1 rfl) rfl (by show 2 * 0 + _ ≤ _; exact Nat.le_of_eq rfl) (hb hby d3_36) (fun _ _ => ⟨rfl, e2, (by decide : 0 + 1 ≤ _), (by decide : 0 + 2 ≤ _)⟩)
  dsimp only [Pt.U, Pt.locs, Pt.cells, Pt.slots] at X3 l3 y3 z3 st3 hQ3
  subst y3 z3
  obtain ⟨tb, rfl, N3q, Kc3, kb, vb, VB⟩ := hQ3
  have N3 : Fr n0 L3 := by rw [l3]; exact Fr.app N0 N3q
  refine gs (fun t k => st3 _ k) ?_
  have E_a_q4 := E_a.keep Kc3
  have F_v_q5 := F_v.keep Kc3 nin0
  have F_c_q6 := F_c.keep Kc3 nin0
  have SC_q7 := own_sta_keep SC Kc3
  have V1_q8 := V1.keep Kc3 nin0
  have K9 := K0.trans Kc3 all0
  have ne_tb : tb ≠ a0_ := (ne_arr E_a_q4 (hw _ (List.mem_of_getElem? (i := 6) rfl)) (VB.choose_spec.1)).symm
  show G (T3.setTop (mkF m 39 #[.val (.ref a0_), .val (.ref a1_), .val (.int (0 : Int32)), .val (.int (2 : Int32)), .val .null, .unset] [(.ref tb)]))
  refine gs (fun t k => XS.astore X3.here hx rfl (hb hby d3_39) rfl rfl (l' := #[.val (.ref a0_), .val (.ref a1_), .val (.int (0 : Int32)), .val (.int (2 : Int32)), .val .null, .val (.ref tb)]) rfl k) ?_
  show G (T3.setTop (mkF m 41 #[.val (.ref a0_), .val (.ref a1_), .val (.int (0 : Int32)), .val (.int (2 : Int32)), .val .null, .val (.ref tb)] []))
  refine gs (fun t k => XS.aloadN X3.here hx rfl (hb hby d3_41) rfl rfl k) ?_
  show G (T3.setTop (mkF m 42 #[.val (.ref a0_), .val (.ref a1_), .val (.int (0 : Int32)), .val (.int (2 : Int32)), .val .null, .val (.ref tb)] [(.ref a0_)]))
  refine gs (fun t k => XS.aload X3.here hx rfl (hb hby d3_42) rfl rfl k) ?_
  show G (T3.setTop (mkF m 44 #[.val (.ref a0_), .val (.ref a1_), .val (.int (0 : Int32)), .val (.int (2 : Int32)), .val .null, .val (.ref tb)] [(.ref tb), (.ref a0_)]))
  refine gs (fun t k => XS.iloadN X3.here hx rfl (hb hby d3_44) rfl k) ?_
  show G (T3.setTop (mkF m 45 #[.val (.ref a0_), .val (.ref a1_), .val (.int (0 : Int32)), .val (.int (2 : Int32)), .val .null, .val (.ref tb)] [(.int (2 : Int32)), (.ref tb), (.ref a0_)]))
  obtain ⟨_, _, ⟨T10, L10, k10, n10⟩, -, X10, ⟨Lc10, hQ10, l10, y10, z10⟩, st10⟩ := Jvm.LawKit.callS X3 hx (y := (⟨"java/lang/StringUTF16", "coderFromArrayLen", "([BI)B"⟩ : MethodName)) hown (mvT hZ (hw _ (List.mem_of_getElem? (i := 27) rfl))) (mvT hZ (hw _ (List.mem_of_getElem? (i := 28) rfl))) (mvT hZ (hw _ (List.mem_of_getElem? (i := 21) rfl))) (mvT hZ (hw _ (List.mem_of_getElem? (i := 29) rfl))) (by decide) (backOf (W := 1) (rm7 l Z a0 hw [] tb kb vb T3.heap n0 (Nat.le_trans Z0 K9.1) VB) hZ (hw _ (List.mem_of_getElem? (i := 29) rfl)) (hw _ (List.mem_of_getElem? (i := 21) rfl)) (by decide) (by decide)) (g := (mkF m 45 #[.val (.ref a0_), .val (.ref a1_), .val (.int (0 : Int32)), .val (.int (2 : Int32)), .val .null, .val (.ref tb)] [(.int (2 : Int32)), (.ref tb), (.ref a0_)])) rfl (by rw [hml]; rfl) (argsL := [(.ref tb), (.int (2 : Int32))]) (rest := [(.ref a0_)]) (lenOf pd_2 rfl) rfl (by show 2 * 0 + _ ≤ _; exact Nat.le_of_eq rfl) (hb hby d3_45) (fun _ _ => ⟨rfl, rfl, (by decide : 1 + 0 ≤ _), (by decide : 2 + 0 ≤ _)⟩)
  dsimp only [Pt.U, Pt.locs, Pt.cells, Pt.slots] at X10 l10 y10 z10 st10 hQ10
  subst y10 z10
  obtain ⟨rfl, N10q, e10⟩ := hQ10
  have N10 : Fr n0 L10 := by rw [l10]; exact Fr.app N3 N10q
  refine gs (fun t k => st10 _ k) ?_
  show G (T10.setTop (mkF m 48 #[.val (.ref a0_), .val (.ref a1_), .val (.int (0 : Int32)), .val (.int (2 : Int32)), .val .null, .val (.ref tb)] [(.int (0 : Int32)), (.ref a0_)]))
  obtain ⟨T11, h11, X11, e11, W11, st11⟩ := putFN X10 hx hZ hown (hw _ (List.mem_of_getElem? (i := 30) rfl)) Via.refl e10 F_c_q6 E_a_q4 (Or.inr ⟨(hw _ (List.mem_of_getElem? (i := 31) rfl)), rfl, hnm⟩) (hw _ (List.mem_of_getElem? (i := 6) rfl)) (ty := .byte) (v' := (.int ((0 : Int32).toInt8.toInt32))) (by decide) rfl (fits_nar_byte _) (g := (mkF m 48 #[.val (.ref a0_), .val (.ref a1_), .val (.int (0 : Int32)), .val (.int (2 : Int32)), .val .null, .val (.ref tb)] [(.int (0 : Int32)), (.ref a0_)])) rfl rfl (hb hby d3_48)
  have E_a_q12 := E_a_q4.wr W11
  have F_v_q13 := F_v_q5.other W11 (Or.inr (slot_ne (Or.inr (hw _ (List.mem_of_getElem? (i := 33) rfl))) (Or.inr (hw _ (List.mem_of_getElem? (i := 31) rfl))) (by decide) (t := (.array .byte)) (t' := .byte) (by decide) (by decide)))
  have F_c_q14 := F_c_q6.same W11
  have SC_q15 := SC_q7.wr W11
  have VB_q16 := VB.other W11 ne_tb
  have K17 := K9.wr W11 (Or.inl (List.mem_of_getElem? (i := 0) rfl))
  have N11 := Fr.snoc X11 N10 g_a0_
  refine gs (fun t k => st11 _ k) ?_
  show G (T11.setTop (mkF m 51 #[.val (.ref a0_), .val (.ref a1_), .val (.int (0 : Int32)), .val (.int (2 : Int32)), .val .null, .val (.ref tb)] []))
  refine gs (fun t k => XS.aloadN X11.here hx rfl (hb hby d3_51) rfl rfl k) ?_
  show G (T11.setTop (mkF m 52 #[.val (.ref a0_), .val (.ref a1_), .val (.int (0 : Int32)), .val (.int (2 : Int32)), .val .null, .val (.ref tb)] [(.ref a0_)]))
  refine gs (fun t k => XS.aload X11.here hx rfl (hb hby d3_52) rfl rfl k) ?_
  show G (T11.setTop (mkF m 54 #[.val (.ref a0_), .val (.ref a1_), .val (.int (0 : Int32)), .val (.int (2 : Int32)), .val .null, .val (.ref tb)] [(.ref tb), (.ref a0_)]))
  obtain ⟨T18, h18, X18, e18, W18, st18⟩ := putF X11 hx hZ hown (host := "") (Or.inl (hw _ (List.mem_of_getElem? (i := 32) rfl))) Via.refl e11 F_v_q13 E_a_q12 (Or.inr ⟨(hw _ (List.mem_of_getElem? (i := 33) rfl)), rfl, hnm⟩) (hw _ (List.mem_of_getElem? (i := 6) rfl)) (ty := (.array .byte)) (by decide) rfl rfl (g := (mkF m 54 #[.val (.ref a0_), .val (.ref a1_), .val (.int (0 : Int32)), .val (.int (2 : Int32)), .val .null, .val (.ref tb)] [(.ref tb), (.ref a0_)])) rfl rfl (hb hby d3_54)
  have E_a_q19 := E_a_q12.wr W18
  have F_v_q20 := F_v_q13.same W18
  have F_c_q21 := F_c_q14.other W18 (Or.inr (slot_ne (Or.inr (hw _ (List.mem_of_getElem? (i := 31) rfl))) (Or.inr (hw _ (List.mem_of_getElem? (i := 33) rfl))) (by decide) (t := .byte) (t' := (.array .byte)) (by decide) (by decide)))
  have SC_q22 := SC_q15.wr W18
  have VB_q23 := VB_q16.other W18 ne_tb
  have K24 := K17.wr W18 (Or.inl (List.mem_of_getElem? (i := 0) rfl))
  have N18 := Fr.snoc X18 N11 g_a0_
  refine gs (fun t k => st18 _ k) ?_
  show G (T18.setTop (mkF m 57 #[.val (.ref a0_), .val (.ref a1_), .val (.int (0 : Int32)), .val (.int (2 : Int32)), .val .null, .val (.ref tb)] []))
  obtain ⟨fs, hr, hrun, hended, hW, hsame⟩ := X18.leave (v := none) (fun _ => rfl)
  refine gl _ ⟨_, _, X18.returnOut hx Bd.returns (hb hby d3_57) hr, hrun, hended, _, _, rfl, ?_, ⟨_, rfl⟩, hW, hsame.mono (by decide) (by decide)⟩
  show Q3 Z a0_ h0 n0 _ T18.heap _
  rw [e18]
  exact ⟨rfl, N18, K24, E_a_q19, _, _, _, F_v_q20, F_c_q21, VB_q23⟩
theorem pd_3 : parseMethodDescriptor "([CIILjava/lang/Void;)V" = some ⟨[(.array .char), .int, .int, (.object "java/lang/Void")], none⟩ := by decide +kernel
theorem d2_0 : decode jdk_42_method_3_code 0 = .ok (.aload_n 0, 1) := by decide +kernel
theorem d2_1 : decode jdk_42_method_3_code 1 = .ok (.aload_n 1, 1) := by decide +kernel
theorem d2_2 : decode jdk_42_method_3_code 2 = .ok (.iconst 0, 1) := by decide +kernel
theorem d2_3 : decode jdk_42_method_3_code 3 = .ok (.aload_n 1, 1) := by decide +kernel
theorem d2_4 : decode jdk_42_method_3_code 4 = .ok (.arraylength, 1) := by decide +kernel
theorem d2_5 : decode jdk_42_method_3_code 5 = .ok (.aconst_null, 1) := by decide +kernel
theorem d2_6 : decode jdk_42_method_3_code 6 = .ok (.invokespecial 27, 3) := by decide +kernel
theorem d2_9 : decode jdk_42_method_3_code 9 = .ok (.return_, 1) := by decide +kernel
theorem ef_2 (m : MethodId) (a0_ : Addr) (a1_ : Addr) : entryFrame m #[(.ref a0_), (.ref a1_)] 2 = mkF m 0 #[.val (.ref a0_), .val (.ref a1_)] [] := by first | (simp [entryFrame, mkF, argsToLocals, Value.category]; done) | rfl
def Q2 (Z : State) (a0_ : Addr) (h0 : Heap) (n0 : Nat) (v : Option Value) (h : Heap) (L : List Loc) : Prop := v = none ∧ Fr n0 L ∧ Keep h0 h [a0_] ∧ Exa Z h a0_ "java/lang/String" ∧ ∃ (t : Addr) (k : ClassId) (vs : List Value), Fld Z h a0_ "java/lang/String" "value" "[B" (.ref t) ∧ Fld Z h a0_ "java/lang/String" "coder" "B" (.int (0 : Int32)) ∧ Arv Z h t k .byte (2 : Int32) vs (.int (0 : Int32))
set_option maxRecDepth 65536 in
set_option maxHeartbeats 40000000 in
theorem rm2 (l : Launch) (Z : State) (a0 : Array Value) (hw : ∀ d ∈ tables_1, d.before a0 Z = true) (ws : List Jvm.Cond) (a0_ : Addr) (a1_ : Addr) (x y : Int32) (kq1 : ClassId) (cs : Int32) (h0 : Heap) (n0 : Nat) (Z0 : n0 ≤ h0.size) (E_a : Exa Z h0 a0_ "java/lang/String") (F_v : Fld Z h0 a0_ "java/lang/String" "value" "[B" .null) (F_c : Fld Z h0 a0_ "java/lang/String" "coder" "B" (.int (0 : Int32))) (g_a0_ : n0 ≤ a0_) (V1 : Arv Z h0 a1_ kq1 .char (2 : Int32) [.int x, .int y] (.int (0 : Int32))) (rx : ¬ (255 : Int32) < x) (ry : ¬ (255 : Int32) < y) (SC : Sta Z h0 "java/lang/String" "COMPACT_STRINGS" "Z" (.int cs)) (hcs : ¬ cs = (0 : Int32)) :
    MetFree l (⟨"java/lang/String", "<init>", "([C)V"⟩ : MethodName) (head1 (Jvm.Cond.code (⟨"java/lang/String", "<init>", "([C)V"⟩ : MethodName) jdk_42_method_3_code 2 none :: ws) ({ frames := 3, cells := 1, slots := 2, locals := 52 } : Room)) (fun a U => a = #[(.ref a0_), (.ref a1_)] ∧ Z.Warmed39 U.vm ∧ U.heap = h0) (fun _ _ _ _ _ => True) (fun _ U o U' => ∃ v L, o = .returned v ∧ Q2 Z a0_ h0 n0 v U'.heap L ∧ FrameEnd U o U' L ({ frames := 3, cells := 1, slots := 2, locals := 52 } : Room).cells ({ frames := 3, cells := 1, slots := 2, locals := 52 } : Room).slots) := by
  refine MetFree.of_bodySF (plainFor_of_name pn_java_lang_String) hisR ?_
  intro p e s m args below meth c s₁ Bd hml0 hP hK
  obtain ⟨rfl, hZ, hh⟩ := hP
  have hx := Bd.exec
  have hby := Bd.bytes
  have hml : c.maxLocals = 2 := hml0
  have hown : s.vm.findClass "java/lang/String" = some m.cls := findClass_of_methodNamed Bd.named
  have hnm := (name_of_methodNamed Bd.named Bd.method).1
  have X0 : Stand p l e ({ frames := 3, cells := 1, slots := 2, locals := 52 } : Room) s m #[(.ref a0_), (.ref a1_)] below meth c s₁ [] 0 0 := Stand.of_body Bd
  have e0 : s₁.heap = h0 := by rw [← hh, Bd.state]; rfl
  have N0 := Fr.nil n0
  have pre0 : ∀ t, Steps p.tables e below (s₁.setTop (mkF m 0 #[.val (.ref a0_), .val (.ref a1_)] [])) t → Steps p.tables e below (s₁.setTop (entryFrame m #[(.ref a0_), (.ref a1_)] 2)) t := fun t k => castTop (ef_2 m a0_ a1_) k
  have K0 := Keep.refl h0 [a0_]
  refine own_start pre0 fun G gs gl => ?_
  show G (s₁.setTop (mkF m 0 #[.val (.ref a0_), .val (.ref a1_)] []))
  obtain ⟨c1, A1, -, S1, M1, -, -⟩ := id V1
  show G (s₁.setTop (mkF m 0 #[.val (.ref a0_), .val (.ref a1_)] []))
  refine gs (fun t k => XS.aloadN X0.here hx rfl (hb hby d2_0) rfl rfl k) ?_
  show G (s₁.setTop (mkF m 1 #[.val (.ref a0_), .val (.ref a1_)] [(.ref a0_)]))
  refine gs (fun t k => XS.aloadN X0.here hx rfl (hb hby d2_1) rfl rfl k) ?_
  show G (s₁.setTop (mkF m 2 #[.val (.ref a0_), .val (.ref a1_)] [(.ref a1_), (.ref a0_)]))
  refine gs (fun t k => XS.iconst X0.here hx rfl (hb hby d2_2) k) ?_
  show G (s₁.setTop (mkF m 3 #[.val (.ref a0_), .val (.ref a1_)] [(.int (0 : Int32)), (.ref a1_), (.ref a0_)]))
  refine gs (fun t k => XS.aloadN X0.here hx rfl (hb hby d2_3) rfl rfl k) ?_
  show G (s₁.setTop (mkF m 4 #[.val (.ref a0_), .val (.ref a1_)] [(.ref a1_), (.int (0 : Int32)), (.ref a1_), (.ref a0_)]))
  refine gs (fun t k => X0.arraylength hx (by rw [e0]; exact A1.1) (State.isArrayOf_alike hZ.alike A1.2.1) (g := (mkF m 4 #[.val (.ref a0_), .val (.ref a1_)] [(.ref a1_), (.int (0 : Int32)), (.ref a1_), (.ref a0_)])) rfl rfl (hb hby d2_4) _ k) ?_
  rw [len_of S1 M1]
  show G (s₁.setTop (mkF m 5 #[.val (.ref a0_), .val (.ref a1_)] [(.int (2 : Int32)), (.int (0 : Int32)), (.ref a1_), (.ref a0_)]))
  refine gs (fun t k => XS.aconstNull X0.here hx rfl (hb hby d2_5) k) ?_
  show G (s₁.setTop (mkF m 6 #[.val (.ref a0_), .val (.ref a1_)] [.null, (.int (2 : Int32)), (.int (0 : Int32)), (.ref a1_), (.ref a0_)]))
  obtain ⟨_, _, ⟨T1, L1, k1, n1⟩, -, X1, ⟨Lc1, hQ1, l1, y1, z1⟩, st1⟩ := X0.specialBack hx (y := (⟨"java/lang/String", "<init>", "([CIILjava/lang/Void;)V"⟩ : MethodName)) rfl hown (mvT hZ (hw _ (List.mem_of_getElem? (i := 11) rfl))) (mvT hZ (hw _ (List.mem_of_getElem? (i := 12) rfl))) (mvT hZ (hw _ (List.mem_of_getElem? (i := 14) rfl))) (by decide) (backOf (W := 0) (rm3 l Z a0 hw [] a0_ a1_ x y kq1 cs h0 n0 Z0 E_a F_v F_c g_a0_ V1 rx ry SC hcs) hZ (hw _ (List.mem_of_getElem? (i := 14) rfl)) (hw _ (List.mem_of_getElem? (i := 7) rfl)) (by decide) (by decide)) (g := (mkF m 6 #[.val (.ref a0_), .val (.ref a1_)] [.null, (.int (2 : Int32)), (.int (0 : Int32)), (.ref a1_), (.ref a0_)])) rfl (by rw [hml]; rfl) (Steps.refl _) (a := a0_) (argsL := [(.ref a1_), (.int (0 : Int32)), (.int (2 : Int32)), .null]) (rest := []) (lenOf pd_3 rfl) rfl (by show 2 * 0 + _ ≤ _; exact Nat.le_of_eq rfl) (hb hby d2_6) (fun _ _ => ⟨rfl, e0, (by decide : 0 + 1 ≤ _), (by decide : 0 + 2 ≤ _)⟩)
  dsimp only [Pt.U, Pt.locs, Pt.cells, Pt.slots] at X1 l1 y1 z1 st1 hQ1
  subst y1 z1
  obtain ⟨rfl, N1q, Kc1, rest1⟩ := hQ1
  have N1 : Fr n0 L1 := by rw [l1]; exact Fr.app N0 N1q
  refine gs (fun t k => st1.trans k) ?_
  show G (T1.setTop (mkF m 9 #[.val (.ref a0_), .val (.ref a1_)] []))
  obtain ⟨fs, hr, hrun, hended, hW, hsame⟩ := X1.leave (v := none) (fun _ => rfl)
  refine gl _ ⟨_, _, X1.returnOut hx Bd.returns (hb hby d2_9) hr, hrun, hended, _, _, rfl, ?_, ⟨_, rfl⟩, hW, hsame.mono (by decide) (by decide)⟩
  show Q2 Z a0_ h0 n0 _ T1.heap _
  exact ⟨rfl, N1, Kc1, rest1⟩
theorem d9_0 : decode jdk_31_method_10_code 0 = .ok (.aload_n 0, 1) := by decide +kernel
theorem d9_1 : decode jdk_31_method_10_code 1 = .ok (.ifnonnull 11, 3) := by decide +kernel
theorem d9_12 : decode jdk_31_method_10_code 12 = .ok (.aload_n 0, 1) := by decide +kernel
theorem d9_13 : decode jdk_31_method_10_code 13 = .ok (.areturn, 1) := by decide +kernel
theorem pn_java_util_Objects : plainName "java/util/Objects" = true := by first | (simp [plainName, overriddenIn]; done) | decide +kernel
theorem ef_9 (m : MethodId) (a0_ : Addr) : entryFrame m #[(.ref a0_)] 1 = mkF m 0 #[.val (.ref a0_)] [] := by first | (simp [entryFrame, mkF, argsToLocals, Value.category]; done) | rfl
def Q9 (a0_ : Addr) (h0 : Heap) (n0 : Nat) (v : Option Value) (h : Heap) (L : List Loc) : Prop := v = some (.ref a0_) ∧ Fr n0 L ∧ h = h0
set_option maxRecDepth 65536 in
set_option maxHeartbeats 40000000 in
theorem rm9 (l : Launch) (Z : State) (a0 : Array Value) (hw : ∀ d ∈ tables_1, d.before a0 Z = true) (ws : List Jvm.Cond) (a0_ : Addr)  (h0 : Heap) (n0 : Nat) (Z0 : n0 ≤ h0.size)  :
    MetFree l (⟨"java/util/Objects", "requireNonNull", "(Ljava/lang/Object;)Ljava/lang/Object;"⟩ : MethodName) (head1 (Jvm.Cond.code (⟨"java/util/Objects", "requireNonNull", "(Ljava/lang/Object;)Ljava/lang/Object;"⟩ : MethodName) jdk_31_method_10_code 1 (some (.object "java/lang/Object")) :: ws) ({ frames := 0, cells := 0, slots := 0, locals := 0 } : Room)) (fun a U => a = #[(.ref a0_)] ∧ Z.Warmed39 U.vm ∧ U.heap = h0) (fun _ _ _ _ _ => True) (fun _ U o U' => ∃ v L, o = .returned v ∧ Q9 a0_ h0 n0 v U'.heap L ∧ FrameEnd U o U' L ({ frames := 0, cells := 0, slots := 0, locals := 0 } : Room).cells ({ frames := 0, cells := 0, slots := 0, locals := 0 } : Room).slots) := by
  refine MetFree.of_bodySF (plainFor_of_name pn_java_util_Objects) hisR ?_
  intro p e s m args below meth c s₁ Bd hml0 hP hK
  obtain ⟨rfl, hZ, hh⟩ := hP
  have hx := Bd.exec
  have hby := Bd.bytes
  have hml : c.maxLocals = 1 := hml0
  have hown : s.vm.findClass "java/util/Objects" = some m.cls := findClass_of_methodNamed Bd.named
  have hnm := (name_of_methodNamed Bd.named Bd.method).1
  have X0 : Stand p l e ({ frames := 0, cells := 0, slots := 0, locals := 0 } : Room) s m #[(.ref a0_)] below meth c s₁ [] 0 0 := Stand.of_body Bd
  have e0 : s₁.heap = h0 := by rw [← hh, Bd.state]; rfl
  have N0 := Fr.nil n0
  have pre0 : ∀ t, Steps p.tables e below (s₁.setTop (mkF m 0 #[.val (.ref a0_)] [])) t → Steps p.tables e below (s₁.setTop (entryFrame m #[(.ref a0_)] 1)) t := fun t k => castTop (ef_9 m a0_) k
  have K0 := Keep.refl h0 []
  refine own_start pre0 fun G gs gl => ?_
  show G (s₁.setTop (mkF m 0 #[.val (.ref a0_)] []))
  refine gs (fun t k => XS.aloadN X0.here hx rfl (hb hby d9_0) rfl rfl k) ?_
  show G (s₁.setTop (mkF m 1 #[.val (.ref a0_)] [(.ref a0_)]))
  refine gs (fun t k => XS.ifnonnullYes X0.here hx rfl (pc0 := 1) (pc' := 12) rfl (hb hby d9_1) rfl (by decide) (by decide) k) ?_
  show G (s₁.setTop (mkF m 12 #[.val (.ref a0_)] []))
  refine gs (fun t k => XS.aloadN X0.here hx rfl (hb hby d9_12) rfl rfl k) ?_
  show G (s₁.setTop (mkF m 13 #[.val (.ref a0_)] [(.ref a0_)]))
  obtain ⟨fs, hr, hrun, hended, hW, hsame⟩ := X0.leave (v := some (.ref a0_)) (fun h => by rw [Bd.returns] at h; cases h)
  refine gl _ ⟨_, _, retOut X0 hx Bd.returns rfl (Or.inr (Or.inr (Or.inr (Or.inr ⟨rfl, rfl, rfl⟩)))) (hb hby d9_13) hr, hrun, hended, _, _, rfl, ?_, ⟨_, rfl⟩, hW, hsame.mono (by decide) (by decide)⟩
  show Q9 a0_ h0 n0 _ s₁.heap _
  rw [e0]
  exact ⟨rfl, N0, rfl⟩
theorem pd_4 : parseMethodDescriptor "(Ljava/lang/Object;)Ljava/lang/Object;" = some ⟨[(.object "java/lang/Object")], some (.object "java/lang/Object")⟩ := by decide +kernel
theorem d8_0 : decode prog_55_method_1_code 0 = .ok (.aload_n 0, 1) := by decide +kernel
theorem d8_1 : decode prog_55_method_1_code 1 = .ok (.invokespecial 1, 3) := by decide +kernel
theorem d8_4 : decode prog_55_method_1_code 4 = .ok (.aload_n 0, 1) := by decide +kernel
theorem d8_5 : decode prog_55_method_1_code 5 = .ok (.aload_n 1, 1) := by decide +kernel
theorem d8_6 : decode prog_55_method_1_code 6 = .ok (.invokestatic 7, 3) := by decide +kernel
theorem d8_9 : decode prog_55_method_1_code 9 = .ok (.checkcast 13, 3) := by decide +kernel
theorem d8_12 : decode prog_55_method_1_code 12 = .ok (.putfield 15, 3) := by decide +kernel
theorem d8_15 : decode prog_55_method_1_code 15 = .ok (.aload_n 0, 1) := by decide +kernel
theorem d8_16 : decode prog_55_method_1_code 16 = .ok (.aload_n 2, 1) := by decide +kernel
theorem d8_17 : decode prog_55_method_1_code 17 = .ok (.invokestatic 7, 3) := by decide +kernel
theorem d8_20 : decode prog_55_method_1_code 20 = .ok (.checkcast 13, 3) := by decide +kernel
theorem d8_23 : decode prog_55_method_1_code 23 = .ok (.putfield 21, 3) := by decide +kernel
theorem d8_26 : decode prog_55_method_1_code 26 = .ok (.aload_n 0, 1) := by decide +kernel
theorem d8_27 : decode prog_55_method_1_code 27 = .ok (.aload_n 3, 1) := by decide +kernel
theorem d8_28 : decode prog_55_method_1_code 28 = .ok (.invokestatic 7, 3) := by decide +kernel
theorem d8_31 : decode prog_55_method_1_code 31 = .ok (.checkcast 13, 3) := by decide +kernel
theorem d8_34 : decode prog_55_method_1_code 34 = .ok (.putfield 24, 3) := by decide +kernel
theorem d8_37 : decode prog_55_method_1_code 37 = .ok (.aload_n 0, 1) := by decide +kernel
theorem d8_38 : decode prog_55_method_1_code 38 = .ok (.iload 4, 2) := by decide +kernel
theorem d8_40 : decode prog_55_method_1_code 40 = .ok (.putfield 27, 3) := by decide +kernel
theorem d8_43 : decode prog_55_method_1_code 43 = .ok (.return_, 1) := by decide +kernel
theorem pn_com_example_consensus_to_coverage_consensustocoverage_trecfiles_Judgement : plainName "com/example/consensus_to_coverage/consensustocoverage/trecfiles/Judgement" = true := by first | (simp [plainName, overriddenIn]; done) | decide +kernel
theorem ef_8 (m : MethodId) (a0_ : Addr) (a1_ : Addr) (a2_ : Addr) (a3_ : Addr) (p4 : Int32) : entryFrame m #[(.ref a0_), (.ref a1_), (.ref a2_), (.ref a3_), (.int p4)] 5 = mkF m 0 #[.val (.ref a0_), .val (.ref a1_), .val (.ref a2_), .val (.ref a3_), .val (.int p4)] [] := by first | (simp [entryFrame, mkF, argsToLocals, Value.category]; done) | rfl
def Q8 (Z : State) (a0_ a1_ a2_ a3_ : Addr) (p4 : Int32) (h0 : Heap) (n0 : Nat) (v : Option Value) (h : Heap) (L : List Loc) : Prop := v = none ∧ Fr n0 L ∧ Keep h0 h [a0_] ∧ Exa Z h a0_ "com/example/consensus_to_coverage/consensustocoverage/trecfiles/Judgement" ∧ Fld Z h a0_ "com/example/consensus_to_coverage/consensustocoverage/trecfiles/Judgement" "topic" "Ljava/lang/String;" (.ref a1_) ∧ Fld Z h a0_ "com/example/consensus_to_coverage/consensustocoverage/trecfiles/Judgement" "subtopic" "Ljava/lang/String;" (.ref a2_) ∧ Fld Z h a0_ "com/example/consensus_to_coverage/consensustocoverage/trecfiles/Judgement" "docId" "Ljava/lang/String;" (.ref a3_) ∧ Fld Z h a0_ "com/example/consensus_to_coverage/consensustocoverage/trecfiles/Judgement" "grade" "I" (.int p4)
set_option maxRecDepth 65536 in
set_option maxHeartbeats 40000000 in
theorem rm8 (l : Launch) (Z : State) (a0 : Array Value) (hw : ∀ d ∈ tables_1, d.before a0 Z = true) (ws : List Jvm.Cond) (a0_ : Addr) (a1_ : Addr) (a2_ : Addr) (a3_ : Addr) (p4 : Int32)  (h0 : Heap) (n0 : Nat) (Z0 : n0 ≤ h0.size) (E_a : Exa Z h0 a0_ "com/example/consensus_to_coverage/consensustocoverage/trecfiles/Judgement") (F_0 : Fld Z h0 a0_ "com/example/consensus_to_coverage/consensustocoverage/trecfiles/Judgement" "topic" "Ljava/lang/String;" .null) (F_1 : Fld Z h0 a0_ "com/example/consensus_to_coverage/consensustocoverage/trecfiles/Judgement" "subtopic" "Ljava/lang/String;" .null) (F_2 : Fld Z h0 a0_ "com/example/consensus_to_coverage/consensustocoverage/trecfiles/Judgement" "docId" "Ljava/lang/String;" .null) (F_3 : Fld Z h0 a0_ "com/example/consensus_to_coverage/consensustocoverage/trecfiles/Judgement" "grade" "I" (.int (0 : Int32))) (g_a0_ : n0 ≤ a0_) (E_1 : Exa Z h0 a1_ "java/lang/String") (E_2 : Exa Z h0 a2_ "java/lang/String") (E_3 : Exa Z h0 a3_ "java/lang/String") :
    MetFree l (⟨"com/example/consensus_to_coverage/consensustocoverage/trecfiles/Judgement", "<init>", "(Ljava/lang/String;Ljava/lang/String;Ljava/lang/String;I)V"⟩ : MethodName) (head1 (Jvm.Cond.code (⟨"com/example/consensus_to_coverage/consensustocoverage/trecfiles/Judgement", "<init>", "(Ljava/lang/String;Ljava/lang/String;Ljava/lang/String;I)V"⟩ : MethodName) prog_55_method_1_code 5 none :: ws) ({ frames := 1, cells := 0, slots := 0, locals := 13 } : Room)) (fun a U => a = #[(.ref a0_), (.ref a1_), (.ref a2_), (.ref a3_), (.int p4)] ∧ Z.Warmed39 U.vm ∧ U.heap = h0) (fun _ _ _ _ _ => True) (fun _ U o U' => ∃ v L, o = .returned v ∧ Q8 Z a0_ a1_ a2_ a3_ p4 h0 n0 v U'.heap L ∧ FrameEnd U o U' L ({ frames := 1, cells := 0, slots := 0, locals := 13 } : Room).cells ({ frames := 1, cells := 0, slots := 0, locals := 13 } : Room).slots) := by
  refine MetFree.of_bodySF (plainFor_of_name pn_com_example_consensus_to_coverage_consensustocoverage_trecfiles_Judgement) hisR ?_
  intro p e s m args below meth c s₁ Bd hml0 hP hK
  obtain ⟨rfl, hZ, hh⟩ := hP
  have hx := Bd.exec
  have hby := Bd.bytes
  have hml : c.maxLocals = 5 := hml0
  have hown : s.vm.findClass "com/example/consensus_to_coverage/consensustocoverage/trecfiles/Judgement" = some m.cls := findClass_of_methodNamed Bd.named
  have hnm := (name_of_methodNamed Bd.named Bd.method).1
  have X0 : Stand p l e ({ frames := 1, cells := 0, slots := 0, locals := 13 } : Room) s m #[(.ref a0_), (.ref a1_), (.ref a2_), (.ref a3_), (.int p4)] below meth c s₁ [] 0 0 := Stand.of_body Bd
  have e0 : s₁.heap = h0 := by rw [← hh, Bd.state]; rfl
  have N0 := Fr.nil n0
  have pre0 : ∀ t, Steps p.tables e below (s₁.setTop (mkF m 0 #[.val (.ref a0_), .val (.ref a1_), .val (.ref a2_), .val (.ref a3_), .val (.int p4)] [])) t → Steps p.tables e below (s₁.setTop (entryFrame m #[(.ref a0_), (.ref a1_), (.ref a2_), (.ref a3_), (.int p4)] 5)) t := fun t k => castTop (ef_8 m a0_ a1_ a2_ a3_ p4) k
  have K0 := Keep.refl h0 [a0_]
  refine own_start pre0 fun G gs gl => ?_
  show G (s₁.setTop (mkF m 0 #[.val (.ref a0_), .val (.ref a1_), .val (.ref a2_), .val (.ref a3_), .val (.int p4)] []))
  refine gs (fun t k => XS.aloadN X0.here hx rfl (hb hby d8_0) rfl rfl k) ?_
  show G (s₁.setTop (mkF m 1 #[.val (.ref a0_), .val (.ref a1_), .val (.ref a2_), .val (.ref a3_), .val (.int p4)] [(.ref a0_)]))
  obtain ⟨T1, X1, e1, st1⟩ := initO X0 hx hZ hown (hw _ (List.mem_of_getElem? (i := 40) rfl)) (hw _ (List.mem_of_getElem? (i := 16) rfl)) (hw _ (List.mem_of_getElem? (i := 17) rfl)) e0 (g := (mkF m 1 #[.val (.ref a0_), .val (.ref a1_), .val (.ref a2_), .val (.ref a3_), .val (.int p4)] [(.ref a0_)])) rfl (by rw [hml]; rfl) rfl (hb hby d8_1) (by decide) (W := 0) (by show 2 * 0 + _ ≤ _; exact Nat.le_of_eq rfl) (by decide)
  refine gs (fun t k => st1 _ k) ?_
  show G (T1.setTop (mkF m 4 #[.val (.ref a0_), .val (.ref a1_), .val (.ref a2_), .val (.ref a3_), .val (.int p4)] []))
  refine gs (fun t k => XS.aloadN X1.here hx rfl (hb hby d8_4) rfl rfl k) ?_
  show G (T1.setTop (mkF m 5 #[.val (.ref a0_), .val (.ref a1_), .val (.ref a2_), .val (.ref a3_), .val (.int p4)] [(.ref a0_)]))
  refine gs (fun t k => XS.aloadN X1.here hx rfl (hb hby d8_5) rfl rfl k) ?_
  show G (T1.setTop (mkF m 6 #[.val (.ref a0_), .val (.ref a1_), .val (.ref a2_), .val (.ref a3_), .val (.int p4)] [(.ref a1_), (.ref a0_)]))
  obtain ⟨_, _, ⟨T2, L2, k2, n2⟩, -, X2, ⟨Lc2, hQ2, l2, y2, z2⟩, st2⟩ := Jvm.LawKit.callS X1 hx (y := (⟨"java/util/Objects", "requireNonNull", "(Ljava/lang/Object;)Ljava/lang/Object;"⟩ : MethodName)) hown (mvT hZ (hw _ (List.mem_of_getElem? (i := 41) rfl))) (mvT hZ (hw _ (List.mem_of_getElem? (i := 42) rfl))) (mvT hZ (hw _ (List.mem_of_getElem? (i := 43) rfl))) (mvT hZ (hw _ (List.mem_of_getElem? (i := 44) rfl))) (by decide) (backOf (W := 1) (rm9 l Z a0 hw [] a1_ h0 n0 (Nat.le_trans Z0 K0.1)) hZ (hw _ (List.mem_of_getElem? (i := 44) rfl)) (hw _ (List.mem_of_getElem? (i := 43) rfl)) (by decide) (by decide)) (g := (mkF m 6 #[.val (.ref a0_), .val (.ref a1_), .val (.ref a2_), .val (.ref a3_), .val (.int p4)] [(.ref a1_), (.ref a0_)])) rfl (by rw [hml]; rfl) (argsL := [(.ref a1_)]) (rest := [(.ref a0_)]) (lenOf pd_4 rfl) rfl (by show 2 * 0 + _ ≤ _; exact Nat.le_of_eq rfl) (hb hby d8_6) (fun _ _ => ⟨rfl, e1, (by decide : 0 + 0 ≤ _), (by decide : 0 + 0 ≤ _)⟩)
  dsimp only [Pt.U, Pt.locs, Pt.cells, Pt.slots] at X2 l2 y2 z2 st2 hQ2
  subst y2 z2
  obtain ⟨rfl, N2q, e2⟩ := hQ2
  have N2 : Fr n0 L2 := by rw [l2]; exact Fr.app N0 N2q
  refine gs (fun t k => st2 _ k) ?_
  show G (T2.setTop (mkF m 9 #[.val (.ref a0_), .val (.ref a1_), .val (.ref a2_), .val (.ref a3_), .val (.int p4)] [(.ref a1_), (.ref a0_)]))
  obtain ⟨T3, X3, e3, st3⟩ := castY X2 hx hZ hown (hw _ (List.mem_of_getElem? (i := 45) rfl)) e2 (Ins.self E_1) (g := (mkF m 9 #[.val (.ref a0_), .val (.ref a1_), .val (.ref a2_), .val (.ref a3_), .val (.int p4)] [(.ref a1_), (.ref a0_)])) rfl rfl (hb hby d8_9)
  refine gs (fun t k => st3 _ k) ?_
  show G (T3.setTop (mkF m 12 #[.val (.ref a0_), .val (.ref a1_), .val (.ref a2_), .val (.ref a3_), .val (.int p4)] [(.ref a1_), (.ref a0_)]))
  obtain ⟨T4, h4, X4, e4, W4, st4⟩ := putF X3 hx hZ hown (host := "") (Or.inl (hw _ (List.mem_of_getElem? (i := 46) rfl))) Via.refl e3 F_0 E_a (Or.inr ⟨(hw _ (List.mem_of_getElem? (i := 47) rfl)), rfl, hnm⟩) (hw _ (List.mem_of_getElem? (i := 35) rfl)) (ty := (.object "java/lang/String")) (by decide) rfl rfl (g := (mkF m 12 #[.val (.ref a0_), .val (.ref a1_), .val (.ref a2_), .val (.ref a3_), .val (.int p4)] [(.ref a1_), (.ref a0_)])) rfl rfl (hb hby d8_12)
  have E_a_q5 := E_a.wr W4
  have F_0_q6 := F_0.same W4
  have F_1_q7 := F_1.other W4 (Or.inr (slot_ne (Or.inr (hw _ (List.mem_of_getElem? (i := 49) rfl))) (Or.inr (hw _ (List.mem_of_getElem? (i := 47) rfl))) (by decide) (t := (.object "java/lang/String")) (t' := (.object "java/lang/String")) (by decide) (by decide)))
  have F_2_q8 := F_2.other W4 (Or.inr (slot_ne (Or.inr (hw _ (List.mem_of_getElem? (i := 51) rfl))) (Or.inr (hw _ (List.mem_of_getElem? (i := 47) rfl))) (by decide) (t := (.object "java/lang/String")) (t' := (.object "java/lang/String")) (by decide) (by decide)))
  have F_3_q9 := F_3.other W4 (Or.inr (slot_ne (Or.inr (hw _ (List.mem_of_getElem? (i := 53) rfl))) (Or.inr (hw _ (List.mem_of_getElem? (i := 47) rfl))) (by decide) (t := .int) (t' := (.object "java/lang/String")) (by decide) (by decide)))
  have E_1_q10 := E_1.wr W4
  have E_2_q11 := E_2.wr W4
  have E_3_q12 := E_3.wr W4
  have K13 := K0.wr W4 (Or.inl (List.mem_of_getElem? (i := 0) rfl))
  have N4 := Fr.snoc X4 N2 g_a0_
  refine gs (fun t k => st4 _ k) ?_
  show G (T4.setTop (mkF m 15 #[.val (.ref a0_), .val (.ref a1_), .val (.ref a2_), .val (.ref a3_), .val (.int p4)] []))
  refine gs (fun t k => XS.aloadN X4.here hx rfl (hb hby d8_15) rfl rfl k) ?_
  show G (T4.setTop (mkF m 16 #[.val (.ref a0_), .val (.ref a1_), .val (.ref a2_), .val (.ref a3_), .val (.int p4)] [(.ref a0_)]))
  refine gs (fun t k => XS.aloadN X4.here hx rfl (hb hby d8_16) rfl rfl k) ?_
  show G (T4.setTop (mkF m 17 #[.val (.ref a0_), .val (.ref a1_), .val (.ref a2_), .val (.ref a3_), .val (.int p4)] [(.ref a2_), (.ref a0_)]))
  obtain ⟨_, _, ⟨T14, L14, k14, n14⟩, -, X14, ⟨Lc14, hQ14, l14, y14, z14⟩, st14⟩ := Jvm.LawKit.callS X4 hx (y := (⟨"java/util/Objects", "requireNonNull", "(Ljava/lang/Object;)Ljava/lang/Object;"⟩ : MethodName)) hown (mvT hZ (hw _ (List.mem_of_getElem? (i := 41) rfl))) (mvT hZ (hw _ (List.mem_of_getElem? (i := 42) rfl))) (mvT hZ (hw _ (List.mem_of_getElem? (i := 43) rfl))) (mvT hZ (hw _ (List.mem_of_getElem? (i := 44) rfl))) (by decide) (backOf (W := 1) (rm9 l Z a0 hw [] a2_ h4 n0 (Nat.le_trans Z0 K13.1)) hZ (hw _ (List.mem_of_getElem? (i := 44) rfl)) (hw _ (List.mem_of_getElem? (i := 43) rfl)) (by decide) (by decide)) (g := (mkF m 17 #[.val (.ref a0_), .val (.ref a1_), .val (.ref a2_), .val (.ref a3_), .val (.int p4)] [(.ref a2_), (.ref a0_)])) rfl (by rw [hml]; rfl) (argsL := [(.ref a2_)]) (rest := [(.ref a0_)]) (lenOf pd_4 rfl) rfl (by show 2 * 0 + _ ≤ _; exact Nat.le_of_eq rfl) (hb hby d8_17) (fun _ _ => ⟨rfl, e4, (by decide : 0 + 0 ≤ _), (by decide : 0 + 0 ≤ _)⟩)
  dsimp only [Pt.U, Pt.locs, Pt.cells, Pt.slots] at X14 l14 y14 z14 st14 hQ14
  subst y14 z14
  obtain ⟨rfl, N14q, e14⟩ := hQ14
  have N14 : Fr n0 L14 := by rw [l14]; exact Fr.app N4 N14q
  refine gs (fun t k => st14 _ k) ?_
  show G (T14.setTop (mkF m 20 #[.val (.ref a0_), .val (.ref a1_), .val (.ref a2_), .val (.ref a3_), .val (.int p4)] [(.ref a2_), (.ref a0_)]))
  obtain ⟨T15, X15, e15, st15⟩ := castY X14 hx hZ hown (hw _ (List.mem_of_getElem? (i := 45) rfl)) e14 (Ins.self E_2_q11) (g := (mkF m 20 #[.val (.ref a0_), .val (.ref a1_), .val (.ref a2_), .val (.ref a3_), .val (.int p4)] [(.ref a2_), (.ref a0_)])) rfl rfl (hb hby d8_20)
  refine gs (fun t k => st15 _ k) ?_
  show G (T15.setTop (mkF m 23 #[.val (.ref a0_), .val (.ref a1_), .val (.ref a2_), .val (.ref a3_), .val (.int p4)] [(.ref a2_), (.ref a0_)]))
  obtain ⟨T16, h16, X16, e16, W16, st16⟩ := putF X15 hx hZ hown (host := "") (Or.inl (hw _ (List.mem_of_getElem? (i := 48) rfl))) Via.refl e15 F_1_q7 E_a_q5 (Or.inr ⟨(hw _ (List.mem_of_getElem? (i := 49) rfl)), rfl, hnm⟩) (hw _ (List.mem_of_getElem? (i := 35) rfl)) (ty := (.object "java/lang/String")) (by decide) rfl rfl (g := (mkF m 23 #[.val (.ref a0_), .val (.ref a1_), .val (.ref a2_), .val (.ref a3_), .val (.int p4)] [(.ref a2_), (.ref a0_)])) rfl rfl (hb hby d8_23)
  have E_a_q17 := E_a_q5.wr W16
  have F_0_q18 := F_0_q6.other W16 (Or.inr (slot_ne (Or.inr (hw _ (List.mem_of_getElem? (i := 47) rfl))) (Or.inr (hw _ (List.mem_of_getElem? (i := 49) rfl))) (by decide) (t := (.object "java/lang/String")) (t' := (.object "java/lang/String")) (by decide) (by decide)))
  have F_1_q19 := F_1_q7.same W16
  have F_2_q20 := F_2_q8.other W16 (Or.inr (slot_ne (Or.inr (hw _ (List.mem_of_getElem? (i := 51) rfl))) (Or.inr (hw _ (List.mem_of_getElem? (i := 49) rfl))) (by decide) (t := (.object "java/lang/String")) (t' := (.object "java/lang/String")) (by decide) (by decide)))
  have F_3_q21 := F_3_q9.other W16 (Or.inr (slot_ne (Or.inr (hw _ (List.mem_of_getElem? (i := 53) rfl))) (Or.inr (hw _ (List.mem_of_getElem? (i := 49) rfl))) (by decide) (t := .int) (t' := (.object "java/lang/String")) (by decide) (by decide)))
  have E_1_q22 := E_1_q10.wr W16
  have E_2_q23 := E_2_q11.wr W16
  have E_3_q24 := E_3_q12.wr W16
  have K25 := K13.wr W16 (Or.inl (List.mem_of_getElem? (i := 0) rfl))
  have N16 := Fr.snoc X16 N14 g_a0_
  refine gs (fun t k => st16 _ k) ?_
  show G (T16.setTop (mkF m 26 #[.val (.ref a0_), .val (.ref a1_), .val (.ref a2_), .val (.ref a3_), .val (.int p4)] []))
  refine gs (fun t k => XS.aloadN X16.here hx rfl (hb hby d8_26) rfl rfl k) ?_
  show G (T16.setTop (mkF m 27 #[.val (.ref a0_), .val (.ref a1_), .val (.ref a2_), .val (.ref a3_), .val (.int p4)] [(.ref a0_)]))
  refine gs (fun t k => XS.aloadN X16.here hx rfl (hb hby d8_27) rfl rfl k) ?_
  show G (T16.setTop (mkF m 28 #[.val (.ref a0_), .val (.ref a1_), .val (.ref a2_), .val (.ref a3_), .val (.int p4)] [(.ref a3_), (.ref a0_)]))
  obtain ⟨_, _, ⟨T26, L26, k26, n26⟩, -, X26, ⟨Lc26, hQ26, l26, y26, z26⟩, st26⟩ := Jvm.LawKit.callS X16 hx (y := (⟨"java/util/Objects", "requireNonNull", "(Ljava/lang/Object;)Ljava/lang/Object;"⟩ : MethodName)) hown (mvT hZ (hw _ (List.mem_of_getElem? (i := 41) rfl))) (mvT hZ (hw _ (List.mem_of_getElem? (i := 42) rfl))) (mvT hZ (hw _ (List.mem_of_getElem? (i := 43) rfl))) (mvT hZ (hw _ (List.mem_of_getElem? (i := 44) rfl))) (by decide) (backOf (W := 1) (rm9 l Z a0 hw [] a3_ h16 n0 (Nat.le_trans Z0 K25.1)) hZ (hw _ (List.mem_of_getElem? (i := 44) rfl)) (hw _ (List.mem_of_getElem? (i := 43) rfl)) (by decide) (by decide)) (g := (mkF m 28 #[.val (.ref a0_), .val (.ref a1_), .val (.ref a2_), .val (.ref a3_), .val (.int p4)] [(.ref a3_), (.ref a0_)])) rfl (by rw [hml]; rfl) (argsL := [(.ref a3_)]) (rest := [(.ref a0_)]) (lenOf pd_4 rfl) rfl (by show 2 * 0 + _ ≤ _; exact Nat.le_of_eq rfl) (hb hby d8_28) (fun _ _ => ⟨rfl, e16, (by decide : 0 + 0 ≤ _), (by decide : 0 + 0 ≤ _)⟩)
  dsimp only [Pt.U, Pt.locs, Pt.cells, Pt.slots] at X26 l26 y26 z26 st26 hQ26
  subst y26 z26
  obtain ⟨rfl, N26q, e26⟩ := hQ26
  have N26 : Fr n0 L26 := by rw [l26]; exact Fr.app N16 N26q
  refine gs (fun t k => st26 _ k) ?_
  show G (T26.setTop (mkF m 31 #[.val (.ref a0_), .val (.ref a1_), .val (.ref a2_), .val (.ref a3_), .val (.int p4)] [(.ref a3_), (.ref a0_)]))
  obtain ⟨T27, X27, e27, st27⟩ := castY X26 hx hZ hown (hw _ (List.mem_of_getElem? (i := 45) rfl)) e26 (Ins.self E_3_q24) (g := (mkF m 31 #[.val (.ref a0_), .val (.ref a1_), .val (.ref a2_), .val (.ref a3_), .val (.int p4)] [(.ref a3_), (.ref a0_)])) rfl rfl (hb hby d8_31)
  refine gs (fun t k => st27 _ k) ?_
  show G (T27.setTop (mkF m 34 #[.val (.ref a0_), .val (.ref a1_), .val (.ref a2_), .val (.ref a3_), .val (.int p4)] [(.ref a3_), (.ref a0_)]))
  obtain ⟨T28, h28, X28, e28, W28, st28⟩ := putF X27 hx hZ hown (host := "") (Or.inl (hw _ (List.mem_of_getElem? (i := 50) rfl))) Via.refl e27 F_2_q20 E_a_q17 (Or.inr ⟨(hw _ (List.mem_of_getElem? (i := 51) rfl)), rfl, hnm⟩) (hw _ (List.mem_of_getElem? (i := 35) rfl)) (ty := (.object "java/lang/String")) (by decide) rfl rfl (g := (mkF m 34 #[.val (.ref a0_), .val (.ref a1_), .val (.ref a2_), .val (.ref a3_), .val (.int p4)] [(.ref a3_), (.ref a0_)])) rfl rfl (hb hby d8_34)
  have E_a_q29 := E_a_q17.wr W28
  have F_0_q30 := F_0_q18.other W28 (Or.inr (slot_ne (Or.inr (hw _ (List.mem_of_getElem? (i := 47) rfl))) (Or.inr (hw _ (List.mem_of_getElem? (i := 51) rfl))) (by decide) (t := (.object "java/lang/String")) (t' := (.object "java/lang/String")) (by decide) (by decide)))
  have F_1_q31 := F_1_q19.other W28 (Or.inr (slot_ne (Or.inr (hw _ (List.mem_of_getElem? (i := 49) rfl))) (Or.inr (hw _ (List.mem_of_getElem? (i := 51) rfl))) (by decide) (t := (.object "java/lang/String")) (t' := (.object "java/lang/String")) (by decide) (by decide)))
  have F_2_q32 := F_2_q20.same W28
  have F_3_q33 := F_3_q21.other W28 (Or.inr (slot_ne (Or.inr (hw _ (List.mem_of_getElem? (i := 53) rfl))) (Or.inr (hw _ (List.mem_of_getElem? (i := 51) rfl))) (by decide) (t := .int) (t' := (.object "java/lang/String")) (by decide) (by decide)))
  have E_1_q34 := E_1_q22.wr W28
  have E_2_q35 := E_2_q23.wr W28
  have E_3_q36 := E_3_q24.wr W28
  have K37 := K25.wr W28 (Or.inl (List.mem_of_getElem? (i := 0) rfl))
  have N28 := Fr.snoc X28 N26 g_a0_
  refine gs (fun t k => st28 _ k) ?_
  show G (T28.setTop (mkF m 37 #[.val (.ref a0_), .val (.ref a1_), .val (.ref a2_), .val (.ref a3_), .val (.int p4)] []))
  refine gs (fun t k => XS.aloadN X28.here hx rfl (hb hby d8_37) rfl rfl k) ?_
  show G (T28.setTop (mkF m 38 #[.val (.ref a0_), .val (.ref a1_), .val (.ref a2_), .val (.ref a3_), .val (.int p4)] [(.ref a0_)]))
  refine gs (fun t k => XS.iload X28.here hx rfl (hb hby d8_38) rfl k) ?_
  show G (T28.setTop (mkF m 40 #[.val (.ref a0_), .val (.ref a1_), .val (.ref a2_), .val (.ref a3_), .val (.int p4)] [(.int p4), (.ref a0_)]))
  obtain ⟨T38, h38, X38, e38, W38, st38⟩ := putF X28 hx hZ hown (host := "") (Or.inl (hw _ (List.mem_of_getElem? (i := 52) rfl))) Via.refl e28 F_3_q33 E_a_q29 (Or.inr ⟨(hw _ (List.mem_of_getElem? (i := 53) rfl)), rfl, hnm⟩) (hw _ (List.mem_of_getElem? (i := 35) rfl)) (ty := .int) (by decide) rfl rfl (g := (mkF m 40 #[.val (.ref a0_), .val (.ref a1_), .val (.ref a2_), .val (.ref a3_), .val (.int p4)] [(.int p4), (.ref a0_)])) rfl rfl (hb hby d8_40)
  have E_a_q39 := E_a_q29.wr W38
  have F_0_q40 := F_0_q30.other W38 (Or.inr (slot_ne (Or.inr (hw _ (List.mem_of_getElem? (i := 47) rfl))) (Or.inr (hw _ (List.mem_of_getElem? (i := 53) rfl))) (by decide) (t := (.object "java/lang/String")) (t' := .int) (by decide) (by decide)))
  have F_1_q41 := F_1_q31.other W38 (Or.inr (slot_ne (Or.inr (hw _ (List.mem_of_getElem? (i := 49) rfl))) (Or.inr (hw _ (List.mem_of_getElem? (i := 53) rfl))) (by decide) (t := (.object "java/lang/String")) (t' := .int) (by decide) (by decide)))
  have F_2_q42 := F_2_q32.other W38 (Or.inr (slot_ne (Or.inr (hw _ (List.mem_of_getElem? (i := 51) rfl))) (Or.inr (hw _ (List.mem_of_getElem? (i := 53) rfl))) (by decide) (t := (.object "java/lang/String")) (t' := .int) (by decide) (by decide)))
  have F_3_q43 := F_3_q33.same W38
  have E_1_q44 := E_1_q34.wr W38
  have E_2_q45 := E_2_q35.wr W38
  have E_3_q46 := E_3_q36.wr W38
  have K47 := K37.wr W38 (Or.inl (List.mem_of_getElem? (i := 0) rfl))
  have N38 := Fr.snoc X38 N28 g_a0_
  refine gs (fun t k => st38 _ k) ?_
  show G (T38.setTop (mkF m 43 #[.val (.ref a0_), .val (.ref a1_), .val (.ref a2_), .val (.ref a3_), .val (.int p4)] []))
  obtain ⟨fs, hr, hrun, hended, hW, hsame⟩ := X38.leave (v := none) (fun _ => rfl)
  refine gl _ ⟨_, _, X38.returnOut hx Bd.returns (hb hby d8_43) hr, hrun, hended, _, _, rfl, ?_, ⟨_, rfl⟩, hW, hsame.mono (by decide) (by decide)⟩
  show Q8 Z a0_ a1_ a2_ a3_ p4 h0 n0 _ T38.heap _
  rw [e38]
  exact ⟨rfl, N38, K47, E_a_q39, F_0_q40, F_1_q41, F_2_q42, F_3_q43⟩
theorem pd_5 : parseMethodDescriptor "([C)V" = some ⟨[(.array .char)], none⟩ := by decide +kernel
theorem d1_0 : decode method_2_code 0 = .ok (.iconst 2, 1) := by decide +kernel
theorem d1_1 : decode method_2_code 1 = .ok (.newarray .char, 2) := by decide +kernel
theorem d1_3 : decode method_2_code 3 = .ok (.astore_n 2, 1) := by decide +kernel
theorem d1_4 : decode method_2_code 4 = .ok (.aload_n 2, 1) := by decide +kernel
theorem d1_5 : decode method_2_code 5 = .ok (.iconst 0, 1) := by decide +kernel
theorem d1_6 : decode method_2_code 6 = .ok (.iload_n 0, 1) := by decide +kernel
theorem d1_7 : decode method_2_code 7 = .ok (.iload_n 1, 1) := by decide +kernel
theorem d1_8 : decode method_2_code 8 = .ok (.iushr, 1) := by decide +kernel
theorem d1_9 : decode method_2_code 9 = .ok (.sipush 255, 3) := by decide +kernel
theorem d1_12 : decode method_2_code 12 = .ok (.iand, 1) := by decide +kernel
theorem d1_13 : decode method_2_code 13 = .ok (.i2c, 1) := by decide +kernel
theorem d1_14 : decode method_2_code 14 = .ok (.castore, 1) := by decide +kernel
theorem d1_15 : decode method_2_code 15 = .ok (.aload_n 2, 1) := by decide +kernel
theorem d1_16 : decode method_2_code 16 = .ok (.iconst 1, 1) := by decide +kernel
theorem d1_17 : decode method_2_code 17 = .ok (.iload_n 0, 1) := by decide +kernel
theorem d1_18 : decode method_2_code 18 = .ok (.iload_n 1, 1) := by decide +kernel
theorem d1_19 : decode method_2_code 19 = .ok (.bipush 8, 2) := by decide +kernel
theorem d1_21 : decode method_2_code 21 = .ok (.iadd, 1) := by decide +kernel
theorem d1_22 : decode method_2_code 22 = .ok (.iushr, 1) := by decide +kernel
theorem d1_23 : decode method_2_code 23 = .ok (.sipush 255, 3) := by decide +kernel
theorem d1_26 : decode method_2_code 26 = .ok (.iand, 1) := by decide +kernel
theorem d1_27 : decode method_2_code 27 = .ok (.i2c, 1) := by decide +kernel
theorem d1_28 : decode method_2_code 28 = .ok (.castore, 1) := by decide +kernel
theorem d1_29 : decode method_2_code 29 = .ok (.new 7, 3) := by decide +kernel
theorem d1_32 : decode method_2_code 32 = .ok (.dup, 1) := by decide +kernel
theorem d1_33 : decode method_2_code 33 = .ok (.aload_n 2, 1) := by decide +kernel
theorem d1_34 : decode method_2_code 34 = .ok (.invokespecial 9, 3) := by decide +kernel
theorem d1_37 : decode method_2_code 37 = .ok (.areturn, 1) := by decide +kernel
theorem pn_com_example_consensus_to_coverage_consensustocoverage_trecfiles_JudgementIsRelevantPinLaw : plainName "com/example/consensus_to_coverage/consensustocoverage/trecfiles/JudgementIsRelevantPinLaw" = true := by first | (simp [plainName, overriddenIn]; done) | decide +kernel
theorem ef_1 (m : MethodId) (p0 : Int32) (p1 : Int32) : entryFrame m #[(.int p0), (.int p1)] 3 = mkF m 0 #[.val (.int p0), .val (.int p1), .unset] [] := by first | (simp [entryFrame, mkF, argsToLocals, Value.category]; done) | rfl
def Q1 (Z : State) (h0 : Heap) (n0 : Nat) (v : Option Value) (h : Heap) (L : List Loc) : Prop := ∃ b : Addr, v = some (.ref b) ∧ Fr n0 L ∧ Keep h0 h [] ∧ Exa Z h b "java/lang/String"
set_option maxRecDepth 65536 in
set_option maxHeartbeats 40000000 in
theorem rm1 (l : Launch) (Z : State) (a0 : Array Value) (hw : ∀ d ∈ tables_1, d.before a0 Z = true) (ws : List Jvm.Cond) (p0 : Int32) (p1 : Int32) (cs : Int32) (h0 : Heap) (n0 : Nat) (Z0 : n0 ≤ h0.size) (SC : Sta Z h0 "java/lang/String" "COMPACT_STRINGS" "Z" (.int cs)) (hcs : ¬ cs = (0 : Int32)) :
    MetFree l (⟨"com/example/consensus_to_coverage/consensustocoverage/trecfiles/JudgementIsRelevantPinLaw", "str", "(II)Ljava/lang/String;"⟩ : MethodName) (head1 (Jvm.Cond.code (⟨"com/example/consensus_to_coverage/consensustocoverage/trecfiles/JudgementIsRelevantPinLaw", "str", "(II)Ljava/lang/String;"⟩ : MethodName) method_2_code 3 (some (.object "java/lang/String")) :: ws) ({ frames := 4, cells := 3, slots := 8, locals := 66 } : Room)) (fun a U => a = #[(.int p0), (.int p1)] ∧ Z.Warmed39 U.vm ∧ U.heap = h0) (fun _ _ _ _ _ => True) (fun _ U o U' => ∃ v L, o = .returned v ∧ Q1 Z h0 n0 v U'.heap L ∧ FrameEnd U o U' L ({ frames := 4, cells := 3, slots := 8, locals := 66 } : Room).cells ({ frames := 4, cells := 3, slots := 8, locals := 66 } : Room).slots) := by
  refine MetFree.of_bodySF (plainFor_of_name pn_com_example_consensus_to_coverage_consensustocoverage_trecfiles_JudgementIsRelevantPinLaw) hisR ?_
  intro p e s m args below meth c s₁ Bd hml0 hP hK
  obtain ⟨rfl, hZ, hh⟩ := hP
  have hx := Bd.exec
  have hby := Bd.bytes
  have hml : c.maxLocals = 3 := hml0
  have hown : s.vm.findClass "com/example/consensus_to_coverage/consensustocoverage/trecfiles/JudgementIsRelevantPinLaw" = some m.cls := findClass_of_methodNamed Bd.named
  have hnm := (name_of_methodNamed Bd.named Bd.method).1
  have X0 : Stand p l e ({ frames := 4, cells := 3, slots := 8, locals := 66 } : Room) s m #[(.int p0), (.int p1)] below meth c s₁ [] 0 0 := Stand.of_body Bd
  have e0 : s₁.heap = h0 := by rw [← hh, Bd.state]; rfl
  have N0 := Fr.nil n0
  have pre0 : ∀ t, Steps p.tables e below (s₁.setTop (mkF m 0 #[.val (.int p0), .val (.int p1), .unset] [])) t → Steps p.tables e below (s₁.setTop (entryFrame m #[(.int p0), (.int p1)] 3)) t := fun t k => castTop (ef_1 m p0 p1) k
  have K0 := Keep.refl h0 []
  refine own_start pre0 fun G gs gl => ?_
  show G (s₁.setTop (mkF m 0 #[.val (.int p0), .val (.int p1), .unset] []))
  refine gs (fun t k => XS.iconst X0.here hx rfl (hb hby d1_0) k) ?_
  show G (s₁.setTop (mkF m 1 #[.val (.int p0), .val (.int p1), .unset] [(.int (2 : Int32))]))
  obtain ⟨T1, h1, k1, X1, e1, E1, A1, st1⟩ := newP X0 hx hZ (hw _ (List.mem_of_getElem? (i := 4) rfl)) e0 (g := (mkF m 1 #[.val (.int p0), .val (.int p1), .unset] [(.int (2 : Int32))])) rfl (hb hby d1_1) rfl (by decide) (cap := 2) (by decide) (by decide) (by decide) (by decide)
  obtain ⟨b1, g1⟩ : ∃ z, z = h0.size := ⟨_, rfl⟩
  rw [← g1] at A1 st1
  have sz_b1 : h0.size ≤ b1 := Nat.le_trans K0.1 (Nat.le_of_eq g1.symm)
  have g_b1 : n0 ≤ b1 := Nat.le_trans Z0 sz_b1
  have SC_q2 := SC.ext E1
  have K3 := K0.ext E1
  have V_b1 : Arv Z h1 b1 k1 .char (2 : Int32) [(.int (0 : Int32)), (.int (0 : Int32))] (.int (0 : Int32)) := (Arv.new A1 (by decide)).pad (pad_rep [] (.int (0 : Int32)) 2)
  refine gs (fun t k => st1 _ k) ?_
  show G (T1.setTop (mkF m 3 #[.val (.int p0), .val (.int p1), .unset] [(.ref b1)]))
  refine gs (fun t k => XS.astoreN X1.here hx rfl (hb hby d1_3) rfl rfl (l' := #[.val (.int p0), .val (.int p1), .val (.ref b1)]) rfl k) ?_
  show G (T1.setTop (mkF m 4 #[.val (.int p0), .val (.int p1), .val (.ref b1)] []))
  refine gs (fun t k => XS.aloadN X1.here hx rfl (hb hby d1_4) rfl rfl k) ?_
  show G (T1.setTop (mkF m 5 #[.val (.int p0), .val (.int p1), .val (.ref b1)] [(.ref b1)]))
  refine gs (fun t k => XS.iconst X1.here hx rfl (hb hby d1_5) k) ?_
  show G (T1.setTop (mkF m 6 #[.val (.int p0), .val (.int p1), .val (.ref b1)] [(.int (0 : Int32)), (.ref b1)]))
  refine gs (fun t k => XS.iloadN X1.here hx rfl (hb hby d1_6) rfl k) ?_
  show G (T1.setTop (mkF m 7 #[.val (.int p0), .val (.int p1), .val (.ref b1)] [(.int p0), (.int (0 : Int32)), (.ref b1)]))
  refine gs (fun t k => XS.iloadN X1.here hx rfl (hb hby d1_7) rfl k) ?_
  show G (T1.setTop (mkF m 8 #[.val (.int p0), .val (.int p1), .val (.ref b1)] [(.int p1), (.int p0), (.int (0 : Int32)), (.ref b1)]))
  refine gs (fun t k => XS.iushr X1.here hx rfl (hb hby d1_8) rfl k) ?_
  show G (T1.setTop (mkF m 9 #[.val (.int p0), .val (.int p1), .val (.ref b1)] [(.int ((p0.toUInt32 >>> (p1 &&& 31).toUInt32).toInt32)), (.int (0 : Int32)), (.ref b1)]))
  refine gs (fun t k => XS.sipush X1.here hx rfl (hb hby d1_9) k) ?_
  show G (T1.setTop (mkF m 12 #[.val (.int p0), .val (.int p1), .val (.ref b1)] [(.int (255 : Int32)), (.int ((p0.toUInt32 >>> (p1 &&& 31).toUInt32).toInt32)), (.int (0 : Int32)), (.ref b1)]))
  refine gs (fun t k => XS.iand X1.here hx rfl (hb hby d1_12) rfl k) ?_
  show G (T1.setTop (mkF m 13 #[.val (.int p0), .val (.int p1), .val (.ref b1)] [(.int (((p0.toUInt32 >>> (p1 &&& 31).toUInt32).toInt32) &&& (255 : Int32))), (.int (0 : Int32)), (.ref b1)]))
  refine gs (fun t k => XS.i2c X1.here hx rfl (hb hby d1_13) rfl k) ?_
  show G (T1.setTop (mkF m 14 #[.val (.int p0), .val (.int p1), .val (.ref b1)] [(.int ((((p0.toUInt32 >>> (p1 &&& 31).toUInt32).toInt32) &&& (255 : Int32)).toUInt32.toUInt16.toUInt32.toInt32)), (.int (0 : Int32)), (.ref b1)]))
  obtain ⟨v1, hv1⟩ : ∃ z : Int32, z = ((((p0.toUInt32 >>> (p1 &&& 31).toUInt32).toInt32) &&& (255 : Int32)).toUInt32.toUInt16.toUInt32.toInt32) := ⟨_, rfl⟩
  rw [← hv1]
  show G (T1.setTop (mkF m 14 #[.val (.int p0), .val (.int p1), .val (.ref b1)] [(.int v1), (.int (0 : Int32)), (.ref b1)]))
  have r1 := own_chr hv1
  obtain ⟨vc4, vA4, vq4, vS4, vN4, vH4, vG4⟩ := V_b1
  have hin4 : ¬ ((0 : Int32) < 0 ∨ vc4.slots.size ≤ ((0 : Int32)).toNatClampNeg) := inb_of vS4 ⟨by decide, by decide⟩
  obtain ⟨T4, h4, X4, e4, W4, st4⟩ := stC X1 hx hZ e1 vA4 (j := (0 : Int32)) hin4 (g := (mkF m 14 #[.val (.int p0), .val (.int p1), .val (.ref b1)] [(.int v1), (.int (0 : Int32)), (.ref b1)])) rfl rfl (hb hby d1_14)
  have SC_q5 := SC_q2.wr W4
  have K6 := K3.wr W4 (Or.inr sz_b1)
  have V_b1_q4 := Arv.set vA4 vq4 vS4 vN4 vH4 vG4 (fits_nar_char _) W4 0 rfl (Nat.le_of_ble_eq_true rfl)
  have N4 := Fr.snoc X4 N0 g_b1
  refine gs (fun t k => st4 _ k) ?_
  show G (T4.setTop (mkF m 15 #[.val (.int p0), .val (.int p1), .val (.ref b1)] []))
  refine gs (fun t k => XS.aloadN X4.here hx rfl (hb hby d1_15) rfl rfl k) ?_
  show G (T4.setTop (mkF m 16 #[.val (.int p0), .val (.int p1), .val (.ref b1)] [(.ref b1)]))
  refine gs (fun t k => XS.iconst X4.here hx rfl (hb hby d1_16) k) ?_
  show G (T4.setTop (mkF m 17 #[.val (.int p0), .val (.int p1), .val (.ref b1)] [(.int (1 : Int32)), (.ref b1)]))
  refine gs (fun t k => XS.iloadN X4.here hx rfl (hb hby d1_17) rfl k) ?_
  show G (T4.setTop (mkF m 18 #[.val (.int p0), .val (.int p1), .val (.ref b1)] [(.int p0), (.int (1 : Int32)), (.ref b1)]))
  refine gs (fun t k => XS.iloadN X4.here hx rfl (hb hby d1_18) rfl k) ?_
  show G (T4.setTop (mkF m 19 #[.val (.int p0), .val (.int p1), .val (.ref b1)] [(.int p1), (.int p0), (.int (1 : Int32)), (.ref b1)]))
  refine gs (fun t k => XS.bipush X4.here hx rfl (hb hby d1_19) k) ?_
  show G (T4.setTop (mkF m 21 #[.val (.int p0), .val (.int p1), .val (.ref b1)] [(.int (8 : Int32)), (.int p1), (.int p0), (.int (1 : Int32)), (.ref b1)]))
  refine gs (fun t k => XS.iadd X4.here hx rfl (hb hby d1_21) rfl k) ?_
  show G (T4.setTop (mkF m 22 #[.val (.int p0), .val (.int p1), .val (.ref b1)] [(.int (p1 + (8 : Int32))), (.int p0), (.int (1 : Int32)), (.ref b1)]))
  refine gs (fun t k => XS.iushr X4.here hx rfl (hb hby d1_22) rfl k) ?_
  show G (T4.setTop (mkF m 23 #[.val (.int p0), .val (.int p1), .val (.ref b1)] [(.int ((p0.toUInt32 >>> ((p1 + (8 : Int32)) &&& 31).toUInt32).toInt32)), (.int (1 : Int32)), (.ref b1)]))
  refine gs (fun t k => XS.sipush X4.here hx rfl (hb hby d1_23) k) ?_
  show G (T4.setTop (mkF m 26 #[.val (.int p0), .val (.int p1), .val (.ref b1)] [(.int (255 : Int32)), (.int ((p0.toUInt32 >>> ((p1 + (8 : Int32)) &&& 31).toUInt32).toInt32)), (.int (1 : Int32)), (.ref b1)]))
  refine gs (fun t k => XS.iand X4.here hx rfl (hb hby d1_26) rfl k) ?_
  show G (T4.setTop (mkF m 27 #[.val (.int p0), .val (.int p1), .val (.ref b1)] [(.int (((p0.toUInt32 >>> ((p1 + (8 : Int32)) &&& 31).toUInt32).toInt32) &&& (255 : Int32))), (.int (1 : Int32)), (.ref b1)]))
  refine gs (fun t k => XS.i2c X4.here hx rfl (hb hby d1_27) rfl k) ?_
  show G (T4.setTop (mkF m 28 #[.val (.int p0), .val (.int p1), .val (.ref b1)] [(.int ((((p0.toUInt32 >>> ((p1 + (8 : Int32)) &&& 31).toUInt32).toInt32) &&& (255 : Int32)).toUInt32.toUInt16.toUInt32.toInt32)), (.int (1 : Int32)), (.ref b1)]))
  obtain ⟨v2, hv2⟩ : ∃ z : Int32, z = ((((p0.toUInt32 >>> ((p1 + (8 : Int32)) &&& 31).toUInt32).toInt32) &&& (255 : Int32)).toUInt32.toUInt16.toUInt32.toInt32) := ⟨_, rfl⟩
  rw [← hv2]
  show G (T4.setTop (mkF m 28 #[.val (.int p0), .val (.int p1), .val (.ref b1)] [(.int v2), (.int (1 : Int32)), (.ref b1)]))
  have r2 := own_chr hv2
  obtain ⟨vc7, vA7, vq7, vS7, vN7, vH7, vG7⟩ := V_b1_q4
  have hin7 : ¬ ((1 : Int32) < 0 ∨ vc7.slots.size ≤ ((1 : Int32)).toNatClampNeg) := inb_of vS7 ⟨by decide, by decide⟩
  obtain ⟨T7, h7, X7, e7, W7, st7⟩ := stC X4 hx hZ e4 vA7 (j := (1 : Int32)) hin7 (g := (mkF m 28 #[.val (.int p0), .val (.int p1), .val (.ref b1)] [(.int v2), (.int (1 : Int32)), (.ref b1)])) rfl rfl (hb hby d1_28)
  have SC_q8 := SC_q5.wr W7
  have K9 := K6.wr W7 (Or.inr sz_b1)
  have V_b1_q7 := Arv.set vA7 vq7 vS7 vN7 vH7 vG7 (fits_nar_char _) W7 1 rfl (Nat.le_of_ble_eq_true rfl)
  have N7 := Fr.snoc X7 N4 g_b1
  refine gs (fun t k => st7 _ k) ?_
  show G (T7.setTop (mkF m 29 #[.val (.int p0), .val (.int p1), .val (.ref b1)] []))
  obtain ⟨T10, h10, X10, e10, E10, A10, D10, -, st10⟩ := newO X7 hx hZ hown (hw _ (List.mem_of_getElem? (i := 5) rfl)) (hw _ (List.mem_of_getElem? (i := 6) rfl)) (hw _ (List.mem_of_getElem? (i := 7) rfl)) e7 (g := (mkF m 29 #[.val (.int p0), .val (.int p1), .val (.ref b1)] [])) rfl (hb hby d1_29) (by decide) (by decide)
  obtain ⟨b10, g10⟩ : ∃ z, z = h7.size := ⟨_, rfl⟩
  rw [← g10] at A10 D10 st10
  have sz_b10 : h0.size ≤ b10 := Nat.le_trans K9.1 (Nat.le_of_eq g10.symm)
  have g_b10 : n0 ≤ b10 := Nat.le_trans Z0 sz_b10
  have ne_b1_b10 : b1 ≠ b10 := Nat.ne_of_lt (Nat.lt_of_lt_of_le V_b1_q7.lt (Nat.le_of_eq g10.symm))
  have SC_q11 := SC_q8.ext E10
  have V_b1_q12 := V_b1_q7.ext E10
  have K13 := K9.ext E10
  have E_b10 := A10
  have F_coder_b10 : Fld Z h10 b10 "java/lang/String" "coder" "B" (.int (0 : Int32)) := D10 (Or.inr (hw _ (List.mem_of_getElem? (i := 31) rfl))) (ty := .byte) (by decide)
  have F_value_b10 : Fld Z h10 b10 "java/lang/String" "value" "[B" .null := D10 (Or.inr (hw _ (List.mem_of_getElem? (i := 33) rfl))) (ty := (.array .byte)) (by decide)
  refine gs (fun t k => st10 _ k) ?_
  show G (T10.setTop (mkF m 32 #[.val (.int p0), .val (.int p1), .val (.ref b1)] [(.ref b10)]))
  refine gs (fun t k => XS.dup X10.here hx rfl (hb hby d1_32) rfl rfl k) ?_
  show G (T10.setTop (mkF m 33 #[.val (.int p0), .val (.int p1), .val (.ref b1)] [(.ref b10), (.ref b10)]))
  refine gs (fun t k => XS.aloadN X10.here hx rfl (hb hby d1_33) rfl rfl k) ?_
  show G (T10.setTop (mkF m 34 #[.val (.int p0), .val (.int p1), .val (.ref b1)] [(.ref b1), (.ref b10), (.ref b10)]))
  obtain ⟨_, _, ⟨T14, L14, k14, n14⟩, -, X14, ⟨Lc14, hQ14, l14, y14, z14⟩, st14⟩ := X10.specialBack hx (y := (⟨"java/lang/String", "<init>", "([C)V"⟩ : MethodName)) rfl hown (mvT hZ (hw _ (List.mem_of_getElem? (i := 8) rfl))) (mvT hZ (hw _ (List.mem_of_getElem? (i := 9) rfl))) (mvT hZ (hw _ (List.mem_of_getElem? (i := 10) rfl))) (by decide) (backOf (W := 1) (rm2 l Z a0 hw [] b10 b1 _ _ _ cs h10 n0 (Nat.le_trans Z0 K13.1) E_b10 F_value_b10 F_coder_b10 g_b10 V_b1_q12 (own_nar r1) (own_nar r2) SC_q11 hcs) hZ (hw _ (List.mem_of_getElem? (i := 10) rfl)) (hw _ (List.mem_of_getElem? (i := 7) rfl)) (by decide) (by decide)) (g := (mkF m 34 #[.val (.int p0), .val (.int p1), .val (.ref b1)] [(.ref b1), (.ref b10), (.ref b10)])) rfl (by rw [hml]; rfl) (Steps.refl _) (a := b10) (argsL := [(.ref b1)]) (rest := [(.ref b10)]) (lenOf pd_5 rfl) rfl (by show 2 * 0 + _ ≤ _; exact Nat.le_of_eq rfl) (hb hby d1_34) (fun _ _ => ⟨rfl, e10, (by decide : 2 + 1 ≤ _), (by decide : 6 + 2 ≤ _)⟩)
  dsimp only [Pt.U, Pt.locs, Pt.cells, Pt.slots] at X14 l14 y14 z14 st14 hQ14
  subst y14 z14
  obtain ⟨rfl, N14q, Kc14, Ex14, -⟩ := hQ14
  have N14 : Fr n0 L14 := by rw [l14]; exact Fr.app N7 N14q
  refine gs (fun t k => st14.trans k) ?_
  have K14z := K13.trans Kc14 (allS (Or.inr sz_b10) all0)
  show G (T14.setTop (mkF m 37 #[.val (.int p0), .val (.int p1), .val (.ref b1)] [(.ref b10)]))
  obtain ⟨fs, hr, hrun, hended, hW, hsame⟩ := X14.leave (v := some (.ref b10)) (fun h => by rw [Bd.returns] at h; cases h)
  refine gl _ ⟨_, _, retOut X14 hx Bd.returns rfl (Or.inr (Or.inr (Or.inr (Or.inr ⟨rfl, rfl, rfl⟩)))) (hb hby d1_37) hr, hrun, hended, _, _, rfl, ?_, ⟨_, rfl⟩, hW, hsame.mono (by decide) (by decide)⟩
  show Q1 Z h0 n0 _ T14.heap _
  exact ⟨_, rfl, N14, K14z, Ex14⟩
theorem d10_0 : decode prog_55_method_8_code 0 = .ok (.aload_n 0, 1) := by decide +kernel
theorem d10_1 : decode prog_55_method_8_code 1 = .ok (.getfield 27, 3) := by decide +kernel
theorem d10_4 : decode prog_55_method_8_code 4 = .ok (.ifCond .le 7, 3) := by decide +kernel
theorem d10_7 : decode prog_55_method_8_code 7 = .ok (.iconst 1, 1) := by decide +kernel
theorem d10_8 : decode prog_55_method_8_code 8 = .ok (.goto 4, 3) := by decide +kernel
theorem d10_11 : decode prog_55_method_8_code 11 = .ok (.iconst 0, 1) := by decide +kernel
theorem d10_12 : decode prog_55_method_8_code 12 = .ok (.ireturn, 1) := by decide +kernel
theorem ef_10 (m : MethodId) (a0_ : Addr) : entryFrame m #[(.ref a0_)] 1 = mkF m 0 #[.val (.ref a0_)] [] := by first | (simp [entryFrame, mkF, argsToLocals, Value.category]; done) | rfl
def Q10 (g : Int32) (h0 : Heap) (n0 : Nat) (v : Option Value) (h : Heap) (L : List Loc) : Prop := v = some (.int (own_r g)) ∧ Fr n0 L ∧ h = h0
set_option maxRecDepth 65536 in
set_option maxHeartbeats 40000000 in
theorem rm10 (l : Launch) (Z : State) (a0 : Array Value) (hw : ∀ d ∈ tables_1, d.before a0 Z = true) (ws : List Jvm.Cond) (a0_ : Addr) (g : Int32) (h0 : Heap) (n0 : Nat) (Z0 : n0 ≤ h0.size) (F : Fld Z h0 a0_ "com/example/consensus_to_coverage/consensustocoverage/trecfiles/Judgement" "grade" "I" (.int g)) :
    MetFree l (⟨"com/example/consensus_to_coverage/consensustocoverage/trecfiles/Judgement", "isRelevant", "()Z"⟩ : MethodName) (head1 (Jvm.Cond.code (⟨"com/example/consensus_to_coverage/consensustocoverage/trecfiles/Judgement", "isRelevant", "()Z"⟩ : MethodName) prog_55_method_8_code 1 (some .boolean) :: ws) ({ frames := 0, cells := 0, slots := 0, locals := 0 } : Room)) (fun a U => a = #[(.ref a0_)] ∧ Z.Warmed39 U.vm ∧ U.heap = h0) (fun _ _ _ _ _ => True) (fun _ U o U' => ∃ v L, o = .returned v ∧ Q10 g h0 n0 v U'.heap L ∧ FrameEnd U o U' L ({ frames := 0, cells := 0, slots := 0, locals := 0 } : Room).cells ({ frames := 0, cells := 0, slots := 0, locals := 0 } : Room).slots) := by
  refine MetFree.of_bodySF (plainFor_of_name pn_com_example_consensus_to_coverage_consensustocoverage_trecfiles_Judgement) hisR ?_
  intro p e s m args below meth c s₁ Bd hml0 hP hK
  obtain ⟨rfl, hZ, hh⟩ := hP
  have hx := Bd.exec
  have hby := Bd.bytes
  have hml : c.maxLocals = 1 := hml0
  have hown : s.vm.findClass "com/example/consensus_to_coverage/consensustocoverage/trecfiles/Judgement" = some m.cls := findClass_of_methodNamed Bd.named
  have hnm := (name_of_methodNamed Bd.named Bd.method).1
  have X0 : Stand p l e ({ frames := 0, cells := 0, slots := 0, locals := 0 } : Room) s m #[(.ref a0_)] below meth c s₁ [] 0 0 := Stand.of_body Bd
  have e0 : s₁.heap = h0 := by rw [← hh, Bd.state]; rfl
  have N0 := Fr.nil n0
  have pre0 : ∀ t, Steps p.tables e below (s₁.setTop (mkF m 0 #[.val (.ref a0_)] [])) t → Steps p.tables e below (s₁.setTop (entryFrame m #[(.ref a0_)] 1)) t := fun t k => castTop (ef_10 m a0_) k
  have K0 := Keep.refl h0 []
  refine own_start pre0 fun G gs gl => ?_
  show G (s₁.setTop (mkF m 0 #[.val (.ref a0_)] []))
  refine gs (fun t k => XS.aloadN X0.here hx rfl (hb hby d10_0) rfl rfl k) ?_
  show G (s₁.setTop (mkF m 1 #[.val (.ref a0_)] [(.ref a0_)]))
  obtain ⟨T1, X1, e1, st1⟩ := getF X0 hx hZ hown (host := "") (Or.inl (hw _ (List.mem_of_getElem? (i := 52) rfl))) Via.refl e0 F (g := (mkF m 1 #[.val (.ref a0_)] [(.ref a0_)])) rfl rfl (hb hby d10_1)
  refine gs (fun t k => st1 _ k) ?_
  show G (T1.setTop (mkF m 4 #[.val (.ref a0_)] [(.int g)]))
  by_cases hc4 : (0 : Int32) < g
  · refine gs (fun t k => XS.ifNo X1.here hx rfl (hb hby d10_4) rfl ((if0 _ _).trans (tlt hc4).2.2.2) k) ?_
    show G (T1.setTop (mkF m 7 #[.val (.ref a0_)] []))
    refine gs (fun t k => XS.iconst X1.here hx rfl (hb hby d10_7) k) ?_
    show G (T1.setTop (mkF m 8 #[.val (.ref a0_)] [(.int (1 : Int32))]))
    refine gs (fun t k => XS.goto X1.here hx rfl (pc0 := 8) (pc' := 12) rfl (hb hby d10_8) (by decide) (by decide) k) ?_
    show G (T1.setTop (mkF m 12 #[.val (.ref a0_)] [(.int (1 : Int32))]))
    obtain ⟨fs, hr, hrun, hended, hW, hsame⟩ := X1.leave (v := some (.int (1 : Int32))) (fun h => by rw [Bd.returns] at h; cases h)
    refine gl _ ⟨_, _, retN X1 hx (t := .boolean) Bd.returns (by simp) (hb hby d10_12) hr, hrun, hended, _, _, rfl, ?_, ⟨_, rfl⟩, hW, hsame.mono (by decide) (by decide)⟩
    show Q10 g h0 n0 _ T1.heap _
    rw [e1]
    exact ⟨congrArg (fun z => some (Value.int z)) (by simp [own_r, hc4]), N0, rfl⟩
  · refine gs (fun t k => XS.ifYes X1.here hx rfl (pc0 := 4) (pc' := 11) rfl (hb hby d10_4) rfl ((if0 _ _).trans (flt hc4).2.2.2) (by decide) (by decide) k) ?_
    show G (T1.setTop (mkF m 11 #[.val (.ref a0_)] []))
    refine gs (fun t k => XS.iconst X1.here hx rfl (hb hby d10_11) k) ?_
    show G (T1.setTop (mkF m 12 #[.val (.ref a0_)] [(.int (0 : Int32))]))
    obtain ⟨fs, hr, hrun, hended, hW, hsame⟩ := X1.leave (v := some (.int (0 : Int32))) (fun h => by rw [Bd.returns] at h; cases h)
    refine gl _ ⟨_, _, retN X1 hx (t := .boolean) Bd.returns (by simp) (hb hby d10_12) hr, hrun, hended, _, _, rfl, ?_, ⟨_, rfl⟩, hW, hsame.mono (by decide) (by decide)⟩
    show Q10 g h0 n0 _ T1.heap _
    rw [e1]
    exact ⟨congrArg (fun z => some (Value.int z)) (by simp [own_r, hc4]), N0, rfl⟩
theorem pd_6 : parseMethodDescriptor "(II)Ljava/lang/String;" = some ⟨[.int, .int], some (.object "java/lang/String")⟩ := by decide +kernel
theorem pd_7 : parseMethodDescriptor "(Ljava/lang/String;Ljava/lang/String;Ljava/lang/String;I)V" = some ⟨[(.object "java/lang/String"), (.object "java/lang/String"), (.object "java/lang/String"), .int], none⟩ := by decide +kernel
theorem pd_8 : parseMethodDescriptor "()Z" = some ⟨[], some .boolean⟩ := by decide +kernel
theorem ef_0 (m : MethodId) (p0 : Int32) (p1 : Int32) (p2 : Int32) (p3 : Int32) (p4 : Int32) : entryFrame m #[(.int p0), (.int p1), (.int p2), (.int p3), (.int p4)] maxLocals = mkF m 0 #[.val (.int p0), .val (.int p1), .val (.int p2), .val (.int p3), .val (.int p4), .unset, .unset, .unset, .unset, .unset, .unset, .unset, .unset, .unset, .unset, .unset, .unset, .unset, .unset, .unset, .unset, .unset, .unset] [] := by first | (simp [entryFrame, mkF, argsToLocals, Value.category, maxLocals]; done) | rfl
def Q0 (h0 : Heap) (n0 : Nat) (v : Option Value) (h : Heap) (L : List Loc) : Prop := v = some (.int 1) ∧ Fr n0 L
set_option maxRecDepth 65536 in
set_option maxHeartbeats 40000000 in
theorem rm0 (l : Launch) (Z : State) (a0 : Array Value) (hw : ∀ d ∈ tables_1, d.before a0 Z = true) (ws : List Jvm.Cond) (p0 : Int32) (p1 : Int32) (p2 : Int32) (p3 : Int32) (p4 : Int32) (cs : Int32) (h0 : Heap) (n0 : Nat) (Z0 : n0 ≤ h0.size) (SC : Sta Z h0 "java/lang/String" "COMPACT_STRINGS" "Z" (.int cs)) (hcs : ¬ cs = (0 : Int32)) :
    MetFree l x (head1 (Jvm.Cond.code x code maxLocals ret :: ws) room_1) (fun a U => a = #[(.int p0), (.int p1), (.int p2), (.int p3), (.int p4)] ∧ Z.Warmed39 U.vm ∧ U.heap = h0) (fun _ _ _ _ _ => True) (fun _ U o U' => ∃ v L, o = .returned v ∧ Q0 h0 n0 v U'.heap L ∧ FrameEnd U o U' L room_1.cells room_1.slots) := by
  refine MetFree.of_bodySF (plainFor_of_name pn_com_example_consensus_to_coverage_consensustocoverage_trecfiles_JudgementIsRelevantPinLaw) hisR ?_
  intro p e s m args below meth c s₁ Bd hml0 hP hK
  obtain ⟨rfl, hZ, hh⟩ := hP
  have hx := Bd.exec
  have hby := Bd.bytes
  have hml : c.maxLocals = 23 := hml0
  have hown : s.vm.findClass "com/example/consensus_to_coverage/consensustocoverage/trecfiles/JudgementIsRelevantPinLaw" = some m.cls := findClass_of_methodNamed Bd.named
  have hnm := (name_of_methodNamed Bd.named Bd.method).1
  have X0 : Stand p l e room_1 s m #[(.int p0), (.int p1), (.int p2), (.int p3), (.int p4)] below meth c s₁ [] 0 0 := Stand.of_body Bd
  have e0 : s₁.heap = h0 := by rw [← hh, Bd.state]; rfl
  have N0 := Fr.nil n0
  have pre0 : ∀ t, Steps p.tables e below (s₁.setTop (mkF m 0 #[.val (.int p0), .val (.int p1), .val (.int p2), .val (.int p3), .val (.int p4), .unset, .unset, .unset, .unset, .unset, .unset, .unset, .unset, .unset, .unset, .unset, .unset, .unset, .unset, .unset, .unset, .unset, .unset] [])) t → Steps p.tables e below (s₁.setTop (entryFrame m #[(.int p0), (.int p1), (.int p2), (.int p3), (.int p4)] maxLocals)) t := fun t k => castTop (ef_0 m p0 p1 p2 p3 p4) k
  have K0 := Keep.refl h0 []
  refine own_start pre0 fun G gs gl => ?_
  show G (s₁.setTop (mkF m 0 #[.val (.int p0), .val (.int p1), .val (.int p2), .val (.int p3), .val (.int p4), .unset, .unset, .unset, .unset, .unset, .unset, .unset, .unset, .unset, .unset, .unset, .unset, .unset, .unset, .unset, .unset, .unset, .unset] []))
  refine gs (fun t k => XS.iloadN X0.here hx rfl (hb hby at_0) rfl k) ?_
  show G (s₁.setTop (mkF m 1 #[.val (.int p0), .val (.int p1), .val (.int p2), .val (.int p3), .val (.int p4), .unset, .unset, .unset, .unset, .unset, .unset, .unset, .unset, .unset, .unset, .unset, .unset, .unset, .unset, .unset, .unset, .unset, .unset] [(.int p2)]))
  refine gs (fun t k => XS.iconst X0.here hx rfl (hb hby at_1) k) ?_
  show G (s₁.setTop (mkF m 2 #[.val (.int p0), .val (.int p1), .val (.int p2), .val (.int p3), .val (.int p4), .unset, .unset, .unset, .unset, .unset, .unset, .unset, .unset, .unset, .unset, .unset, .unset, .unset, .unset, .unset, .unset, .unset, .unset] [(.int (0 : Int32)), (.int p2)]))
  obtain ⟨_, _, ⟨T1, L1, k1, n1⟩, -, X1, ⟨Lc1, hQ1, l1, y1, z1⟩, st1⟩ := Jvm.LawKit.callS X0 hx (y := (⟨"com/example/consensus_to_coverage/consensustocoverage/trecfiles/JudgementIsRelevantPinLaw", "str", "(II)Ljava/lang/String;"⟩ : MethodName)) hown (mvT hZ (hw _ (List.mem_of_getElem? (i := 0) rfl))) (mvT hZ (hw _ (List.mem_of_getElem? (i := 1) rfl))) (mvT hZ (hw _ (List.mem_of_getElem? (i := 2) rfl))) (mvT hZ (hw _ (List.mem_of_getElem? (i := 3) rfl))) (by decide) (backOf (W := 0) (rm1 l Z a0 hw [] p2 (0 : Int32) cs h0 n0 (Nat.le_trans Z0 K0.1) SC hcs) hZ (hw _ (List.mem_of_getElem? (i := 3) rfl)) (hw _ (List.mem_of_getElem? (i := 2) rfl)) (by decide) (by decide)) (g := (mkF m 2 #[.val (.int p0), .val (.int p1), .val (.int p2), .val (.int p3), .val (.int p4), .unset, .unset, .unset, .unset, .unset, .unset, .unset, .unset, .unset, .unset, .unset, .unset, .unset, .unset, .unset, .unset, .unset, .unset] [(.int (0 : Int32)), (.int p2)])) rfl (by rw [hml]; rfl) (argsL := [(.int p2), (.int (0 : Int32))]) (rest := []) (lenOf pd_6 rfl) rfl (by show 2 * 0 + _ ≤ _; exact Nat.le_of_eq rfl) (hb hby at_2) (fun _ _ => ⟨rfl, e0, (by decide : 0 + 3 ≤ _), (by decide : 0 + 8 ≤ _)⟩)
  dsimp only [Pt.U, Pt.locs, Pt.cells, Pt.slots] at X1 l1 y1 z1 st1 hQ1
  subst y1 z1
  obtain ⟨sb1, rfl, N1q, Kc1, US1⟩ := hQ1
  have N1 : Fr n0 L1 := by rw [l1]; exact Fr.app N0 N1q
  refine gs (fun t k => st1 _ k) ?_
  have SC_q2 := own_sta_keep SC Kc1
  have K3 := K0.trans Kc1 all0
  show G (T1.setTop (mkF m 5 #[.val (.int p0), .val (.int p1), .val (.int p2), .val (.int p3), .val (.int p4), .unset, .unset, .unset, .unset, .unset, .unset, .unset, .unset, .unset, .unset, .unset, .unset, .unset, .unset, .unset, .unset, .unset, .unset] [(.ref sb1)]))
  refine gs (fun t k => XS.astore X1.here hx rfl (hb hby at_5) rfl rfl (l' := #[.val (.int p0), .val (.int p1), .val (.int p2), .val (.int p3), .val (.int p4), .val (.ref sb1), .unset, .unset, .unset, .unset, .unset, .unset, .unset, .unset, .unset, .unset, .unset, .unset, .unset, .unset, .unset, .unset, .unset]) rfl k) ?_
  show G (T1.setTop (mkF m 7 #[.val (.int p0), .val (.int p1), .val (.int p2), .val (.int p3), .val (.int p4), .val (.ref sb1), .unset, .unset, .unset, .unset, .unset, .unset, .unset, .unset, .unset, .unset, .unset, .unset, .unset, .unset, .unset, .unset, .unset] []))
  refine gs (fun t k => XS.iloadN X1.here hx rfl (hb hby at_7) rfl k) ?_
  show G (T1.setTop (mkF m 8 #[.val (.int p0), .val (.int p1), .val (.int p2), .val (.int p3), .val (.int p4), .val (.ref sb1), .unset, .unset, .unset, .unset, .unset, .unset, .unset, .unset, .unset, .unset, .unset, .unset, .unset, .unset, .unset, .unset, .unset] [(.int p2)]))
  refine gs (fun t k => XS.bipush X1.here hx rfl (hb hby at_8) k) ?_
  show G (T1.setTop (mkF m 10 #[.val (.int p0), .val (.int p1), .val (.int p2), .val (.int p3), .val (.int p4), .val (.ref sb1), .unset, .unset, .unset, .unset, .unset, .unset, .unset, .unset, .unset, .unset, .unset, .unset, .unset, .unset, .unset, .unset, .unset] [(.int (16 : Int32)), (.int p2)]))
  obtain ⟨_, _, ⟨T4, L4, k4, n4⟩, -, X4, ⟨Lc4, hQ4, l4, y4, z4⟩, st4⟩ := Jvm.LawKit.callS X1 hx (y := (⟨"com/example/consensus_to_coverage/consensustocoverage/trecfiles/JudgementIsRelevantPinLaw", "str", "(II)Ljava/lang/String;"⟩ : MethodName)) hown (mvT hZ (hw _ (List.mem_of_getElem? (i := 0) rfl))) (mvT hZ (hw _ (List.mem_of_getElem? (i := 1) rfl))) (mvT hZ (hw _ (List.mem_of_getElem? (i := 2) rfl))) (mvT hZ (hw _ (List.mem_of_getElem? (i := 3) rfl))) (by decide) (backOf (W := 0) (rm1 l Z a0 hw [] p2 (16 : Int32) cs T1.heap n0 (Nat.le_trans Z0 K3.1) SC_q2 hcs) hZ (hw _ (List.mem_of_getElem? (i := 3) rfl)) (hw _ (List.mem_of_getElem? (i := 2) rfl)) (by decide) (by decide)) (g := (mkF m 10 #[.val (.int p0), .val (.int p1), .val (.int p2), .val (.int p3), .val (.int p4), .val (.ref sb1), .unset, .unset, .unset, .unset, .unset, .unset, .unset, .unset, .unset, .unset, .unset, .unset, .unset, .unset, .unset, .unset, .unset] [(.int (16 : Int32)), (.int p2)])) rfl (by rw [hml]; rfl) (argsL := [(.int p2), (.int (16 : Int32))]) (rest := []) (lenOf pd_6 rfl) rfl (by show 2 * 0 + _ ≤ _; exact Nat.le_of_eq rfl) (hb hby at_10) (fun _ _ => ⟨rfl, rfl, (by decide : 3 + 3 ≤ _), (by decide : 8 + 8 ≤ _)⟩)
  dsimp only [Pt.U, Pt.locs, Pt.cells, Pt.slots] at X4 l4 y4 z4 st4 hQ4
  subst y4 z4
  obtain ⟨sb4, rfl, N4q, Kc4, US4⟩ := hQ4
  have N4 : Fr n0 L4 := by rw [l4]; exact Fr.app N1 N4q
  refine gs (fun t k => st4 _ k) ?_
  have SC_q5 := own_sta_keep SC_q2 Kc4
  have US1_q6 := US1.keep Kc4
  have K7 := K3.trans Kc4 all0
  show G (T4.setTop (mkF m 13 #[.val (.int p0), .val (.int p1), .val (.int p2), .val (.int p3), .val (.int p4), .val (.ref sb1), .unset, .unset, .unset, .unset, .unset, .unset, .unset, .unset, .unset, .unset, .unset, .unset, .unset, .unset, .unset, .unset, .unset] [(.ref sb4)]))
  refine gs (fun t k => XS.astore X4.here hx rfl (hb hby at_13) rfl rfl (l' := #[.val (.int p0), .val (.int p1), .val (.int p2), .val (.int p3), .val (.int p4), .val (.ref sb1), .val (.ref sb4), .unset, .unset, .unset, .unset, .unset, .unset, .unset, .unset, .unset, .unset, .unset, .unset, .unset, .unset, .unset, .unset]) rfl k) ?_
  show G (T4.setTop (mkF m 15 #[.val (.int p0), .val (.int p1), .val (.int p2), .val (.int p3), .val (.int p4), .val (.ref sb1), .val (.ref sb4), .unset, .unset, .unset, .unset, .unset, .unset, .unset, .unset, .unset, .unset, .unset, .unset, .unset, .unset, .unset, .unset] []))
  refine gs (fun t k => XS.iloadN X4.here hx rfl (hb hby at_15) rfl k) ?_
  show G (T4.setTop (mkF m 16 #[.val (.int p0), .val (.int p1), .val (.int p2), .val (.int p3), .val (.int p4), .val (.ref sb1), .val (.ref sb4), .unset, .unset, .unset, .unset, .unset, .unset, .unset, .unset, .unset, .unset, .unset, .unset, .unset, .unset, .unset, .unset] [(.int p3)]))
  refine gs (fun t k => XS.iconst X4.here hx rfl (hb hby at_16) k) ?_
  show G (T4.setTop (mkF m 17 #[.val (.int p0), .val (.int p1), .val (.int p2), .val (.int p3), .val (.int p4), .val (.ref sb1), .val (.ref sb4), .unset, .unset, .unset, .unset, .unset, .unset, .unset, .unset, .unset, .unset, .unset, .unset, .unset, .unset, .unset, .unset] [(.int (0 : Int32)), (.int p3)]))
  obtain ⟨_, _, ⟨T8, L8, k8, n8⟩, -, X8, ⟨Lc8, hQ8, l8, y8, z8⟩, st8⟩ := Jvm.LawKit.callS X4 hx (y := (⟨"com/example/consensus_to_coverage/consensustocoverage/trecfiles/JudgementIsRelevantPinLaw", "str", "(II)Ljava/lang/String;"⟩ : MethodName)) hown (mvT hZ (hw _ (List.mem_of_getElem? (i := 0) rfl))) (mvT hZ (hw _ (List.mem_of_getElem? (i := 1) rfl))) (mvT hZ (hw _ (List.mem_of_getElem? (i := 2) rfl))) (mvT hZ (hw _ (List.mem_of_getElem? (i := 3) rfl))) (by decide) (backOf (W := 0) (rm1 l Z a0 hw [] p3 (0 : Int32) cs T4.heap n0 (Nat.le_trans Z0 K7.1) SC_q5 hcs) hZ (hw _ (List.mem_of_getElem? (i := 3) rfl)) (hw _ (List.mem_of_getElem? (i := 2) rfl)) (by decide) (by decide)) (g := (mkF m 17 #[.val (.int p0), .val (.int p1), .val (.int p2), .val (.int p3), .val (.int p4), .val (.ref sb1), .val (.ref sb4), .unset, .unset, .unset, .unset, .unset, .unset, .unset, .unset, .unset, .unset, .unset, .unset, .unset, .unset, .unset, .unset] [(.int (0 : Int32)), (.int p3)])) rfl (by rw [hml]; rfl) (argsL := [(.int p3), (.int (0 : Int32))]) (rest := []) (lenOf pd_6 rfl) rfl (by show 2 * 0 + _ ≤ _; exact Nat.le_of_eq rfl) (hb hby at_17) (fun _ _ => ⟨rfl, rfl, (by decide : 6 + 3 ≤ _), (by decide : 16 + 8 ≤ _)⟩)
  dsimp only [Pt.U, Pt.locs, Pt.cells, Pt.slots] at X8 l8 y8 z8 st8 hQ8
  subst y8 z8
  obtain ⟨sb8, rfl, N8q, Kc8, US8⟩ := hQ8
  have N8 : Fr n0 L8 := by rw [l8]; exact Fr.app N4 N8q
  refine gs (fun t k => st8 _ k) ?_
  have SC_q9 := own_sta_keep SC_q5 Kc8
  have US1_q10 := US1_q6.keep Kc8
  have US4_q11 := US4.keep Kc8
  have K12 := K7.trans Kc8 all0
  show G (T8.setTop (mkF m 20 #[.val (.int p0), .val (.int p1), .val (.int p2), .val (.int p3), .val (.int p4), .val (.ref sb1), .val (.ref sb4), .unset, .unset, .unset, .unset, .unset, .unset, .unset, .unset, .unset, .unset, .unset, .unset, .unset, .unset, .unset, .unset] [(.ref sb8)]))
  refine gs (fun t k => XS.astore X8.here hx rfl (hb hby at_20) rfl rfl (l' := #[.val (.int p0), .val (.int p1), .val (.int p2), .val (.int p3), .val (.int p4), .val (.ref sb1), .val (.ref sb4), .val (.ref sb8), .unset, .unset, .unset, .unset, .unset, .unset, .unset, .unset, .unset, .unset, .unset, .unset, .unset, .unset, .unset]) rfl k) ?_
  show G (T8.setTop (mkF m 22 #[.val (.int p0), .val (.int p1), .val (.int p2), .val (.int p3), .val (.int p4), .val (.ref sb1), .val (.ref sb4), .val (.ref sb8), .unset, .unset, .unset, .unset, .unset, .unset, .unset, .unset, .unset, .unset, .unset, .unset, .unset, .unset, .unset] []))
  refine gs (fun t k => XS.iloadN X8.here hx rfl (hb hby at_22) rfl k) ?_
  show G (T8.setTop (mkF m 23 #[.val (.int p0), .val (.int p1), .val (.int p2), .val (.int p3), .val (.int p4), .val (.ref sb1), .val (.ref sb4), .val (.ref sb8), .unset, .unset, .unset, .unset, .unset, .unset, .unset, .unset, .unset, .unset, .unset, .unset, .unset, .unset, .unset] [(.int p3)]))
  refine gs (fun t k => XS.bipush X8.here hx rfl (hb hby at_23) k) ?_
  show G (T8.setTop (mkF m 25 #[.val (.int p0), .val (.int p1), .val (.int p2), .val (.int p3), .val (.int p4), .val (.ref sb1), .val (.ref sb4), .val (.ref sb8), .unset, .unset, .unset, .unset, .unset, .unset, .unset, .unset, .unset, .unset, .unset, .unset, .unset, .unset, .unset] [(.int (16 : Int32)), (.int p3)]))
  obtain ⟨_, _, ⟨T13, L13, k13, n13⟩, -, X13, ⟨Lc13, hQ13, l13, y13, z13⟩, st13⟩ := Jvm.LawKit.callS X8 hx (y := (⟨"com/example/consensus_to_coverage/consensustocoverage/trecfiles/JudgementIsRelevantPinLaw", "str", "(II)Ljava/lang/String;"⟩ : MethodName)) hown (mvT hZ (hw _ (List.mem_of_getElem? (i := 0) rfl))) (mvT hZ (hw _ (List.mem_of_getElem? (i := 1) rfl))) (mvT hZ (hw _ (List.mem_of_getElem? (i := 2) rfl))) (mvT hZ (hw _ (List.mem_of_getElem? (i := 3) rfl))) (by decide) (backOf (W := 0) (rm1 l Z a0 hw [] p3 (16 : Int32) cs T8.heap n0 (Nat.le_trans Z0 K12.1) SC_q9 hcs) hZ (hw _ (List.mem_of_getElem? (i := 3) rfl)) (hw _ (List.mem_of_getElem? (i := 2) rfl)) (by decide) (by decide)) (g := (mkF m 25 #[.val (.int p0), .val (.int p1), .val (.int p2), .val (.int p3), .val (.int p4), .val (.ref sb1), .val (.ref sb4), .val (.ref sb8), .unset, .unset, .unset, .unset, .unset, .unset, .unset, .unset, .unset, .unset, .unset, .unset, .unset, .unset, .unset] [(.int (16 : Int32)), (.int p3)])) rfl (by rw [hml]; rfl) (argsL := [(.int p3), (.int (16 : Int32))]) (rest := []) (lenOf pd_6 rfl) rfl (by show 2 * 0 + _ ≤ _; exact Nat.le_of_eq rfl) (hb hby at_25) (fun _ _ => ⟨rfl, rfl, (by decide : 9 + 3 ≤ _), (by decide : 24 + 8 ≤ _)⟩)
  dsimp only [Pt.U, Pt.locs, Pt.cells, Pt.slots] at X13 l13 y13 z13 st13 hQ13
  subst y13 z13
  obtain ⟨sb13, rfl, N13q, Kc13, US13⟩ := hQ13
  have N13 : Fr n0 L13 := by rw [l13]; exact Fr.app N8 N13q
  refine gs (fun t k => st13 _ k) ?_
  have SC_q14 := own_sta_keep SC_q9 Kc13
  have US1_q15 := US1_q10.keep Kc13
  have US4_q16 := US4_q11.keep Kc13
  have US8_q17 := US8.keep Kc13
  have K18 := K12.trans Kc13 all0
  show G (T13.setTop (mkF m 28 #[.val (.int p0), .val (.int p1), .val (.int p2), .val (.int p3), .val (.int p4), .val (.ref sb1), .val (.ref sb4), .val (.ref sb8), .unset, .unset, .unset, .unset, .unset, .unset, .unset, .unset, .unset, .unset, .unset, .unset, .unset, .unset, .unset] [(.ref sb13)]))
  refine gs (fun t k => XS.astore X13.here hx rfl (hb hby at_28) rfl rfl (l' := #[.val (.int p0), .val (.int p1), .val (.int p2), .val (.int p3), .val (.int p4), .val (.ref sb1), .val (.ref sb4), .val (.ref sb8), .val (.ref sb13), .unset, .unset, .unset, .unset, .unset, .unset, .unset, .unset, .unset, .unset, .unset, .unset, .unset, .unset]) rfl k) ?_
  show G (T13.setTop (mkF m 30 #[.val (.int p0), .val (.int p1), .val (.int p2), .val (.int p3), .val (.int p4), .val (.ref sb1), .val (.ref sb4), .val (.ref sb8), .val (.ref sb13), .unset, .unset, .unset, .unset, .unset, .unset, .unset, .unset, .unset, .unset, .unset, .unset, .unset, .unset] []))
  refine gs (fun t k => XS.iload X13.here hx rfl (hb hby at_30) rfl k) ?_
  show G (T13.setTop (mkF m 32 #[.val (.int p0), .val (.int p1), .val (.int p2), .val (.int p3), .val (.int p4), .val (.ref sb1), .val (.ref sb4), .val (.ref sb8), .val (.ref sb13), .unset, .unset, .unset, .unset, .unset, .unset, .unset, .unset, .unset, .unset, .unset, .unset, .unset, .unset] [(.int p4)]))
  refine gs (fun t k => XS.iconst X13.here hx rfl (hb hby at_32) k) ?_
  show G (T13.setTop (mkF m 33 #[.val (.int p0), .val (.int p1), .val (.int p2), .val (.int p3), .val (.int p4), .val (.ref sb1), .val (.ref sb4), .val (.ref sb8), .val (.ref sb13), .unset, .unset, .unset, .unset, .unset, .unset, .unset, .unset, .unset, .unset, .unset, .unset, .unset, .unset] [(.int (0 : Int32)), (.int p4)]))
  obtain ⟨_, _, ⟨T19, L19, k19, n19⟩, -, X19, ⟨Lc19, hQ19, l19, y19, z19⟩, st19⟩ := Jvm.LawKit.callS X13 hx (y := (⟨"com/example/consensus_to_coverage/consensustocoverage/trecfiles/JudgementIsRelevantPinLaw", "str", "(II)Ljava/lang/String;"⟩ : MethodName)) hown (mvT hZ (hw _ (List.mem_of_getElem? (i := 0) rfl))) (mvT hZ (hw _ (List.mem_of_getElem? (i := 1) rfl))) (mvT hZ (hw _ (List.mem_of_getElem? (i := 2) rfl))) (mvT hZ (hw _ (List.mem_of_getElem? (i := 3) rfl))) (by decide) (backOf (W := 0) (rm1 l Z a0 hw [] p4 (0 : Int32) cs T13.heap n0 (Nat.le_trans Z0 K18.1) SC_q14 hcs) hZ (hw _ (List.mem_of_getElem? (i := 3) rfl)) (hw _ (List.mem_of_getElem? (i := 2) rfl)) (by decide) (by decide)) (g := (mkF m 33 #[.val (.int p0), .val (.int p1), .val (.int p2), .val (.int p3), .val (.int p4), .val (.ref sb1), .val (.ref sb4), .val (.ref sb8), .val (.ref sb13), .unset, .unset, .unset, .unset, .unset, .unset, .unset, .unset, .unset, .unset, .unset, .unset, .unset, .unset] [(.int (0 : Int32)), (.int p4)])) rfl (by rw [hml]; rfl) (argsL := [(.int p4), (.int (0 : Int32))]) (rest := []) (lenOf pd_6 rfl) rfl (by show 2 * 0 + _ ≤ _; exact Nat.le_of_eq rfl) (hb hby at_33) (fun _ _ => ⟨rfl, rfl, (by decide : 12 + 3 ≤ _), (by decide : 32 + 8 ≤ _)⟩)
  dsimp only [Pt.U, Pt.locs, Pt.cells, Pt.slots] at X19 l19 y19 z19 st19 hQ19
  subst y19 z19
  obtain ⟨sb19, rfl, N19q, Kc19, US19⟩ := hQ19
  have N19 : Fr n0 L19 := by rw [l19]; exact Fr.app N13 N19q
  refine gs (fun t k => st19 _ k) ?_
  have SC_q20 := own_sta_keep SC_q14 Kc19
  have US1_q21 := US1_q15.keep Kc19
  have US4_q22 := US4_q16.keep Kc19
  have US8_q23 := US8_q17.keep Kc19
  have US13_q24 := US13.keep Kc19
  have K25 := K18.trans Kc19 all0
  show G (T19.setTop (mkF m 36 #[.val (.int p0), .val (.int p1), .val (.int p2), .val (.int p3), .val (.int p4), .val (.ref sb1), .val (.ref sb4), .val (.ref sb8), .val (.ref sb13), .unset, .unset, .unset, .unset, .unset, .unset, .unset, .unset, .unset, .unset, .unset, .unset, .unset, .unset] [(.ref sb19)]))
  refine gs (fun t k => XS.astore X19.here hx rfl (hb hby at_36) rfl rfl (l' := #[.val (.int p0), .val (.int p1), .val (.int p2), .val (.int p3), .val (.int p4), .val (.ref sb1), .val (.ref sb4), .val (.ref sb8), .val (.ref sb13), .val (.ref sb19), .unset, .unset, .unset, .unset, .unset, .unset, .unset, .unset, .unset, .unset, .unset, .unset, .unset]) rfl k) ?_
  show G (T19.setTop (mkF m 38 #[.val (.int p0), .val (.int p1), .val (.int p2), .val (.int p3), .val (.int p4), .val (.ref sb1), .val (.ref sb4), .val (.ref sb8), .val (.ref sb13), .val (.ref sb19), .unset, .unset, .unset, .unset, .unset, .unset, .unset, .unset, .unset, .unset, .unset, .unset, .unset] []))
  refine gs (fun t k => XS.iload X19.here hx rfl (hb hby at_38) rfl k) ?_
  show G (T19.setTop (mkF m 40 #[.val (.int p0), .val (.int p1), .val (.int p2), .val (.int p3), .val (.int p4), .val (.ref sb1), .val (.ref sb4), .val (.ref sb8), .val (.ref sb13), .val (.ref sb19), .unset, .unset, .unset, .unset, .unset, .unset, .unset, .unset, .unset, .unset, .unset, .unset, .unset] [(.int p4)]))
  refine gs (fun t k => XS.bipush X19.here hx rfl (hb hby at_40) k) ?_
  show G (T19.setTop (mkF m 42 #[.val (.int p0), .val (.int p1), .val (.int p2), .val (.int p3), .val (.int p4), .val (.ref sb1), .val (.ref sb4), .val (.ref sb8), .val (.ref sb13), .val (.ref sb19), .unset, .unset, .unset, .unset, .unset, .unset, .unset, .unset, .unset, .unset, .unset, .unset, .unset] [(.int (16 : Int32)), (.int p4)]))
  obtain ⟨_, _, ⟨T26, L26, k26, n26⟩, -, X26, ⟨Lc26, hQ26, l26, y26, z26⟩, st26⟩ := Jvm.LawKit.callS X19 hx (y := (⟨"com/example/consensus_to_coverage/consensustocoverage/trecfiles/JudgementIsRelevantPinLaw", "str", "(II)Ljava/lang/String;"⟩ : MethodName)) hown (mvT hZ (hw _ (List.mem_of_getElem? (i := 0) rfl))) (mvT hZ (hw _ (List.mem_of_getElem? (i := 1) rfl))) (mvT hZ (hw _ (List.mem_of_getElem? (i := 2) rfl))) (mvT hZ (hw _ (List.mem_of_getElem? (i := 3) rfl))) (by decide) (backOf (W := 0) (rm1 l Z a0 hw [] p4 (16 : Int32) cs T19.heap n0 (Nat.le_trans Z0 K25.1) SC_q20 hcs) hZ (hw _ (List.mem_of_getElem? (i := 3) rfl)) (hw _ (List.mem_of_getElem? (i := 2) rfl)) (by decide) (by decide)) (g := (mkF m 42 #[.val (.int p0), .val (.int p1), .val (.int p2), .val (.int p3), .val (.int p4), .val (.ref sb1), .val (.ref sb4), .val (.ref sb8), .val (.ref sb13), .val (.ref sb19), .unset, .unset, .unset, .unset, .unset, .unset, .unset, .unset, .unset, .unset, .unset, .unset, .unset] [(.int (16 : Int32)), (.int p4)])) rfl (by rw [hml]; rfl) (argsL := [(.int p4), (.int (16 : Int32))]) (rest := []) (lenOf pd_6 rfl) rfl (by show 2 * 0 + _ ≤ _; exact Nat.le_of_eq rfl) (hb hby at_42) (fun _ _ => ⟨rfl, rfl, (by decide : 15 + 3 ≤ _), (by decide : 40 + 8 ≤ _)⟩)
  dsimp only [Pt.U, Pt.locs, Pt.cells, Pt.slots] at X26 l26 y26 z26 st26 hQ26
  subst y26 z26
  obtain ⟨sb26, rfl, N26q, Kc26, US26⟩ := hQ26
  have N26 : Fr n0 L26 := by rw [l26]; exact Fr.app N19 N26q
  refine gs (fun t k => st26 _ k) ?_
  have SC_q27 := own_sta_keep SC_q20 Kc26
  have US1_q28 := US1_q21.keep Kc26
  have US4_q29 := US4_q22.keep Kc26
  have US8_q30 := US8_q23.keep Kc26
  have US13_q31 := US13_q24.keep Kc26
  have US19_q32 := US19.keep Kc26
  have K33 := K25.trans Kc26 all0
  show G (T26.setTop (mkF m 45 #[.val (.int p0), .val (.int p1), .val (.int p2), .val (.int p3), .val (.int p4), .val (.ref sb1), .val (.ref sb4), .val (.ref sb8), .val (.ref sb13), .val (.ref sb19), .unset, .unset, .unset, .unset, .unset, .unset, .unset, .unset, .unset, .unset, .unset, .unset, .unset] [(.ref sb26)]))
  refine gs (fun t k => XS.astore X26.here hx rfl (hb hby at_45) rfl rfl (l' := #[.val (.int p0), .val (.int p1), .val (.int p2), .val (.int p3), .val (.int p4), .val (.ref sb1), .val (.ref sb4), .val (.ref sb8), .val (.ref sb13), .val (.ref sb19), .val (.ref sb26), .unset, .unset, .unset, .unset, .unset, .unset, .unset, .unset, .unset, .unset, .unset, .unset]) rfl k) ?_
  show G (T26.setTop (mkF m 47 #[.val (.int p0), .val (.int p1), .val (.int p2), .val (.int p3), .val (.int p4), .val (.ref sb1), .val (.ref sb4), .val (.ref sb8), .val (.ref sb13), .val (.ref sb19), .val (.ref sb26), .unset, .unset, .unset, .unset, .unset, .unset, .unset, .unset, .unset, .unset, .unset, .unset] []))
  obtain ⟨T34, h34, X34, e34, E34, A34, D34, -, st34⟩ := newO X26 hx hZ hown (hw _ (List.mem_of_getElem? (i := 34) rfl)) (hw _ (List.mem_of_getElem? (i := 35) rfl)) (hw _ (List.mem_of_getElem? (i := 36) rfl)) rfl (g := (mkF m 47 #[.val (.int p0), .val (.int p1), .val (.int p2), .val (.int p3), .val (.int p4), .val (.ref sb1), .val (.ref sb4), .val (.ref sb8), .val (.ref sb13), .val (.ref sb19), .val (.ref sb26), .unset, .unset, .unset, .unset, .unset, .unset, .unset, .unset, .unset, .unset, .unset, .unset] [])) rfl (hb hby at_47) (by decide) (by decide)
  obtain ⟨b34, g34⟩ : ∃ z, z = T26.heap.size := ⟨_, rfl⟩
  rw [← g34] at A34 D34 st34
  have sz_b34 : h0.size ≤ b34 := Nat.le_trans K33.1 (Nat.le_of_eq g34.symm)
  have g_b34 : n0 ≤ b34 := Nat.le_trans Z0 sz_b34
  have ne_sb1_b34 : sb1 ≠ b34 := Nat.ne_of_lt (Nat.lt_of_lt_of_le US1_q28.lt (Nat.le_of_eq g34.symm))
  have ne_sb4_b34 : sb4 ≠ b34 := Nat.ne_of_lt (Nat.lt_of_lt_of_le US4_q29.lt (Nat.le_of_eq g34.symm))
  have ne_sb8_b34 : sb8 ≠ b34 := Nat.ne_of_lt (Nat.lt_of_lt_of_le US8_q30.lt (Nat.le_of_eq g34.symm))
  have ne_sb13_b34 : sb13 ≠ b34 := Nat.ne_of_lt (Nat.lt_of_lt_of_le US13_q31.lt (Nat.le_of_eq g34.symm))
  have ne_sb19_b34 : sb19 ≠ b34 := Nat.ne_of_lt (Nat.lt_of_lt_of_le US19_q32.lt (Nat.le_of_eq g34.symm))
  have ne_sb26_b34 : sb26 ≠ b34 := Nat.ne_of_lt (Nat.lt_of_lt_of_le US26.lt (Nat.le_of_eq g34.symm))
  have SC_q35 := SC_q27.ext E34
  have US1_q36 := US1_q28.ext E34
  have US4_q37 := US4_q29.ext E34
  have US8_q38 := US8_q30.ext E34
  have US13_q39 := US13_q31.ext E34
  have US19_q40 := US19_q32.ext E34
  have US26_q41 := US26.ext E34
  have K42 := K33.ext E34
  have E_b34 := A34
  have F_topic_b34 : Fld Z h34 b34 "com/example/consensus_to_coverage/consensustocoverage/trecfiles/Judgement" "topic" "Ljava/lang/String;" .null := D34 (Or.inr (hw _ (List.mem_of_getElem? (i := 47) rfl))) (ty := (.object "java/lang/String")) (by decide)
  have F_subtopic_b34 : Fld Z h34 b34 "com/example/consensus_to_coverage/consensustocoverage/trecfiles/Judgement" "subtopic" "Ljava/lang/String;" .null := D34 (Or.inr (hw _ (List.mem_of_getElem? (i := 49) rfl))) (ty := (.object "java/lang/String")) (by decide)
  have F_docId_b34 : Fld Z h34 b34 "com/example/consensus_to_coverage/consensustocoverage/trecfiles/Judgement" "docId" "Ljava/lang/String;" .null := D34 (Or.inr (hw _ (List.mem_of_getElem? (i := 51) rfl))) (ty := (.object "java/lang/String")) (by decide)
  have F_grade_b34 : Fld Z h34 b34 "com/example/consensus_to_coverage/consensustocoverage/trecfiles/Judgement" "grade" "I" (.int (0 : Int32)) := D34 (Or.inr (hw _ (List.mem_of_getElem? (i := 53) rfl))) (ty := .int) (by decide)
  refine gs (fun t k => st34 _ k) ?_
  show G (T34.setTop (mkF m 50 #[.val (.int p0), .val (.int p1), .val (.int p2), .val (.int p3), .val (.int p4), .val (.ref sb1), .val (.ref sb4), .val (.ref sb8), .val (.ref sb13), .val (.ref sb19), .val (.ref sb26), .unset, .unset, .unset, .unset, .unset, .unset, .unset, .unset, .unset, .unset, .unset, .unset] [(.ref b34)]))
  refine gs (fun t k => XS.dup X34.here hx rfl (hb hby at_50) rfl rfl k) ?_
  show G (T34.setTop (mkF m 51 #[.val (.int p0), .val (.int p1), .val (.int p2), .val (.int p3), .val (.int p4), .val (.ref sb1), .val (.ref sb4), .val (.ref sb8), .val (.ref sb13), .val (.ref sb19), .val (.ref sb26), .unset, .unset, .unset, .unset, .unset, .unset, .unset, .unset, .unset, .unset, .unset, .unset] [(.ref b34), (.ref b34)]))
  refine gs (fun t k => XS.aload X34.here hx rfl (hb hby at_51) rfl rfl k) ?_
  show G (T34.setTop (mkF m 53 #[.val (.int p0), .val (.int p1), .val (.int p2), .val (.int p3), .val (.int p4), .val (.ref sb1), .val (.ref sb4), .val (.ref sb8), .val (.ref sb13), .val (.ref sb19), .val (.ref sb26), .unset, .unset, .unset, .unset, .unset, .unset, .unset, .unset, .unset, .unset, .unset, .unset] [(.ref sb1), (.ref b34), (.ref b34)]))
  refine gs (fun t k => XS.aload X34.here hx rfl (hb hby at_53) rfl rfl k) ?_
  show G (T34.setTop (mkF m 55 #[.val (.int p0), .val (.int p1), .val (.int p2), .val (.int p3), .val (.int p4), .val (.ref sb1), .val (.ref sb4), .val (.ref sb8), .val (.ref sb13), .val (.ref sb19), .val (.ref sb26), .unset, .unset, .unset, .unset, .unset, .unset, .unset, .unset, .unset, .unset, .unset, .unset] [(.ref sb4), (.ref sb1), (.ref b34), (.ref b34)]))
  refine gs (fun t k => XS.aload X34.here hx rfl (hb hby at_55) rfl rfl k) ?_
  show G (T34.setTop (mkF m 57 #[.val (.int p0), .val (.int p1), .val (.int p2), .val (.int p3), .val (.int p4), .val (.ref sb1), .val (.ref sb4), .val (.ref sb8), .val (.ref sb13), .val (.ref sb19), .val (.ref sb26), .unset, .unset, .unset, .unset, .unset, .unset, .unset, .unset, .unset, .unset, .unset, .unset] [(.ref sb8), (.ref sb4), (.ref sb1), (.ref b34), (.ref b34)]))
  refine gs (fun t k => XS.iloadN X34.here hx rfl (hb hby at_57) rfl k) ?_
  show G (T34.setTop (mkF m 58 #[.val (.int p0), .val (.int p1), .val (.int p2), .val (.int p3), .val (.int p4), .val (.ref sb1), .val (.ref sb4), .val (.ref sb8), .val (.ref sb13), .val (.ref sb19), .val (.ref sb26), .unset, .unset, .unset, .unset, .unset, .unset, .unset, .unset, .unset, .unset, .unset, .unset] [(.int p0), (.ref sb8), (.ref sb4), (.ref sb1), (.ref b34), (.ref b34)]))
  obtain ⟨_, _, ⟨T43, L43, k43, n43⟩, -, X43, ⟨Lc43, hQ43, l43, y43, z43⟩, st43⟩ := X34.specialBack hx (y := (⟨"com/example/consensus_to_coverage/consensustocoverage/trecfiles/Judgement", "<init>", "(Ljava/lang/String;Ljava/lang/String;Ljava/lang/String;I)V"⟩ : MethodName)) rfl hown (mvT hZ (hw _ (List.mem_of_getElem? (i := 37) rfl))) (mvT hZ (hw _ (List.mem_of_getElem? (i := 38) rfl))) (mvT hZ (hw _ (List.mem_of_getElem? (i := 39) rfl))) (by decide) (backOf (W := 1) (rm8 l Z a0 hw [] b34 sb1 sb4 sb8 p0 h34 n0 (Nat.le_trans Z0 K42.1) E_b34 F_topic_b34 F_subtopic_b34 F_docId_b34 F_grade_b34 g_b34 US1_q36 US4_q37 US8_q38) hZ (hw _ (List.mem_of_getElem? (i := 39) rfl)) (hw _ (List.mem_of_getElem? (i := 36) rfl)) (by decide) (by decide)) (g := (mkF m 58 #[.val (.int p0), .val (.int p1), .val (.int p2), .val (.int p3), .val (.int p4), .val (.ref sb1), .val (.ref sb4), .val (.ref sb8), .val (.ref sb13), .val (.ref sb19), .val (.ref sb26), .unset, .unset, .unset, .unset, .unset, .unset, .unset, .unset, .unset, .unset, .unset, .unset] [(.int p0), (.ref sb8), (.ref sb4), (.ref sb1), (.ref b34), (.ref b34)])) rfl (by rw [hml]; rfl) (Steps.refl _) (a := b34) (argsL := [(.ref sb1), (.ref sb4), (.ref sb8), (.int p0)]) (rest := [(.ref b34)]) (lenOf pd_7 rfl) rfl (by show 2 * 0 + _ ≤ _; exact Nat.le_of_eq rfl) (hb hby at_58) (fun _ _ => ⟨rfl, e34, (by decide : 19 + 0 ≤ _), (by decide : 52 + 0 ≤ _)⟩)
  dsimp only [Pt.U, Pt.locs, Pt.cells, Pt.slots] at X43 l43 y43 z43 st43 hQ43
  subst y43 z43
  obtain ⟨rfl, N43q, Kc43, Ex43, Fa43, Fb43, Fc43, Fd43⟩ := hQ43
  have N43 : Fr n0 L43 := by rw [l43]; exact Fr.app N26 N43q
  refine gs (fun t k => st43.trans k) ?_
  have SC_q44 := own_sta_keepE SC_q35 Kc43 E_b34
  have US1_q45 := US1_q36.keep Kc43
  have US4_q46 := US4_q37.keep Kc43
  have US8_q47 := US8_q38.keep Kc43
  have US13_q48 := US13_q39.keep Kc43
  have US19_q49 := US19_q40.keep Kc43
  have US26_q50 := US26_q41.keep Kc43
  have E_b34_q51 := E_b34.keep Kc43
  have K52 := K42.trans Kc43 (allS (Or.inr sz_b34) all0)
  show G (T43.setTop (mkF m 61 #[.val (.int p0), .val (.int p1), .val (.int p2), .val (.int p3), .val (.int p4), .val (.ref sb1), .val (.ref sb4), .val (.ref sb8), .val (.ref sb13), .val (.ref sb19), .val (.ref sb26), .unset, .unset, .unset, .unset, .unset, .unset, .unset, .unset, .unset, .unset, .unset, .unset] [(.ref b34)]))
  refine gs (fun t k => XS.astore X43.here hx rfl (hb hby at_61) rfl rfl (l' := #[.val (.int p0), .val (.int p1), .val (.int p2), .val (.int p3), .val (.int p4), .val (.ref sb1), .val (.ref sb4), .val (.ref sb8), .val (.ref sb13), .val (.ref sb19), .val (.ref sb26), .val (.ref b34), .unset, .unset, .unset, .unset, .unset, .unset, .unset, .unset, .unset, .unset, .unset]) rfl k) ?_
  show G (T43.setTop (mkF m 63 #[.val (.int p0), .val (.int p1), .val (.int p2), .val (.int p3), .val (.int p4), .val (.ref sb1), .val (.ref sb4), .val (.ref sb8), .val (.ref sb13), .val (.ref sb19), .val (.ref sb26), .val (.ref b34), .unset, .unset, .unset, .unset, .unset, .unset, .unset, .unset, .unset, .unset, .unset] []))
  obtain ⟨T53, h53, X53, e53, E53, A53, D53, -, st53⟩ := newO X43 hx hZ hown (hw _ (List.mem_of_getElem? (i := 34) rfl)) (hw _ (List.mem_of_getElem? (i := 35) rfl)) (hw _ (List.mem_of_getElem? (i := 36) rfl)) rfl (g := (mkF m 63 #[.val (.int p0), .val (.int p1), .val (.int p2), .val (.int p3), .val (.int p4), .val (.ref sb1), .val (.ref sb4), .val (.ref sb8), .val (.ref sb13), .val (.ref sb19), .val (.ref sb26), .val (.ref b34), .unset, .unset, .unset, .unset, .unset, .unset, .unset, .unset, .unset, .unset, .unset] [])) rfl (hb hby at_63) (by decide) (by decide)
  obtain ⟨b53, g53⟩ : ∃ z, z = T43.heap.size := ⟨_, rfl⟩
  rw [← g53] at A53 D53 st53
  have sz_b53 : h0.size ≤ b53 := Nat.le_trans K52.1 (Nat.le_of_eq g53.symm)
  have g_b53 : n0 ≤ b53 := Nat.le_trans Z0 sz_b53
  have ne_sb1_b53 : sb1 ≠ b53 := Nat.ne_of_lt (Nat.lt_of_lt_of_le US1_q45.lt (Nat.le_of_eq g53.symm))
  have ne_sb4_b53 : sb4 ≠ b53 := Nat.ne_of_lt (Nat.lt_of_lt_of_le US4_q46.lt (Nat.le_of_eq g53.symm))
  have ne_sb8_b53 : sb8 ≠ b53 := Nat.ne_of_lt (Nat.lt_of_lt_of_le US8_q47.lt (Nat.le_of_eq g53.symm))
  have ne_sb13_b53 : sb13 ≠ b53 := Nat.ne_of_lt (Nat.lt_of_lt_of_le US13_q48.lt (Nat.le_of_eq g53.symm))
  have ne_sb19_b53 : sb19 ≠ b53 := Nat.ne_of_lt (Nat.lt_of_lt_of_le US19_q49.lt (Nat.le_of_eq g53.symm))
  have ne_sb26_b53 : sb26 ≠ b53 := Nat.ne_of_lt (Nat.lt_of_lt_of_le US26_q50.lt (Nat.le_of_eq g53.symm))
  have ne_b34_b53 : b34 ≠ b53 := Nat.ne_of_lt (Nat.lt_of_lt_of_le Ex43.lt (Nat.le_of_eq g53.symm))
  have SC_q54 := SC_q44.ext E53
  have US1_q55 := US1_q45.ext E53
  have US4_q56 := US4_q46.ext E53
  have US8_q57 := US8_q47.ext E53
  have US13_q58 := US13_q48.ext E53
  have US19_q59 := US19_q49.ext E53
  have US26_q60 := US26_q50.ext E53
  have Ex43_q61 := Ex43.ext E53
  have Fd43_q62 := Fd43.ext E53
  have K63 := K52.ext E53
  have E_b53 := A53
  have F_topic_b53 : Fld Z h53 b53 "com/example/consensus_to_coverage/consensustocoverage/trecfiles/Judgement" "topic" "Ljava/lang/String;" .null := D53 (Or.inr (hw _ (List.mem_of_getElem? (i := 47) rfl))) (ty := (.object "java/lang/String")) (by decide)
  have F_subtopic_b53 : Fld Z h53 b53 "com/example/consensus_to_coverage/consensustocoverage/trecfiles/Judgement" "subtopic" "Ljava/lang/String;" .null := D53 (Or.inr (hw _ (List.mem_of_getElem? (i := 49) rfl))) (ty := (.object "java/lang/String")) (by decide)
  have F_docId_b53 : Fld Z h53 b53 "com/example/consensus_to_coverage/consensustocoverage/trecfiles/Judgement" "docId" "Ljava/lang/String;" .null := D53 (Or.inr (hw _ (List.mem_of_getElem? (i := 51) rfl))) (ty := (.object "java/lang/String")) (by decide)
  have F_grade_b53 : Fld Z h53 b53 "com/example/consensus_to_coverage/consensustocoverage/trecfiles/Judgement" "grade" "I" (.int (0 : Int32)) := D53 (Or.inr (hw _ (List.mem_of_getElem? (i := 53) rfl))) (ty := .int) (by decide)
  refine gs (fun t k => st53 _ k) ?_
  show G (T53.setTop (mkF m 66 #[.val (.int p0), .val (.int p1), .val (.int p2), .val (.int p3), .val (.int p4), .val (.ref sb1), .val (.ref sb4), .val (.ref sb8), .val (.ref sb13), .val (.ref sb19), .val (.ref sb26), .val (.ref b34), .unset, .unset, .unset, .unset, .unset, .unset, .unset, .unset, .unset, .unset, .unset] [(.ref b53)]))
  refine gs (fun t k => XS.dup X53.here hx rfl (hb hby at_66) rfl rfl k) ?_
  show G (T53.setTop (mkF m 67 #[.val (.int p0), .val (.int p1), .val (.int p2), .val (.int p3), .val (.int p4), .val (.ref sb1), .val (.ref sb4), .val (.ref sb8), .val (.ref sb13), .val (.ref sb19), .val (.ref sb26), .val (.ref b34), .unset, .unset, .unset, .unset, .unset, .unset, .unset, .unset, .unset, .unset, .unset] [(.ref b53), (.ref b53)]))
  refine gs (fun t k => XS.aload X53.here hx rfl (hb hby at_67) rfl rfl k) ?_
  show G (T53.setTop (mkF m 69 #[.val (.int p0), .val (.int p1), .val (.int p2), .val (.int p3), .val (.int p4), .val (.ref sb1), .val (.ref sb4), .val (.ref sb8), .val (.ref sb13), .val (.ref sb19), .val (.ref sb26), .val (.ref b34), .unset, .unset, .unset, .unset, .unset, .unset, .unset, .unset, .unset, .unset, .unset] [(.ref sb13), (.ref b53), (.ref b53)]))
  refine gs (fun t k => XS.aload X53.here hx rfl (hb hby at_69) rfl rfl k) ?_
  show G (T53.setTop (mkF m 71 #[.val (.int p0), .val (.int p1), .val (.int p2), .val (.int p3), .val (.int p4), .val (.ref sb1), .val (.ref sb4), .val (.ref sb8), .val (.ref sb13), .val (.ref sb19), .val (.ref sb26), .val (.ref b34), .unset, .unset, .unset, .unset, .unset, .unset, .unset, .unset, .unset, .unset, .unset] [(.ref sb19), (.ref sb13), (.ref b53), (.ref b53)]))
  refine gs (fun t k => XS.aload X53.here hx rfl (hb hby at_71) rfl rfl k) ?_
  show G (T53.setTop (mkF m 73 #[.val (.int p0), .val (.int p1), .val (.int p2), .val (.int p3), .val (.int p4), .val (.ref sb1), .val (.ref sb4), .val (.ref sb8), .val (.ref sb13), .val (.ref sb19), .val (.ref sb26), .val (.ref b34), .unset, .unset, .unset, .unset, .unset, .unset, .unset, .unset, .unset, .unset, .unset] [(.ref sb26), (.ref sb19), (.ref sb13), (.ref b53), (.ref b53)]))
  refine gs (fun t k => XS.iloadN X53.here hx rfl (hb hby at_73) rfl k) ?_
  show G (T53.setTop (mkF m 74 #[.val (.int p0), .val (.int p1), .val (.int p2), .val (.int p3), .val (.int p4), .val (.ref sb1), .val (.ref sb4), .val (.ref sb8), .val (.ref sb13), .val (.ref sb19), .val (.ref sb26), .val (.ref b34), .unset, .unset, .unset, .unset, .unset, .unset, .unset, .unset, .unset, .unset, .unset] [(.int p0), (.ref sb26), (.ref sb19), (.ref sb13), (.ref b53), (.ref b53)]))
  obtain ⟨_, _, ⟨T64, L64, k64, n64⟩, -, X64, ⟨Lc64, hQ64, l64, y64, z64⟩, st64⟩ := X53.specialBack hx (y := (⟨"com/example/consensus_to_coverage/consensustocoverage/trecfiles/Judgement", "<init>", "(Ljava/lang/String;Ljava/lang/String;Ljava/lang/String;I)V"⟩ : MethodName)) rfl hown (mvT hZ (hw _ (List.mem_of_getElem? (i := 37) rfl))) (mvT hZ (hw _ (List.mem_of_getElem? (i := 38) rfl))) (mvT hZ (hw _ (List.mem_of_getElem? (i := 39) rfl))) (by decide) (backOf (W := 1) (rm8 l Z a0 hw [] b53 sb13 sb19 sb26 p0 h53 n0 (Nat.le_trans Z0 K63.1) E_b53 F_topic_b53 F_subtopic_b53 F_docId_b53 F_grade_b53 g_b53 US13_q58 US19_q59 US26_q60) hZ (hw _ (List.mem_of_getElem? (i := 39) rfl)) (hw _ (List.mem_of_getElem? (i := 36) rfl)) (by decide) (by decide)) (g := (mkF m 74 #[.val (.int p0), .val (.int p1), .val (.int p2), .val (.int p3), .val (.int p4), .val (.ref sb1), .val (.ref sb4), .val (.ref sb8), .val (.ref sb13), .val (.ref sb19), .val (.ref sb26), .val (.ref b34), .unset, .unset, .unset, .unset, .unset, .unset, .unset, .unset, .unset, .unset, .unset] [(.int p0), (.ref sb26), (.ref sb19), (.ref sb13), (.ref b53), (.ref b53)])) rfl (by rw [hml]; rfl) (Steps.refl _) (a := b53) (argsL := [(.ref sb13), (.ref sb19), (.ref sb26), (.int p0)]) (rest := [(.ref b53)]) (lenOf pd_7 rfl) rfl (by show 2 * 0 + _ ≤ _; exact Nat.le_of_eq rfl) (hb hby at_74) (fun _ _ => ⟨rfl, e53, (by decide : 20 + 0 ≤ _), (by decide : 56 + 0 ≤ _)⟩)
  dsimp only [Pt.U, Pt.locs, Pt.cells, Pt.slots] at X64 l64 y64 z64 st64 hQ64
  subst y64 z64
  obtain ⟨rfl, N64q, Kc64, Ex64, Fa64, Fb64, Fc64, Fd64⟩ := hQ64
  have N64 : Fr n0 L64 := by rw [l64]; exact Fr.app N43 N64q
  refine gs (fun t k => st64.trans k) ?_
  have SC_q65 := own_sta_keepE SC_q54 Kc64 E_b53
  have US1_q66 := US1_q55.keep Kc64
  have US4_q67 := US4_q56.keep Kc64
  have US8_q68 := US8_q57.keep Kc64
  have US13_q69 := US13_q58.keep Kc64
  have US19_q70 := US19_q59.keep Kc64
  have US26_q71 := US26_q60.keep Kc64
  have Ex43_q72 := Ex43_q61.keep Kc64
  have Fd43_q73 := Fd43_q62.keep Kc64 (ninS ne_b34_b53 nin0)
  have E_b53_q74 := E_b53.keep Kc64
  have K75 := K63.trans Kc64 (allS (Or.inr sz_b53) all0)
  show G (T64.setTop (mkF m 77 #[.val (.int p0), .val (.int p1), .val (.int p2), .val (.int p3), .val (.int p4), .val (.ref sb1), .val (.ref sb4), .val (.ref sb8), .val (.ref sb13), .val (.ref sb19), .val (.ref sb26), .val (.ref b34), .unset, .unset, .unset, .unset, .unset, .unset, .unset, .unset, .unset, .unset, .unset] [(.ref b53)]))
  refine gs (fun t k => XS.astore X64.here hx rfl (hb hby at_77) rfl rfl (l' := #[.val (.int p0), .val (.int p1), .val (.int p2), .val (.int p3), .val (.int p4), .val (.ref sb1), .val (.ref sb4), .val (.ref sb8), .val (.ref sb13), .val (.ref sb19), .val (.ref sb26), .val (.ref b34), .val (.ref b53), .unset, .unset, .unset, .unset, .unset, .unset, .unset, .unset, .unset, .unset]) rfl k) ?_
  show G (T64.setTop (mkF m 79 #[.val (.int p0), .val (.int p1), .val (.int p2), .val (.int p3), .val (.int p4), .val (.ref sb1), .val (.ref sb4), .val (.ref sb8), .val (.ref sb13), .val (.ref sb19), .val (.ref sb26), .val (.ref b34), .val (.ref b53), .unset, .unset, .unset, .unset, .unset, .unset, .unset, .unset, .unset, .unset] []))
  obtain ⟨T76, h76, X76, e76, E76, A76, D76, -, st76⟩ := newO X64 hx hZ hown (hw _ (List.mem_of_getElem? (i := 34) rfl)) (hw _ (List.mem_of_getElem? (i := 35) rfl)) (hw _ (List.mem_of_getElem? (i := 36) rfl)) rfl (g := (mkF m 79 #[.val (.int p0), .val (.int p1), .val (.int p2), .val (.int p3), .val (.int p4), .val (.ref sb1), .val (.ref sb4), .val (.ref sb8), .val (.ref sb13), .val (.ref sb19), .val (.ref sb26), .val (.ref b34), .val (.ref b53), .unset, .unset, .unset, .unset, .unset, .unset, .unset, .unset, .unset, .unset] [])) rfl (hb hby at_79) (by decide) (by decide)
  obtain ⟨b76, g76⟩ : ∃ z, z = T64.heap.size := ⟨_, rfl⟩
  rw [← g76] at A76 D76 st76
  have sz_b76 : h0.size ≤ b76 := Nat.le_trans K75.1 (Nat.le_of_eq g76.symm)
  have g_b76 : n0 ≤ b76 := Nat.le_trans Z0 sz_b76
  have ne_sb1_b76 : sb1 ≠ b76 := Nat.ne_of_lt (Nat.lt_of_lt_of_le US1_q66.lt (Nat.le_of_eq g76.symm))
  have ne_sb4_b76 : sb4 ≠ b76 := Nat.ne_of_lt (Nat.lt_of_lt_of_le US4_q67.lt (Nat.le_of_eq g76.symm))
  have ne_sb8_b76 : sb8 ≠ b76 := Nat.ne_of_lt (Nat.lt_of_lt_of_le US8_q68.lt (Nat.le_of_eq g76.symm))
  have ne_sb13_b76 : sb13 ≠ b76 := Nat.ne_of_lt (Nat.lt_of_lt_of_le US13_q69.lt (Nat.le_of_eq g76.symm))
  have ne_sb19_b76 : sb19 ≠ b76 := Nat.ne_of_lt (Nat.lt_of_lt_of_le US19_q70.lt (Nat.le_of_eq g76.symm))
  have ne_sb26_b76 : sb26 ≠ b76 := Nat.ne_of_lt (Nat.lt_of_lt_of_le US26_q71.lt (Nat.le_of_eq g76.symm))
  have ne_b34_b76 : b34 ≠ b76 := Nat.ne_of_lt (Nat.lt_of_lt_of_le Ex43_q72.lt (Nat.le_of_eq g76.symm))
  have ne_b53_b76 : b53 ≠ b76 := Nat.ne_of_lt (Nat.lt_of_lt_of_le Ex64.lt (Nat.le_of_eq g76.symm))
  have SC_q77 := SC_q65.ext E76
  have US1_q78 := US1_q66.ext E76
  have US4_q79 := US4_q67.ext E76
  have US8_q80 := US8_q68.ext E76
  have US13_q81 := US13_q69.ext E76
  have US19_q82 := US19_q70.ext E76
  have US26_q83 := US26_q71.ext E76
  have Ex43_q84 := Ex43_q72.ext E76
  have Fd43_q85 := Fd43_q73.ext E76
  have Ex64_q86 := Ex64.ext E76
  have Fd64_q87 := Fd64.ext E76
  have K88 := K75.ext E76
  have E_b76 := A76
  have F_topic_b76 : Fld Z h76 b76 "com/example/consensus_to_coverage/consensustocoverage/trecfiles/Judgement" "topic" "Ljava/lang/String;" .null := D76 (Or.inr (hw _ (List.mem_of_getElem? (i := 47) rfl))) (ty := (.object "java/lang/String")) (by decide)
  have F_subtopic_b76 : Fld Z h76 b76 "com/example/consensus_to_coverage/consensustocoverage/trecfiles/Judgement" "subtopic" "Ljava/lang/String;" .null := D76 (Or.inr (hw _ (List.mem_of_getElem? (i := 49) rfl))) (ty := (.object "java/lang/String")) (by decide)
  have F_docId_b76 : Fld Z h76 b76 "com/example/consensus_to_coverage/consensustocoverage/trecfiles/Judgement" "docId" "Ljava/lang/String;" .null := D76 (Or.inr (hw _ (List.mem_of_getElem? (i := 51) rfl))) (ty := (.object "java/lang/String")) (by decide)
  have F_grade_b76 : Fld Z h76 b76 "com/example/consensus_to_coverage/consensustocoverage/trecfiles/Judgement" "grade" "I" (.int (0 : Int32)) := D76 (Or.inr (hw _ (List.mem_of_getElem? (i := 53) rfl))) (ty := .int) (by decide)
  refine gs (fun t k => st76 _ k) ?_
  show G (T76.setTop (mkF m 82 #[.val (.int p0), .val (.int p1), .val (.int p2), .val (.int p3), .val (.int p4), .val (.ref sb1), .val (.ref sb4), .val (.ref sb8), .val (.ref sb13), .val (.ref sb19), .val (.ref sb26), .val (.ref b34), .val (.ref b53), .unset, .unset, .unset, .unset, .unset, .unset, .unset, .unset, .unset, .unset] [(.ref b76)]))
  refine gs (fun t k => XS.dup X76.here hx rfl (hb hby at_82) rfl rfl k) ?_
  show G (T76.setTop (mkF m 83 #[.val (.int p0), .val (.int p1), .val (.int p2), .val (.int p3), .val (.int p4), .val (.ref sb1), .val (.ref sb4), .val (.ref sb8), .val (.ref sb13), .val (.ref sb19), .val (.ref sb26), .val (.ref b34), .val (.ref b53), .unset, .unset, .unset, .unset, .unset, .unset, .unset, .unset, .unset, .unset] [(.ref b76), (.ref b76)]))
  refine gs (fun t k => XS.aload X76.here hx rfl (hb hby at_83) rfl rfl k) ?_
  show G (T76.setTop (mkF m 85 #[.val (.int p0), .val (.int p1), .val (.int p2), .val (.int p3), .val (.int p4), .val (.ref sb1), .val (.ref sb4), .val (.ref sb8), .val (.ref sb13), .val (.ref sb19), .val (.ref sb26), .val (.ref b34), .val (.ref b53), .unset, .unset, .unset, .unset, .unset, .unset, .unset, .unset, .unset, .unset] [(.ref sb13), (.ref b76), (.ref b76)]))
  refine gs (fun t k => XS.aload X76.here hx rfl (hb hby at_85) rfl rfl k) ?_
  show G (T76.setTop (mkF m 87 #[.val (.int p0), .val (.int p1), .val (.int p2), .val (.int p3), .val (.int p4), .val (.ref sb1), .val (.ref sb4), .val (.ref sb8), .val (.ref sb13), .val (.ref sb19), .val (.ref sb26), .val (.ref b34), .val (.ref b53), .unset, .unset, .unset, .unset, .unset, .unset, .unset, .unset, .unset, .unset] [(.ref sb4), (.ref sb13), (.ref b76), (.ref b76)]))
  refine gs (fun t k => XS.aload X76.here hx rfl (hb hby at_87) rfl rfl k) ?_
  show G (T76.setTop (mkF m 89 #[.val (.int p0), .val (.int p1), .val (.int p2), .val (.int p3), .val (.int p4), .val (.ref sb1), .val (.ref sb4), .val (.ref sb8), .val (.ref sb13), .val (.ref sb19), .val (.ref sb26), .val (.ref b34), .val (.ref b53), .unset, .unset, .unset, .unset, .unset, .unset, .unset, .unset, .unset, .unset] [(.ref sb26), (.ref sb4), (.ref sb13), (.ref b76), (.ref b76)]))
  refine gs (fun t k => XS.iloadN X76.here hx rfl (hb hby at_89) rfl k) ?_
  show G (T76.setTop (mkF m 90 #[.val (.int p0), .val (.int p1), .val (.int p2), .val (.int p3), .val (.int p4), .val (.ref sb1), .val (.ref sb4), .val (.ref sb8), .val (.ref sb13), .val (.ref sb19), .val (.ref sb26), .val (.ref b34), .val (.ref b53), .unset, .unset, .unset, .unset, .unset, .unset, .unset, .unset, .unset, .unset] [(.int p1), (.ref sb26), (.ref sb4), (.ref sb13), (.ref b76), (.ref b76)]))
  obtain ⟨_, _, ⟨T89, L89, k89, n89⟩, -, X89, ⟨Lc89, hQ89, l89, y89, z89⟩, st89⟩ := X76.specialBack hx (y := (⟨"com/example/consensus_to_coverage/consensustocoverage/trecfiles/Judgement", "<init>", "(Ljava/lang/String;Ljava/lang/String;Ljava/lang/String;I)V"⟩ : MethodName)) rfl hown (mvT hZ (hw _ (List.mem_of_getElem? (i := 37) rfl))) (mvT hZ (hw _ (List.mem_of_getElem? (i := 38) rfl))) (mvT hZ (hw _ (List.mem_of_getElem? (i := 39) rfl))) (by decide) (backOf (W := 1) (rm8 l Z a0 hw [] b76 sb13 sb4 sb26 p1 h76 n0 (Nat.le_trans Z0 K88.1) E_b76 F_topic_b76 F_subtopic_b76 F_docId_b76 F_grade_b76 g_b76 US13_q81 US4_q79 US26_q83) hZ (hw _ (List.mem_of_getElem? (i := 39) rfl)) (hw _ (List.mem_of_getElem? (i := 36) rfl)) (by decide) (by decide)) (g := (mkF m 90 #[.val (.int p0), .val (.int p1), .val (.int p2), .val (.int p3), .val (.int p4), .val (.ref sb1), .val (.ref sb4), .val (.ref sb8), .val (.ref sb13), .val (.ref sb19), .val (.ref sb26), .val (.ref b34), .val (.ref b53), .unset, .unset, .unset, .unset, .unset, .unset, .unset, .unset, .unset, .unset] [(.int p1), (.ref sb26), (.ref sb4), (.ref sb13), (.ref b76), (.ref b76)])) rfl (by rw [hml]; rfl) (Steps.refl _) (a := b76) (argsL := [(.ref sb13), (.ref sb4), (.ref sb26), (.int p1)]) (rest := [(.ref b76)]) (lenOf pd_7 rfl) rfl (by show 2 * 0 + _ ≤ _; exact Nat.le_of_eq rfl) (hb hby at_90) (fun _ _ => ⟨rfl, e76, (by decide : 21 + 0 ≤ _), (by decide : 60 + 0 ≤ _)⟩)
  dsimp only [Pt.U, Pt.locs, Pt.cells, Pt.slots] at X89 l89 y89 z89 st89 hQ89
  subst y89 z89
  obtain ⟨rfl, N89q, Kc89, Ex89, Fa89, Fb89, Fc89, Fd89⟩ := hQ89
  have N89 : Fr n0 L89 := by rw [l89]; exact Fr.app N64 N89q
  refine gs (fun t k => st89.trans k) ?_
  have SC_q90 := own_sta_keepE SC_q77 Kc89 E_b76
  have US1_q91 := US1_q78.keep Kc89
  have US4_q92 := US4_q79.keep Kc89
  have US8_q93 := US8_q80.keep Kc89
  have US13_q94 := US13_q81.keep Kc89
  have US19_q95 := US19_q82.keep Kc89
  have US26_q96 := US26_q83.keep Kc89
  have Ex43_q97 := Ex43_q84.keep Kc89
  have Fd43_q98 := Fd43_q85.keep Kc89 (ninS ne_b34_b76 nin0)
  have Ex64_q99 := Ex64_q86.keep Kc89
  have Fd64_q100 := Fd64_q87.keep Kc89 (ninS ne_b53_b76 nin0)
  have E_b76_q101 := E_b76.keep Kc89
  have K102 := K88.trans Kc89 (allS (Or.inr sz_b76) all0)
  show G (T89.setTop (mkF m 93 #[.val (.int p0), .val (.int p1), .val (.int p2), .val (.int p3), .val (.int p4), .val (.ref sb1), .val (.ref sb4), .val (.ref sb8), .val (.ref sb13), .val (.ref sb19), .val (.ref sb26), .val (.ref b34), .val (.ref b53), .unset, .unset, .unset, .unset, .unset, .unset, .unset, .unset, .unset, .unset] [(.ref b76)]))
  refine gs (fun t k => XS.astore X89.here hx rfl (hb hby at_93) rfl rfl (l' := #[.val (.int p0), .val (.int p1), .val (.int p2), .val (.int p3), .val (.int p4), .val (.ref sb1), .val (.ref sb4), .val (.ref sb8), .val (.ref sb13), .val (.ref sb19), .val (.ref sb26), .val (.ref b34), .val (.ref b53), .val (.ref b76), .unset, .unset, .unset, .unset, .unset, .unset, .unset, .unset, .unset]) rfl k) ?_
  show G (T89.setTop (mkF m 95 #[.val (.int p0), .val (.int p1), .val (.int p2), .val (.int p3), .val (.int p4), .val (.ref sb1), .val (.ref sb4), .val (.ref sb8), .val (.ref sb13), .val (.ref sb19), .val (.ref sb26), .val (.ref b34), .val (.ref b53), .val (.ref b76), .unset, .unset, .unset, .unset, .unset, .unset, .unset, .unset, .unset] []))
  obtain ⟨T103, h103, X103, e103, E103, A103, D103, -, st103⟩ := newO X89 hx hZ hown (hw _ (List.mem_of_getElem? (i := 34) rfl)) (hw _ (List.mem_of_getElem? (i := 35) rfl)) (hw _ (List.mem_of_getElem? (i := 36) rfl)) rfl (g := (mkF m 95 #[.val (.int p0), .val (.int p1), .val (.int p2), .val (.int p3), .val (.int p4), .val (.ref sb1), .val (.ref sb4), .val (.ref sb8), .val (.ref sb13), .val (.ref sb19), .val (.ref sb26), .val (.ref b34), .val (.ref b53), .val (.ref b76), .unset, .unset, .unset, .unset, .unset, .unset, .unset, .unset, .unset] [])) rfl (hb hby at_95) (by decide) (by decide)
  obtain ⟨b103, g103⟩ : ∃ z, z = T89.heap.size := ⟨_, rfl⟩
  rw [← g103] at A103 D103 st103
  have sz_b103 : h0.size ≤ b103 := Nat.le_trans K102.1 (Nat.le_of_eq g103.symm)
  have g_b103 : n0 ≤ b103 := Nat.le_trans Z0 sz_b103
  have ne_sb1_b103 : sb1 ≠ b103 := Nat.ne_of_lt (Nat.lt_of_lt_of_le US1_q91.lt (Nat.le_of_eq g103.symm))
  have ne_sb4_b103 : sb4 ≠ b103 := Nat.ne_of_lt (Nat.lt_of_lt_of_le US4_q92.lt (Nat.le_of_eq g103.symm))
  have ne_sb8_b103 : sb8 ≠ b103 := Nat.ne_of_lt (Nat.lt_of_lt_of_le US8_q93.lt (Nat.le_of_eq g103.symm))
  have ne_sb13_b103 : sb13 ≠ b103 := Nat.ne_of_lt (Nat.lt_of_lt_of_le US13_q94.lt (Nat.le_of_eq g103.symm))
  have ne_sb19_b103 : sb19 ≠ b103 := Nat.ne_of_lt (Nat.lt_of_lt_of_le US19_q95.lt (Nat.le_of_eq g103.symm))
  have ne_sb26_b103 : sb26 ≠ b103 := Nat.ne_of_lt (Nat.lt_of_lt_of_le US26_q96.lt (Nat.le_of_eq g103.symm))
  have ne_b34_b103 : b34 ≠ b103 := Nat.ne_of_lt (Nat.lt_of_lt_of_le Ex43_q97.lt (Nat.le_of_eq g103.symm))
  have ne_b53_b103 : b53 ≠ b103 := Nat.ne_of_lt (Nat.lt_of_lt_of_le Ex64_q99.lt (Nat.le_of_eq g103.symm))
  have ne_b76_b103 : b76 ≠ b103 := Nat.ne_of_lt (Nat.lt_of_lt_of_le Ex89.lt (Nat.le_of_eq g103.symm))
  have SC_q104 := SC_q90.ext E103
  have US1_q105 := US1_q91.ext E103
  have US4_q106 := US4_q92.ext E103
  have US8_q107 := US8_q93.ext E103
  have US13_q108 := US13_q94.ext E103
  have US19_q109 := US19_q95.ext E103
  have US26_q110 := US26_q96.ext E103
  have Ex43_q111 := Ex43_q97.ext E103
  have Fd43_q112 := Fd43_q98.ext E103
  have Ex64_q113 := Ex64_q99.ext E103
  have Fd64_q114 := Fd64_q100.ext E103
  have Ex89_q115 := Ex89.ext E103
  have Fd89_q116 := Fd89.ext E103
  have K117 := K102.ext E103
  have E_b103 := A103
  have F_topic_b103 : Fld Z h103 b103 "com/example/consensus_to_coverage/consensustocoverage/trecfiles/Judgement" "topic" "Ljava/lang/String;" .null := D103 (Or.inr (hw _ (List.mem_of_getElem? (i := 47) rfl))) (ty := (.object "java/lang/String")) (by decide)
  have F_subtopic_b103 : Fld Z h103 b103 "com/example/consensus_to_coverage/consensustocoverage/trecfiles/Judgement" "subtopic" "Ljava/lang/String;" .null := D103 (Or.inr (hw _ (List.mem_of_getElem? (i := 49) rfl))) (ty := (.object "java/lang/String")) (by decide)
  have F_docId_b103 : Fld Z h103 b103 "com/example/consensus_to_coverage/consensustocoverage/trecfiles/Judgement" "docId" "Ljava/lang/String;" .null := D103 (Or.inr (hw _ (List.mem_of_getElem? (i := 51) rfl))) (ty := (.object "java/lang/String")) (by decide)
  have F_grade_b103 : Fld Z h103 b103 "com/example/consensus_to_coverage/consensustocoverage/trecfiles/Judgement" "grade" "I" (.int (0 : Int32)) := D103 (Or.inr (hw _ (List.mem_of_getElem? (i := 53) rfl))) (ty := .int) (by decide)
  refine gs (fun t k => st103 _ k) ?_
  show G (T103.setTop (mkF m 98 #[.val (.int p0), .val (.int p1), .val (.int p2), .val (.int p3), .val (.int p4), .val (.ref sb1), .val (.ref sb4), .val (.ref sb8), .val (.ref sb13), .val (.ref sb19), .val (.ref sb26), .val (.ref b34), .val (.ref b53), .val (.ref b76), .unset, .unset, .unset, .unset, .unset, .unset, .unset, .unset, .unset] [(.ref b103)]))
  refine gs (fun t k => XS.dup X103.here hx rfl (hb hby at_98) rfl rfl k) ?_
  show G (T103.setTop (mkF m 99 #[.val (.int p0), .val (.int p1), .val (.int p2), .val (.int p3), .val (.int p4), .val (.ref sb1), .val (.ref sb4), .val (.ref sb8), .val (.ref sb13), .val (.ref sb19), .val (.ref sb26), .val (.ref b34), .val (.ref b53), .val (.ref b76), .unset, .unset, .unset, .unset, .unset, .unset, .unset, .unset, .unset] [(.ref b103), (.ref b103)]))
  refine gs (fun t k => XS.aload X103.here hx rfl (hb hby at_99) rfl rfl k) ?_
  show G (T103.setTop (mkF m 101 #[.val (.int p0), .val (.int p1), .val (.int p2), .val (.int p3), .val (.int p4), .val (.ref sb1), .val (.ref sb4), .val (.ref sb8), .val (.ref sb13), .val (.ref sb19), .val (.ref sb26), .val (.ref b34), .val (.ref b53), .val (.ref b76), .unset, .unset, .unset, .unset, .unset, .unset, .unset, .unset, .unset] [(.ref sb1), (.ref b103), (.ref b103)]))
  refine gs (fun t k => XS.aload X103.here hx rfl (hb hby at_101) rfl rfl k) ?_
  show G (T103.setTop (mkF m 103 #[.val (.int p0), .val (.int p1), .val (.int p2), .val (.int p3), .val (.int p4), .val (.ref sb1), .val (.ref sb4), .val (.ref sb8), .val (.ref sb13), .val (.ref sb19), .val (.ref sb26), .val (.ref b34), .val (.ref b53), .val (.ref b76), .unset, .unset, .unset, .unset, .unset, .unset, .unset, .unset, .unset] [(.ref sb19), (.ref sb1), (.ref b103), (.ref b103)]))
  refine gs (fun t k => XS.aload X103.here hx rfl (hb hby at_103) rfl rfl k) ?_
  show G (T103.setTop (mkF m 105 #[.val (.int p0), .val (.int p1), .val (.int p2), .val (.int p3), .val (.int p4), .val (.ref sb1), .val (.ref sb4), .val (.ref sb8), .val (.ref sb13), .val (.ref sb19), .val (.ref sb26), .val (.ref b34), .val (.ref b53), .val (.ref b76), .unset, .unset, .unset, .unset, .unset, .unset, .unset, .unset, .unset] [(.ref sb8), (.ref sb19), (.ref sb1), (.ref b103), (.ref b103)]))
  refine gs (fun t k => XS.iconst X103.here hx rfl (hb hby at_105) k) ?_
  show G (T103.setTop (mkF m 106 #[.val (.int p0), .val (.int p1), .val (.int p2), .val (.int p3), .val (.int p4), .val (.ref sb1), .val (.ref sb4), .val (.ref sb8), .val (.ref sb13), .val (.ref sb19), .val (.ref sb26), .val (.ref b34), .val (.ref b53), .val (.ref b76), .unset, .unset, .unset, .unset, .unset, .unset, .unset, .unset, .unset] [(.int (0 : Int32)), (.ref sb8), (.ref sb19), (.ref sb1), (.ref b103), (.ref b103)]))
  obtain ⟨_, _, ⟨T118, L118, k118, n118⟩, -, X118, ⟨Lc118, hQ118, l118, y118, z118⟩, st118⟩ := X103.specialBack hx (y := (⟨"com/example/consensus_to_coverage/consensustocoverage/trecfiles/Judgement", "<init>", "(Ljava/lang/String;Ljava/lang/String;Ljava/lang/String;I)V"⟩ : MethodName)) rfl hown (mvT hZ (hw _ (List.mem_of_getElem? (i := 37) rfl))) (mvT hZ (hw _ (List.mem_of_getElem? (i := 38) rfl))) (mvT hZ (hw _ (List.mem_of_getElem? (i := 39) rfl))) (by decide) (backOf (W := 1) (rm8 l Z a0 hw [] b103 sb1 sb19 sb8 (0 : Int32) h103 n0 (Nat.le_trans Z0 K117.1) E_b103 F_topic_b103 F_subtopic_b103 F_docId_b103 F_grade_b103 g_b103 US1_q105 US19_q109 US8_q107) hZ (hw _ (List.mem_of_getElem? (i := 39) rfl)) (hw _ (List.mem_of_getElem? (i := 36) rfl)) (by decide) (by decide)) (g := (mkF m 106 #[.val (.int p0), .val (.int p1), .val (.int p2), .val (.int p3), .val (.int p4), .val (.ref sb1), .val (.ref sb4), .val (.ref sb8), .val (.ref sb13), .val (.ref sb19), .val (.ref sb26), .val (.ref b34), .val (.ref b53), .val (.ref b76), .unset, .unset, .unset, .unset, .unset, .unset, .unset, .unset, .unset] [(.int (0 : Int32)), (.ref sb8), (.ref sb19), (.ref sb1), (.ref b103), (.ref b103)])) rfl (by rw [hml]; rfl) (Steps.refl _) (a := b103) (argsL := [(.ref sb1), (.ref sb19), (.ref sb8), (.int (0 : Int32))]) (rest := [(.ref b103)]) (lenOf pd_7 rfl) rfl (by show 2 * 0 + _ ≤ _; exact Nat.le_of_eq rfl) (hb hby at_106) (fun _ _ => ⟨rfl, e103, (by decide : 22 + 0 ≤ _), (by decide : 64 + 0 ≤ _)⟩)
  dsimp only [Pt.U, Pt.locs, Pt.cells, Pt.slots] at X118 l118 y118 z118 st118 hQ118
  subst y118 z118
  obtain ⟨rfl, N118q, Kc118, Ex118, Fa118, Fb118, Fc118, Fd118⟩ := hQ118
  have N118 : Fr n0 L118 := by rw [l118]; exact Fr.app N89 N118q
  refine gs (fun t k => st118.trans k) ?_
  have SC_q119 := own_sta_keepE SC_q104 Kc118 E_b103
  have US1_q120 := US1_q105.keep Kc118
  have US4_q121 := US4_q106.keep Kc118
  have US8_q122 := US8_q107.keep Kc118
  have US13_q123 := US13_q108.keep Kc118
  have US19_q124 := US19_q109.keep Kc118
  have US26_q125 := US26_q110.keep Kc118
  have Ex43_q126 := Ex43_q111.keep Kc118
  have Fd43_q127 := Fd43_q112.keep Kc118 (ninS ne_b34_b103 nin0)
  have Ex64_q128 := Ex64_q113.keep Kc118
  have Fd64_q129 := Fd64_q114.keep Kc118 (ninS ne_b53_b103 nin0)
  have Ex89_q130 := Ex89_q115.keep Kc118
  have Fd89_q131 := Fd89_q116.keep Kc118 (ninS ne_b76_b103 nin0)
  have E_b103_q132 := E_b103.keep Kc118
  have K133 := K117.trans Kc118 (allS (Or.inr sz_b103) all0)
  show G (T118.setTop (mkF m 109 #[.val (.int p0), .val (.int p1), .val (.int p2), .val (.int p3), .val (.int p4), .val (.ref sb1), .val (.ref sb4), .val (.ref sb8), .val (.ref sb13), .val (.ref sb19), .val (.ref sb26), .val (.ref b34), .val (.ref b53), .val (.ref b76), .unset, .unset, .unset, .unset, .unset, .unset, .unset, .unset, .unset] [(.ref b103)]))
  refine gs (fun t k => XS.astore X118.here hx rfl (hb hby at_109) rfl rfl (l' := #[.val (.int p0), .val (.int p1), .val (.int p2), .val (.int p3), .val (.int p4), .val (.ref sb1), .val (.ref sb4), .val (.ref sb8), .val (.ref sb13), .val (.ref sb19), .val (.ref sb26), .val (.ref b34), .val (.ref b53), .val (.ref b76), .val (.ref b103), .unset, .unset, .unset, .unset, .unset, .unset, .unset, .unset]) rfl k) ?_
  show G (T118.setTop (mkF m 111 #[.val (.int p0), .val (.int p1), .val (.int p2), .val (.int p3), .val (.int p4), .val (.ref sb1), .val (.ref sb4), .val (.ref sb8), .val (.ref sb13), .val (.ref sb19), .val (.ref sb26), .val (.ref b34), .val (.ref b53), .val (.ref b76), .val (.ref b103), .unset, .unset, .unset, .unset, .unset, .unset, .unset, .unset] []))
  obtain ⟨T134, h134, X134, e134, E134, A134, D134, -, st134⟩ := newO X118 hx hZ hown (hw _ (List.mem_of_getElem? (i := 34) rfl)) (hw _ (List.mem_of_getElem? (i := 35) rfl)) (hw _ (List.mem_of_getElem? (i := 36) rfl)) rfl (g := (mkF m 111 #[.val (.int p0), .val (.int p1), .val (.int p2), .val (.int p3), .val (.int p4), .val (.ref sb1), .val (.ref sb4), .val (.ref sb8), .val (.ref sb13), .val (.ref sb19), .val (.ref sb26), .val (.ref b34), .val (.ref b53), .val (.ref b76), .val (.ref b103), .unset, .unset, .unset, .unset, .unset, .unset, .unset, .unset] [])) rfl (hb hby at_111) (by decide) (by decide)
  obtain ⟨b134, g134⟩ : ∃ z, z = T118.heap.size := ⟨_, rfl⟩
  rw [← g134] at A134 D134 st134
  have sz_b134 : h0.size ≤ b134 := Nat.le_trans K133.1 (Nat.le_of_eq g134.symm)
  have g_b134 : n0 ≤ b134 := Nat.le_trans Z0 sz_b134
  have ne_sb1_b134 : sb1 ≠ b134 := Nat.ne_of_lt (Nat.lt_of_lt_of_le US1_q120.lt (Nat.le_of_eq g134.symm))
  have ne_sb4_b134 : sb4 ≠ b134 := Nat.ne_of_lt (Nat.lt_of_lt_of_le US4_q121.lt (Nat.le_of_eq g134.symm))
  have ne_sb8_b134 : sb8 ≠ b134 := Nat.ne_of_lt (Nat.lt_of_lt_of_le US8_q122.lt (Nat.le_of_eq g134.symm))
  have ne_sb13_b134 : sb13 ≠ b134 := Nat.ne_of_lt (Nat.lt_of_lt_of_le US13_q123.lt (Nat.le_of_eq g134.symm))
  have ne_sb19_b134 : sb19 ≠ b134 := Nat.ne_of_lt (Nat.lt_of_lt_of_le US19_q124.lt (Nat.le_of_eq g134.symm))
  have ne_sb26_b134 : sb26 ≠ b134 := Nat.ne_of_lt (Nat.lt_of_lt_of_le US26_q125.lt (Nat.le_of_eq g134.symm))
  have ne_b34_b134 : b34 ≠ b134 := Nat.ne_of_lt (Nat.lt_of_lt_of_le Ex43_q126.lt (Nat.le_of_eq g134.symm))
  have ne_b53_b134 : b53 ≠ b134 := Nat.ne_of_lt (Nat.lt_of_lt_of_le Ex64_q128.lt (Nat.le_of_eq g134.symm))
  have ne_b76_b134 : b76 ≠ b134 := Nat.ne_of_lt (Nat.lt_of_lt_of_le Ex89_q130.lt (Nat.le_of_eq g134.symm))
  have ne_b103_b134 : b103 ≠ b134 := Nat.ne_of_lt (Nat.lt_of_lt_of_le Ex118.lt (Nat.le_of_eq g134.symm))
  have SC_q135 := SC_q119.ext E134
  have US1_q136 := US1_q120.ext E134
  have US4_q137 := US4_q121.ext E134
  have US8_q138 := US8_q122.ext E134
  have US13_q139 := US13_q123.ext E134
  have US19_q140 := US19_q124.ext E134
  have US26_q141 := US26_q125.ext E134
  have Ex43_q142 := Ex43_q126.ext E134
  have Fd43_q143 := Fd43_q127.ext E134
  have Ex64_q144 := Ex64_q128.ext E134
  have Fd64_q145 := Fd64_q129.ext E134
  have Ex89_q146 := Ex89_q130.ext E134
  have Fd89_q147 := Fd89_q131.ext E134
  have Ex118_q148 := Ex118.ext E134
  have Fd118_q149 := Fd118.ext E134
  have K150 := K133.ext E134
  have E_b134 := A134
  have F_topic_b134 : Fld Z h134 b134 "com/example/consensus_to_coverage/consensustocoverage/trecfiles/Judgement" "topic" "Ljava/lang/String;" .null := D134 (Or.inr (hw _ (List.mem_of_getElem? (i := 47) rfl))) (ty := (.object "java/lang/String")) (by decide)
  have F_subtopic_b134 : Fld Z h134 b134 "com/example/consensus_to_coverage/consensustocoverage/trecfiles/Judgement" "subtopic" "Ljava/lang/String;" .null := D134 (Or.inr (hw _ (List.mem_of_getElem? (i := 49) rfl))) (ty := (.object "java/lang/String")) (by decide)
  have F_docId_b134 : Fld Z h134 b134 "com/example/consensus_to_coverage/consensustocoverage/trecfiles/Judgement" "docId" "Ljava/lang/String;" .null := D134 (Or.inr (hw _ (List.mem_of_getElem? (i := 51) rfl))) (ty := (.object "java/lang/String")) (by decide)
  have F_grade_b134 : Fld Z h134 b134 "com/example/consensus_to_coverage/consensustocoverage/trecfiles/Judgement" "grade" "I" (.int (0 : Int32)) := D134 (Or.inr (hw _ (List.mem_of_getElem? (i := 53) rfl))) (ty := .int) (by decide)
  refine gs (fun t k => st134 _ k) ?_
  show G (T134.setTop (mkF m 114 #[.val (.int p0), .val (.int p1), .val (.int p2), .val (.int p3), .val (.int p4), .val (.ref sb1), .val (.ref sb4), .val (.ref sb8), .val (.ref sb13), .val (.ref sb19), .val (.ref sb26), .val (.ref b34), .val (.ref b53), .val (.ref b76), .val (.ref b103), .unset, .unset, .unset, .unset, .unset, .unset, .unset, .unset] [(.ref b134)]))
  refine gs (fun t k => XS.dup X134.here hx rfl (hb hby at_114) rfl rfl k) ?_
  show G (T134.setTop (mkF m 115 #[.val (.int p0), .val (.int p1), .val (.int p2), .val (.int p3), .val (.int p4), .val (.ref sb1), .val (.ref sb4), .val (.ref sb8), .val (.ref sb13), .val (.ref sb19), .val (.ref sb26), .val (.ref b34), .val (.ref b53), .val (.ref b76), .val (.ref b103), .unset, .unset, .unset, .unset, .unset, .unset, .unset, .unset] [(.ref b134), (.ref b134)]))
  refine gs (fun t k => XS.aload X134.here hx rfl (hb hby at_115) rfl rfl k) ?_
  show G (T134.setTop (mkF m 117 #[.val (.int p0), .val (.int p1), .val (.int p2), .val (.int p3), .val (.int p4), .val (.ref sb1), .val (.ref sb4), .val (.ref sb8), .val (.ref sb13), .val (.ref sb19), .val (.ref sb26), .val (.ref b34), .val (.ref b53), .val (.ref b76), .val (.ref b103), .unset, .unset, .unset, .unset, .unset, .unset, .unset, .unset] [(.ref sb4), (.ref b134), (.ref b134)]))
  refine gs (fun t k => XS.aload X134.here hx rfl (hb hby at_117) rfl rfl k) ?_
  show G (T134.setTop (mkF m 119 #[.val (.int p0), .val (.int p1), .val (.int p2), .val (.int p3), .val (.int p4), .val (.ref sb1), .val (.ref sb4), .val (.ref sb8), .val (.ref sb13), .val (.ref sb19), .val (.ref sb26), .val (.ref b34), .val (.ref b53), .val (.ref b76), .val (.ref b103), .unset, .unset, .unset, .unset, .unset, .unset, .unset, .unset] [(.ref sb8), (.ref sb4), (.ref b134), (.ref b134)]))
  refine gs (fun t k => XS.aload X134.here hx rfl (hb hby at_119) rfl rfl k) ?_
  show G (T134.setTop (mkF m 121 #[.val (.int p0), .val (.int p1), .val (.int p2), .val (.int p3), .val (.int p4), .val (.ref sb1), .val (.ref sb4), .val (.ref sb8), .val (.ref sb13), .val (.ref sb19), .val (.ref sb26), .val (.ref b34), .val (.ref b53), .val (.ref b76), .val (.ref b103), .unset, .unset, .unset, .unset, .unset, .unset, .unset, .unset] [(.ref sb13), (.ref sb8), (.ref sb4), (.ref b134), (.ref b134)]))
  refine gs (fun t k => XS.iconst X134.here hx rfl (hb hby at_121) k) ?_
  show G (T134.setTop (mkF m 122 #[.val (.int p0), .val (.int p1), .val (.int p2), .val (.int p3), .val (.int p4), .val (.ref sb1), .val (.ref sb4), .val (.ref sb8), .val (.ref sb13), .val (.ref sb19), .val (.ref sb26), .val (.ref b34), .val (.ref b53), .val (.ref b76), .val (.ref b103), .unset, .unset, .unset, .unset, .unset, .unset, .unset, .unset] [(.int (1 : Int32)), (.ref sb13), (.ref sb8), (.ref sb4), (.ref b134), (.ref b134)]))
  obtain ⟨_, _, ⟨T151, L151, k151, n151⟩, -, X151, ⟨Lc151, hQ151, l151, y151, z151⟩, st151⟩ := X134.specialBack hx (y := (⟨"com/example/consensus_to_coverage/consensustocoverage/trecfiles/Judgement", "<init>", "(Ljava/lang/String;Ljava/lang/String;Ljava/lang/String;I)V"⟩ : MethodName)) rfl hown (mvT hZ (hw _ (List.mem_of_getElem? (i := 37) rfl))) (mvT hZ (hw _ (List.mem_of_getElem? (i := 38) rfl))) (mvT hZ (hw _ (List.mem_of_getElem? (i := 39) rfl))) (by decide) (backOf (W := 1) (rm8 l Z a0 hw [] b134 sb4 sb8 sb13 (1 : Int32) h134 n0 (Nat.le_trans Z0 K150.1) E_b134 F_topic_b134 F_subtopic_b134 F_docId_b134 F_grade_b134 g_b134 US4_q137 US8_q138 US13_q139) hZ (hw _ (List.mem_of_getElem? (i := 39) rfl)) (hw _ (List.mem_of_getElem? (i := 36) rfl)) (by decide) (by decide)) (g := (mkF m 122 #[.val (.int p0), .val (.int p1), .val (.int p2), .val (.int p3), .val (.int p4), .val (.ref sb1), .val (.ref sb4), .val (.ref sb8), .val (.ref sb13), .val (.ref sb19), .val (.ref sb26), .val (.ref b34), .val (.ref b53), .val (.ref b76), .val (.ref b103), .unset, .unset, .unset, .unset, .unset, .unset, .unset, .unset] [(.int (1 : Int32)), (.ref sb13), (.ref sb8), (.ref sb4), (.ref b134), (.ref b134)])) rfl (by rw [hml]; rfl) (Steps.refl _) (a := b134) (argsL := [(.ref sb4), (.ref sb8), (.ref sb13), (.int (1 : Int32))]) (rest := [(.ref b134)]) (lenOf pd_7 rfl) rfl (by show 2 * 0 + _ ≤ _; exact Nat.le_of_eq rfl) (hb hby at_122) (fun _ _ => ⟨rfl, e134, (by decide : 23 + 0 ≤ _), (by decide : 68 + 0 ≤ _)⟩)
  dsimp only [Pt.U, Pt.locs, Pt.cells, Pt.slots] at X151 l151 y151 z151 st151 hQ151
  subst y151 z151
  obtain ⟨rfl, N151q, Kc151, Ex151, Fa151, Fb151, Fc151, Fd151⟩ := hQ151
  have N151 : Fr n0 L151 := by rw [l151]; exact Fr.app N118 N151q
  refine gs (fun t k => st151.trans k) ?_
  have SC_q152 := own_sta_keepE SC_q135 Kc151 E_b134
  have US1_q153 := US1_q136.keep Kc151
  have US4_q154 := US4_q137.keep Kc151
  have US8_q155 := US8_q138.keep Kc151
  have US13_q156 := US13_q139.keep Kc151
  have US19_q157 := US19_q140.keep Kc151
  have US26_q158 := US26_q141.keep Kc151
  have Ex43_q159 := Ex43_q142.keep Kc151
  have Fd43_q160 := Fd43_q143.keep Kc151 (ninS ne_b34_b134 nin0)
  have Ex64_q161 := Ex64_q144.keep Kc151
  have Fd64_q162 := Fd64_q145.keep Kc151 (ninS ne_b53_b134 nin0)
  have Ex89_q163 := Ex89_q146.keep Kc151
  have Fd89_q164 := Fd89_q147.keep Kc151 (ninS ne_b76_b134 nin0)
  have Ex118_q165 := Ex118_q148.keep Kc151
  have Fd118_q166 := Fd118_q149.keep Kc151 (ninS ne_b103_b134 nin0)
  have E_b134_q167 := E_b134.keep Kc151
  have K168 := K150.trans Kc151 (allS (Or.inr sz_b134) all0)
  show G (T151.setTop (mkF m 125 #[.val (.int p0), .val (.int p1), .val (.int p2), .val (.int p3), .val (.int p4), .val (.ref sb1), .val (.ref sb4), .val (.ref sb8), .val (.ref sb13), .val (.ref sb19), .val (.ref sb26), .val (.ref b34), .val (.ref b53), .val (.ref b76), .val (.ref b103), .unset, .unset, .unset, .unset, .unset, .unset, .unset, .unset] [(.ref b134)]))
  refine gs (fun t k => XS.astore X151.here hx rfl (hb hby at_125) rfl rfl (l' := #[.val (.int p0), .val (.int p1), .val (.int p2), .val (.int p3), .val (.int p4), .val (.ref sb1), .val (.ref sb4), .val (.ref sb8), .val (.ref sb13), .val (.ref sb19), .val (.ref sb26), .val (.ref b34), .val (.ref b53), .val (.ref b76), .val (.ref b103), .val (.ref b134), .unset, .unset, .unset, .unset, .unset, .unset, .unset]) rfl k) ?_
  show G (T151.setTop (mkF m 127 #[.val (.int p0), .val (.int p1), .val (.int p2), .val (.int p3), .val (.int p4), .val (.ref sb1), .val (.ref sb4), .val (.ref sb8), .val (.ref sb13), .val (.ref sb19), .val (.ref sb26), .val (.ref b34), .val (.ref b53), .val (.ref b76), .val (.ref b103), .val (.ref b134), .unset, .unset, .unset, .unset, .unset, .unset, .unset] []))
  refine gs (fun t k => XS.aload X151.here hx rfl (hb hby at_127) rfl rfl k) ?_
  show G (T151.setTop (mkF m 129 #[.val (.int p0), .val (.int p1), .val (.int p2), .val (.int p3), .val (.int p4), .val (.ref sb1), .val (.ref sb4), .val (.ref sb8), .val (.ref sb13), .val (.ref sb19), .val (.ref sb26), .val (.ref b34), .val (.ref b53), .val (.ref b76), .val (.ref b103), .val (.ref b134), .unset, .unset, .unset, .unset, .unset, .unset, .unset] [(.ref b34)]))
  obtain ⟨cq169, kq169, q169a, q169b, q169c⟩ := isOf hZ rfl Ex43_q159
  obtain ⟨_, _, ⟨T169, L169, k169, n169⟩, -, X169, ⟨Lc169, hQ169, l169, y169, z169⟩, st169⟩ := X151.virtualBack hx (y := (⟨"com/example/consensus_to_coverage/consensustocoverage/trecfiles/Judgement", "isRelevant", "()Z"⟩ : MethodName)) (z := (⟨"com/example/consensus_to_coverage/consensustocoverage/trecfiles/Judgement", "isRelevant", "()Z"⟩ : MethodName)) hown (mvT hZ (hw _ (List.mem_of_getElem? (i := 54) rfl))) (mvT hZ (hw _ (List.mem_of_getElem? (i := 55) rfl))) (notFace_of_selects (args := #[]) (mvT hZ (hw _ (List.mem_of_getElem? (i := 57) rfl)))) (mvT hZ (hw _ (List.mem_of_getElem? (i := 57) rfl))) (mvT hZ (hw _ (List.mem_of_getElem? (i := 56) rfl))) (by decide) (backOf (W := 0) (rm10 l Z a0 hw [] b34 p0 T151.heap n0 (Nat.le_trans Z0 K168.1) Fd43_q160) hZ (hw _ (List.mem_of_getElem? (i := 58) rfl)) (hw _ (List.mem_of_getElem? (i := 36) rfl)) (by decide) (by decide)) q169a q169c (g := (mkF m 129 #[.val (.int p0), .val (.int p1), .val (.int p2), .val (.int p3), .val (.int p4), .val (.ref sb1), .val (.ref sb4), .val (.ref sb8), .val (.ref sb13), .val (.ref sb19), .val (.ref sb26), .val (.ref b34), .val (.ref b53), .val (.ref b76), .val (.ref b103), .val (.ref b134), .unset, .unset, .unset, .unset, .unset, .unset, .unset] [(.ref b34)])) rfl (by rw [hml]; rfl) (Steps.refl _) (argsL := []) (rest := []) (lenOf pd_8 rfl) rfl (by show 2 * 0 + _ ≤ _; exact Nat.le_of_eq rfl) (hb hby at_129) (fun _ _ => ⟨rfl, rfl, (by decide : 23 + 0 ≤ _), (by decide : 68 + 0 ≤ _)⟩)
  dsimp only [Pt.U, Pt.locs, Pt.cells, Pt.slots] at X169 l169 y169 z169 st169 hQ169
  subst y169 z169
  obtain ⟨rfl, N169q, e169⟩ := hQ169
  have N169 : Fr n0 L169 := by rw [l169]; exact Fr.app N151 N169q
  refine gs (fun t k => st169.trans k) ?_
  show G (T169.setTop (mkF m 132 #[.val (.int p0), .val (.int p1), .val (.int p2), .val (.int p3), .val (.int p4), .val (.ref sb1), .val (.ref sb4), .val (.ref sb8), .val (.ref sb13), .val (.ref sb19), .val (.ref sb26), .val (.ref b34), .val (.ref b53), .val (.ref b76), .val (.ref b103), .val (.ref b134), .unset, .unset, .unset, .unset, .unset, .unset, .unset] [(.int (own_r p0))]))
  refine gs (fun t k => XS.istore X169.here hx rfl (hb hby at_132) rfl (l' := #[.val (.int p0), .val (.int p1), .val (.int p2), .val (.int p3), .val (.int p4), .val (.ref sb1), .val (.ref sb4), .val (.ref sb8), .val (.ref sb13), .val (.ref sb19), .val (.ref sb26), .val (.ref b34), .val (.ref b53), .val (.ref b76), .val (.ref b103), .val (.ref b134), .val (.int (own_r p0)), .unset, .unset, .unset, .unset, .unset, .unset]) rfl k) ?_
  show G (T169.setTop (mkF m 134 #[.val (.int p0), .val (.int p1), .val (.int p2), .val (.int p3), .val (.int p4), .val (.ref sb1), .val (.ref sb4), .val (.ref sb8), .val (.ref sb13), .val (.ref sb19), .val (.ref sb26), .val (.ref b34), .val (.ref b53), .val (.ref b76), .val (.ref b103), .val (.ref b134), .val (.int (own_r p0)), .unset, .unset, .unset, .unset, .unset, .unset] []))
  refine gs (fun t k => XS.aload X169.here hx rfl (hb hby at_134) rfl rfl k) ?_
  show G (T169.setTop (mkF m 136 #[.val (.int p0), .val (.int p1), .val (.int p2), .val (.int p3), .val (.int p4), .val (.ref sb1), .val (.ref sb4), .val (.ref sb8), .val (.ref sb13), .val (.ref sb19), .val (.ref sb26), .val (.ref b34), .val (.ref b53), .val (.ref b76), .val (.ref b103), .val (.ref b134), .val (.int (own_r p0)), .unset, .unset, .unset, .unset, .unset, .unset] [(.ref b53)]))
  obtain ⟨cq170, kq170, q170a, q170b, q170c⟩ := isOf hZ e169 Ex64_q161
  obtain ⟨_, _, ⟨T170, L170, k170, n170⟩, -, X170, ⟨Lc170, hQ170, l170, y170, z170⟩, st170⟩ := X169.virtualBack hx (y := (⟨"com/example/consensus_to_coverage/consensustocoverage/trecfiles/Judgement", "isRelevant", "()Z"⟩ : MethodName)) (z := (⟨"com/example/consensus_to_coverage/consensustocoverage/trecfiles/Judgement", "isRelevant", "()Z"⟩ : MethodName)) hown (mvT hZ (hw _ (List.mem_of_getElem? (i := 54) rfl))) (mvT hZ (hw _ (List.mem_of_getElem? (i := 55) rfl))) (notFace_of_selects (args := #[]) (mvT hZ (hw _ (List.mem_of_getElem? (i := 57) rfl)))) (mvT hZ (hw _ (List.mem_of_getElem? (i := 57) rfl))) (mvT hZ (hw _ (List.mem_of_getElem? (i := 56) rfl))) (by decide) (backOf (W := 0) (rm10 l Z a0 hw [] b53 p0 T151.heap n0 (Nat.le_trans Z0 K168.1) Fd64_q162) hZ (hw _ (List.mem_of_getElem? (i := 58) rfl)) (hw _ (List.mem_of_getElem? (i := 36) rfl)) (by decide) (by decide)) q170a q170c (g := (mkF m 136 #[.val (.int p0), .val (.int p1), .val (.int p2), .val (.int p3), .val (.int p4), .val (.ref sb1), .val (.ref sb4), .val (.ref sb8), .val (.ref sb13), .val (.ref sb19), .val (.ref sb26), .val (.ref b34), .val (.ref b53), .val (.ref b76), .val (.ref b103), .val (.ref b134), .val (.int (own_r p0)), .unset, .unset, .unset, .unset, .unset, .unset] [(.ref b53)])) rfl (by rw [hml]; rfl) (Steps.refl _) (argsL := []) (rest := []) (lenOf pd_8 rfl) rfl (by show 2 * 0 + _ ≤ _; exact Nat.le_of_eq rfl) (hb hby at_136) (fun _ _ => ⟨rfl, e169, (by decide : 23 + 0 ≤ _), (by decide : 68 + 0 ≤ _)⟩)
  dsimp only [Pt.U, Pt.locs, Pt.cells, Pt.slots] at X170 l170 y170 z170 st170 hQ170
  subst y170 z170
  obtain ⟨rfl, N170q, e170⟩ := hQ170
  have N170 : Fr n0 L170 := by rw [l170]; exact Fr.app N169 N170q
  refine gs (fun t k => st170.trans k) ?_
  show G (T170.setTop (mkF m 139 #[.val (.int p0), .val (.int p1), .val (.int p2), .val (.int p3), .val (.int p4), .val (.ref sb1), .val (.ref sb4), .val (.ref sb8), .val (.ref sb13), .val (.ref sb19), .val (.ref sb26), .val (.ref b34), .val (.ref b53), .val (.ref b76), .val (.ref b103), .val (.ref b134), .val (.int (own_r p0)), .unset, .unset, .unset, .unset, .unset, .unset] [(.int (own_r p0))]))
  refine gs (fun t k => XS.istore X170.here hx rfl (hb hby at_139) rfl (l' := #[.val (.int p0), .val (.int p1), .val (.int p2), .val (.int p3), .val (.int p4), .val (.ref sb1), .val (.ref sb4), .val (.ref sb8), .val (.ref sb13), .val (.ref sb19), .val (.ref sb26), .val (.ref b34), .val (.ref b53), .val (.ref b76), .val (.ref b103), .val (.ref b134), .val (.int (own_r p0)), .val (.int (own_r p0)), .unset, .unset, .unset, .unset, .unset]) rfl k) ?_
  show G (T170.setTop (mkF m 141 #[.val (.int p0), .val (.int p1), .val (.int p2), .val (.int p3), .val (.int p4), .val (.ref sb1), .val (.ref sb4), .val (.ref sb8), .val (.ref sb13), .val (.ref sb19), .val (.ref sb26), .val (.ref b34), .val (.ref b53), .val (.ref b76), .val (.ref b103), .val (.ref b134), .val (.int (own_r p0)), .val (.int (own_r p0)), .unset, .unset, .unset, .unset, .unset] []))
  refine gs (fun t k => XS.aload X170.here hx rfl (hb hby at_141) rfl rfl k) ?_
  show G (T170.setTop (mkF m 143 #[.val (.int p0), .val (.int p1), .val (.int p2), .val (.int p3), .val (.int p4), .val (.ref sb1), .val (.ref sb4), .val (.ref sb8), .val (.ref sb13), .val (.ref sb19), .val (.ref sb26), .val (.ref b34), .val (.ref b53), .val (.ref b76), .val (.ref b103), .val (.ref b134), .val (.int (own_r p0)), .val (.int (own_r p0)), .unset, .unset, .unset, .unset, .unset] [(.ref b76)]))
  obtain ⟨cq171, kq171, q171a, q171b, q171c⟩ := isOf hZ e170 Ex89_q163
  obtain ⟨_, _, ⟨T171, L171, k171, n171⟩, -, X171, ⟨Lc171, hQ171, l171, y171, z171⟩, st171⟩ := X170.virtualBack hx (y := (⟨"com/example/consensus_to_coverage/consensustocoverage/trecfiles/Judgement", "isRelevant", "()Z"⟩ : MethodName)) (z := (⟨"com/example/consensus_to_coverage/consensustocoverage/trecfiles/Judgement", "isRelevant", "()Z"⟩ : MethodName)) hown (mvT hZ (hw _ (List.mem_of_getElem? (i := 54) rfl))) (mvT hZ (hw _ (List.mem_of_getElem? (i := 55) rfl))) (notFace_of_selects (args := #[]) (mvT hZ (hw _ (List.mem_of_getElem? (i := 57) rfl)))) (mvT hZ (hw _ (List.mem_of_getElem? (i := 57) rfl))) (mvT hZ (hw _ (List.mem_of_getElem? (i := 56) rfl))) (by decide) (backOf (W := 0) (rm10 l Z a0 hw [] b76 p1 T151.heap n0 (Nat.le_trans Z0 K168.1) Fd89_q164) hZ (hw _ (List.mem_of_getElem? (i := 58) rfl)) (hw _ (List.mem_of_getElem? (i := 36) rfl)) (by decide) (by decide)) q171a q171c (g := (mkF m 143 #[.val (.int p0), .val (.int p1), .val (.int p2), .val (.int p3), .val (.int p4), .val (.ref sb1), .val (.ref sb4), .val (.ref sb8), .val (.ref sb13), .val (.ref sb19), .val (.ref sb26), .val (.ref b34), .val (.ref b53), .val (.ref b76), .val (.ref b103), .val (.ref b134), .val (.int (own_r p0)), .val (.int (own_r p0)), .unset, .unset, .unset, .unset, .unset] [(.ref b76)])) rfl (by rw [hml]; rfl) (Steps.refl _) (argsL := []) (rest := []) (lenOf pd_8 rfl) rfl (by show 2 * 0 + _ ≤ _; exact Nat.le_of_eq rfl) (hb hby at_143) (fun _ _ => ⟨rfl, e170, (by decide : 23 + 0 ≤ _), (by decide : 68 + 0 ≤ _)⟩)
  dsimp only [Pt.U, Pt.locs, Pt.cells, Pt.slots] at X171 l171 y171 z171 st171 hQ171
  subst y171 z171
  obtain ⟨rfl, N171q, e171⟩ := hQ171
  have N171 : Fr n0 L171 := by rw [l171]; exact Fr.app N170 N171q
  refine gs (fun t k => st171.trans k) ?_
  show G (T171.setTop (mkF m 146 #[.val (.int p0), .val (.int p1), .val (.int p2), .val (.int p3), .val (.int p4), .val (.ref sb1), .val (.ref sb4), .val (.ref sb8), .val (.ref sb13), .val (.ref sb19), .val (.ref sb26), .val (.ref b34), .val (.ref b53), .val (.ref b76), .val (.ref b103), .val (.ref b134), .val (.int (own_r p0)), .val (.int (own_r p0)), .unset, .unset, .unset, .unset, .unset] [(.int (own_r p1))]))
  refine gs (fun t k => XS.istore X171.here hx rfl (hb hby at_146) rfl (l' := #[.val (.int p0), .val (.int p1), .val (.int p2), .val (.int p3), .val (.int p4), .val (.ref sb1), .val (.ref sb4), .val (.ref sb8), .val (.ref sb13), .val (.ref sb19), .val (.ref sb26), .val (.ref b34), .val (.ref b53), .val (.ref b76), .val (.ref b103), .val (.ref b134), .val (.int (own_r p0)), .val (.int (own_r p0)), .val (.int (own_r p1)), .unset, .unset, .unset, .unset]) rfl k) ?_
  show G (T171.setTop (mkF m 148 #[.val (.int p0), .val (.int p1), .val (.int p2), .val (.int p3), .val (.int p4), .val (.ref sb1), .val (.ref sb4), .val (.ref sb8), .val (.ref sb13), .val (.ref sb19), .val (.ref sb26), .val (.ref b34), .val (.ref b53), .val (.ref b76), .val (.ref b103), .val (.ref b134), .val (.int (own_r p0)), .val (.int (own_r p0)), .val (.int (own_r p1)), .unset, .unset, .unset, .unset] []))
  refine gs (fun t k => XS.aload X171.here hx rfl (hb hby at_148) rfl rfl k) ?_
  show G (T171.setTop (mkF m 150 #[.val (.int p0), .val (.int p1), .val (.int p2), .val (.int p3), .val (.int p4), .val (.ref sb1), .val (.ref sb4), .val (.ref sb8), .val (.ref sb13), .val (.ref sb19), .val (.ref sb26), .val (.ref b34), .val (.ref b53), .val (.ref b76), .val (.ref b103), .val (.ref b134), .val (.int (own_r p0)), .val (.int (own_r p0)), .val (.int (own_r p1)), .unset, .unset, .unset, .unset] [(.ref b103)]))
  obtain ⟨cq172, kq172, q172a, q172b, q172c⟩ := isOf hZ e171 Ex118_q165
  obtain ⟨_, _, ⟨T172, L172, k172, n172⟩, -, X172, ⟨Lc172, hQ172, l172, y172, z172⟩, st172⟩ := X171.virtualBack hx (y := (⟨"com/example/consensus_to_coverage/consensustocoverage/trecfiles/Judgement", "isRelevant", "()Z"⟩ : MethodName)) (z := (⟨"com/example/consensus_to_coverage/consensustocoverage/trecfiles/Judgement", "isRelevant", "()Z"⟩ : MethodName)) hown (mvT hZ (hw _ (List.mem_of_getElem? (i := 54) rfl))) (mvT hZ (hw _ (List.mem_of_getElem? (i := 55) rfl))) (notFace_of_selects (args := #[]) (mvT hZ (hw _ (List.mem_of_getElem? (i := 57) rfl)))) (mvT hZ (hw _ (List.mem_of_getElem? (i := 57) rfl))) (mvT hZ (hw _ (List.mem_of_getElem? (i := 56) rfl))) (by decide) (backOf (W := 0) (rm10 l Z a0 hw [] b103 (0 : Int32) T151.heap n0 (Nat.le_trans Z0 K168.1) Fd118_q166) hZ (hw _ (List.mem_of_getElem? (i := 58) rfl)) (hw _ (List.mem_of_getElem? (i := 36) rfl)) (by decide) (by decide)) q172a q172c (g := (mkF m 150 #[.val (.int p0), .val (.int p1), .val (.int p2), .val (.int p3), .val (.int p4), .val (.ref sb1), .val (.ref sb4), .val (.ref sb8), .val (.ref sb13), .val (.ref sb19), .val (.ref sb26), .val (.ref b34), .val (.ref b53), .val (.ref b76), .val (.ref b103), .val (.ref b134), .val (.int (own_r p0)), .val (.int (own_r p0)), .val (.int (own_r p1)), .unset, .unset, .unset, .unset] [(.ref b103)])) rfl (by rw [hml]; rfl) (Steps.refl _) (argsL := []) (rest := []) (lenOf pd_8 rfl) rfl (by show 2 * 0 + _ ≤ _; exact Nat.le_of_eq rfl) (hb hby at_150) (fun _ _ => ⟨rfl, e171, (by decide : 23 + 0 ≤ _), (by decide : 68 + 0 ≤ _)⟩)
  dsimp only [Pt.U, Pt.locs, Pt.cells, Pt.slots] at X172 l172 y172 z172 st172 hQ172
  subst y172 z172
  obtain ⟨rfl, N172q, e172⟩ := hQ172
  have N172 : Fr n0 L172 := by rw [l172]; exact Fr.app N171 N172q
  refine gs (fun t k => st172.trans k) ?_
  show G (T172.setTop (mkF m 153 #[.val (.int p0), .val (.int p1), .val (.int p2), .val (.int p3), .val (.int p4), .val (.ref sb1), .val (.ref sb4), .val (.ref sb8), .val (.ref sb13), .val (.ref sb19), .val (.ref sb26), .val (.ref b34), .val (.ref b53), .val (.ref b76), .val (.ref b103), .val (.ref b134), .val (.int (own_r p0)), .val (.int (own_r p0)), .val (.int (own_r p1)), .unset, .unset, .unset, .unset] [(.int (own_r (0 : Int32)))]))
  refine gs (fun t k => XS.istore X172.here hx rfl (hb hby at_153) rfl (l' := #[.val (.int p0), .val (.int p1), .val (.int p2), .val (.int p3), .val (.int p4), .val (.ref sb1), .val (.ref sb4), .val (.ref sb8), .val (.ref sb13), .val (.ref sb19), .val (.ref sb26), .val (.ref b34), .val (.ref b53), .val (.ref b76), .val (.ref b103), .val (.ref b134), .val (.int (own_r p0)), .val (.int (own_r p0)), .val (.int (own_r p1)), .val (.int (own_r (0 : Int32))), .unset, .unset, .unset]) rfl k) ?_
  show G (T172.setTop (mkF m 155 #[.val (.int p0), .val (.int p1), .val (.int p2), .val (.int p3), .val (.int p4), .val (.ref sb1), .val (.ref sb4), .val (.ref sb8), .val (.ref sb13), .val (.ref sb19), .val (.ref sb26), .val (.ref b34), .val (.ref b53), .val (.ref b76), .val (.ref b103), .val (.ref b134), .val (.int (own_r p0)), .val (.int (own_r p0)), .val (.int (own_r p1)), .val (.int (own_r (0 : Int32))), .unset, .unset, .unset] []))
  refine gs (fun t k => XS.aload X172.here hx rfl (hb hby at_155) rfl rfl k) ?_
  show G (T172.setTop (mkF m 157 #[.val (.int p0), .val (.int p1), .val (.int p2), .val (.int p3), .val (.int p4), .val (.ref sb1), .val (.ref sb4), .val (.ref sb8), .val (.ref sb13), .val (.ref sb19), .val (.ref sb26), .val (.ref b34), .val (.ref b53), .val (.ref b76), .val (.ref b103), .val (.ref b134), .val (.int (own_r p0)), .val (.int (own_r p0)), .val (.int (own_r p1)), .val (.int (own_r (0 : Int32))), .unset, .unset, .unset] [(.ref b134)]))
  obtain ⟨cq173, kq173, q173a, q173b, q173c⟩ := isOf hZ e172 Ex151
  obtain ⟨_, _, ⟨T173, L173, k173, n173⟩, -, X173, ⟨Lc173, hQ173, l173, y173, z173⟩, st173⟩ := X172.virtualBack hx (y := (⟨"com/example/consensus_to_coverage/consensustocoverage/trecfiles/Judgement", "isRelevant", "()Z"⟩ : MethodName)) (z := (⟨"com/example/consensus_to_coverage/consensustocoverage/trecfiles/Judgement", "isRelevant", "()Z"⟩ : MethodName)) hown (mvT hZ (hw _ (List.mem_of_getElem? (i := 54) rfl))) (mvT hZ (hw _ (List.mem_of_getElem? (i := 55) rfl))) (notFace_of_selects (args := #[]) (mvT hZ (hw _ (List.mem_of_getElem? (i := 57) rfl)))) (mvT hZ (hw _ (List.mem_of_getElem? (i := 57) rfl))) (mvT hZ (hw _ (List.mem_of_getElem? (i := 56) rfl))) (by decide) (backOf (W := 0) (rm10 l Z a0 hw [] b134 (1 : Int32) T151.heap n0 (Nat.le_trans Z0 K168.1) Fd151) hZ (hw _ (List.mem_of_getElem? (i := 58) rfl)) (hw _ (List.mem_of_getElem? (i := 36) rfl)) (by decide) (by decide)) q173a q173c (g := (mkF m 157 #[.val (.int p0), .val (.int p1), .val (.int p2), .val (.int p3), .val (.int p4), .val (.ref sb1), .val (.ref sb4), .val (.ref sb8), .val (.ref sb13), .val (.ref sb19), .val (.ref sb26), .val (.ref b34), .val (.ref b53), .val (.ref b76), .val (.ref b103), .val (.ref b134), .val (.int (own_r p0)), .val (.int (own_r p0)), .val (.int (own_r p1)), .val (.int (own_r (0 : Int32))), .unset, .unset, .unset] [(.ref b134)])) rfl (by rw [hml]; rfl) (Steps.refl _) (argsL := []) (rest := []) (lenOf pd_8 rfl) rfl (by show 2 * 0 + _ ≤ _; exact Nat.le_of_eq rfl) (hb hby at_157) (fun _ _ => ⟨rfl, e172, (by decide : 23 + 0 ≤ _), (by decide : 68 + 0 ≤ _)⟩)
  dsimp only [Pt.U, Pt.locs, Pt.cells, Pt.slots] at X173 l173 y173 z173 st173 hQ173
  subst y173 z173
  obtain ⟨rfl, N173q, e173⟩ := hQ173
  have N173 : Fr n0 L173 := by rw [l173]; exact Fr.app N172 N173q
  refine gs (fun t k => st173.trans k) ?_
  show G (T173.setTop (mkF m 160 #[.val (.int p0), .val (.int p1), .val (.int p2), .val (.int p3), .val (.int p4), .val (.ref sb1), .val (.ref sb4), .val (.ref sb8), .val (.ref sb13), .val (.ref sb19), .val (.ref sb26), .val (.ref b34), .val (.ref b53), .val (.ref b76), .val (.ref b103), .val (.ref b134), .val (.int (own_r p0)), .val (.int (own_r p0)), .val (.int (own_r p1)), .val (.int (own_r (0 : Int32))), .unset, .unset, .unset] [(.int (own_r (1 : Int32)))]))
  refine gs (fun t k => XS.istore X173.here hx rfl (hb hby at_160) rfl (l' := #[.val (.int p0), .val (.int p1), .val (.int p2), .val (.int p3), .val (.int p4), .val (.ref sb1), .val (.ref sb4), .val (.ref sb8), .val (.ref sb13), .val (.ref sb19), .val (.ref sb26), .val (.ref b34), .val (.ref b53), .val (.ref b76), .val (.ref b103), .val (.ref b134), .val (.int (own_r p0)), .val (.int (own_r p0)), .val (.int (own_r p1)), .val (.int (own_r (0 : Int32))), .val (.int (own_r (1 : Int32))), .unset, .unset]) rfl k) ?_
  show G (T173.setTop (mkF m 162 #[.val (.int p0), .val (.int p1), .val (.int p2), .val (.int p3), .val (.int p4), .val (.ref sb1), .val (.ref sb4), .val (.ref sb8), .val (.ref sb13), .val (.ref sb19), .val (.ref sb26), .val (.ref b34), .val (.ref b53), .val (.ref b76), .val (.ref b103), .val (.ref b134), .val (.int (own_r p0)), .val (.int (own_r p0)), .val (.int (own_r p1)), .val (.int (own_r (0 : Int32))), .val (.int (own_r (1 : Int32))), .unset, .unset] []))
  refine gs (fun t k => XS.iload X173.here hx rfl (hb hby at_162) rfl k) ?_
  show G (T173.setTop (mkF m 164 #[.val (.int p0), .val (.int p1), .val (.int p2), .val (.int p3), .val (.int p4), .val (.ref sb1), .val (.ref sb4), .val (.ref sb8), .val (.ref sb13), .val (.ref sb19), .val (.ref sb26), .val (.ref b34), .val (.ref b53), .val (.ref b76), .val (.ref b103), .val (.ref b134), .val (.int (own_r p0)), .val (.int (own_r p0)), .val (.int (own_r p1)), .val (.int (own_r (0 : Int32))), .val (.int (own_r (1 : Int32))), .unset, .unset] [(.int (own_r p0))]))
  refine gs (fun t k => XS.iload X173.here hx rfl (hb hby at_164) rfl k) ?_
  show G (T173.setTop (mkF m 166 #[.val (.int p0), .val (.int p1), .val (.int p2), .val (.int p3), .val (.int p4), .val (.ref sb1), .val (.ref sb4), .val (.ref sb8), .val (.ref sb13), .val (.ref sb19), .val (.ref sb26), .val (.ref b34), .val (.ref b53), .val (.ref b76), .val (.ref b103), .val (.ref b134), .val (.int (own_r p0)), .val (.int (own_r p0)), .val (.int (own_r p1)), .val (.int (own_r (0 : Int32))), .val (.int (own_r (1 : Int32))), .unset, .unset] [(.int (own_r p0)), (.int (own_r p0))]))
  refine gs (fun t k => XS.icmpNo X173.here hx rfl (hb hby at_166) rfl (teq rfl).2 k) ?_
  show G (T173.setTop (mkF m 169 #[.val (.int p0), .val (.int p1), .val (.int p2), .val (.int p3), .val (.int p4), .val (.ref sb1), .val (.ref sb4), .val (.ref sb8), .val (.ref sb13), .val (.ref sb19), .val (.ref sb26), .val (.ref b34), .val (.ref b53), .val (.ref b76), .val (.ref b103), .val (.ref b134), .val (.int (own_r p0)), .val (.int (own_r p0)), .val (.int (own_r p1)), .val (.int (own_r (0 : Int32))), .val (.int (own_r (1 : Int32))), .unset, .unset] []))
  refine gs (fun t k => XS.iconst X173.here hx rfl (hb hby at_169) k) ?_
  show G (T173.setTop (mkF m 170 #[.val (.int p0), .val (.int p1), .val (.int p2), .val (.int p3), .val (.int p4), .val (.ref sb1), .val (.ref sb4), .val (.ref sb8), .val (.ref sb13), .val (.ref sb19), .val (.ref sb26), .val (.ref b34), .val (.ref b53), .val (.ref b76), .val (.ref b103), .val (.ref b134), .val (.int (own_r p0)), .val (.int (own_r p0)), .val (.int (own_r p1)), .val (.int (own_r (0 : Int32))), .val (.int (own_r (1 : Int32))), .unset, .unset] [(.int (1 : Int32))]))
  refine gs (fun t k => XS.goto X173.here hx rfl (pc0 := 170) (pc' := 174) rfl (hb hby at_170) (by decide) (by decide) k) ?_
  show G (T173.setTop (mkF m 174 #[.val (.int p0), .val (.int p1), .val (.int p2), .val (.int p3), .val (.int p4), .val (.ref sb1), .val (.ref sb4), .val (.ref sb8), .val (.ref sb13), .val (.ref sb19), .val (.ref sb26), .val (.ref b34), .val (.ref b53), .val (.ref b76), .val (.ref b103), .val (.ref b134), .val (.int (own_r p0)), .val (.int (own_r p0)), .val (.int (own_r p1)), .val (.int (own_r (0 : Int32))), .val (.int (own_r (1 : Int32))), .unset, .unset] [(.int (1 : Int32))]))
  refine gs (fun t k => XS.istore X173.here hx rfl (hb hby at_174) rfl (l' := #[.val (.int p0), .val (.int p1), .val (.int p2), .val (.int p3), .val (.int p4), .val (.ref sb1), .val (.ref sb4), .val (.ref sb8), .val (.ref sb13), .val (.ref sb19), .val (.ref sb26), .val (.ref b34), .val (.ref b53), .val (.ref b76), .val (.ref b103), .val (.ref b134), .val (.int (own_r p0)), .val (.int (own_r p0)), .val (.int (own_r p1)), .val (.int (own_r (0 : Int32))), .val (.int (own_r (1 : Int32))), .val (.int (1 : Int32)), .unset]) rfl k) ?_
  show G (T173.setTop (mkF m 176 #[.val (.int p0), .val (.int p1), .val (.int p2), .val (.int p3), .val (.int p4), .val (.ref sb1), .val (.ref sb4), .val (.ref sb8), .val (.ref sb13), .val (.ref sb19), .val (.ref sb26), .val (.ref b34), .val (.ref b53), .val (.ref b76), .val (.ref b103), .val (.ref b134), .val (.int (own_r p0)), .val (.int (own_r p0)), .val (.int (own_r p1)), .val (.int (own_r (0 : Int32))), .val (.int (own_r (1 : Int32))), .val (.int (1 : Int32)), .unset] []))
  refine gs (fun t k => XS.iloadN X173.here hx rfl (hb hby at_176) rfl k) ?_
  show G (T173.setTop (mkF m 177 #[.val (.int p0), .val (.int p1), .val (.int p2), .val (.int p3), .val (.int p4), .val (.ref sb1), .val (.ref sb4), .val (.ref sb8), .val (.ref sb13), .val (.ref sb19), .val (.ref sb26), .val (.ref b34), .val (.ref b53), .val (.ref b76), .val (.ref b103), .val (.ref b134), .val (.int (own_r p0)), .val (.int (own_r p0)), .val (.int (own_r p1)), .val (.int (own_r (0 : Int32))), .val (.int (own_r (1 : Int32))), .val (.int (1 : Int32)), .unset] [(.int p0)]))
  refine gs (fun t k => XS.iloadN X173.here hx rfl (hb hby at_177) rfl k) ?_
  show G (T173.setTop (mkF m 178 #[.val (.int p0), .val (.int p1), .val (.int p2), .val (.int p3), .val (.int p4), .val (.ref sb1), .val (.ref sb4), .val (.ref sb8), .val (.ref sb13), .val (.ref sb19), .val (.ref sb26), .val (.ref b34), .val (.ref b53), .val (.ref b76), .val (.ref b103), .val (.ref b134), .val (.int (own_r p0)), .val (.int (own_r p0)), .val (.int (own_r p1)), .val (.int (own_r (0 : Int32))), .val (.int (own_r (1 : Int32))), .val (.int (1 : Int32)), .unset] [(.int p1), (.int p0)]))
  by_cases hc178 : p1 < p0
  · refine gs (fun t k => XS.icmpYes X173.here hx rfl (pc0 := 178) (pc' := 199) rfl (hb hby at_178) rfl (tlt hc178).2.2.1 (by decide) (by decide) k) ?_
    show G (T173.setTop (mkF m 199 #[.val (.int p0), .val (.int p1), .val (.int p2), .val (.int p3), .val (.int p4), .val (.ref sb1), .val (.ref sb4), .val (.ref sb8), .val (.ref sb13), .val (.ref sb19), .val (.ref sb26), .val (.ref b34), .val (.ref b53), .val (.ref b76), .val (.ref b103), .val (.ref b134), .val (.int (own_r p0)), .val (.int (own_r p0)), .val (.int (own_r p1)), .val (.int (own_r (0 : Int32))), .val (.int (own_r (1 : Int32))), .val (.int (1 : Int32)), .unset] []))
    have i_hc178 := own_lt hc178
    refine gs (fun t k => XS.iload X173.here hx rfl (hb hby at_199) rfl k) ?_
    show G (T173.setTop (mkF m 201 #[.val (.int p0), .val (.int p1), .val (.int p2), .val (.int p3), .val (.int p4), .val (.ref sb1), .val (.ref sb4), .val (.ref sb8), .val (.ref sb13), .val (.ref sb19), .val (.ref sb26), .val (.ref b34), .val (.ref b53), .val (.ref b76), .val (.ref b103), .val (.ref b134), .val (.int (own_r p0)), .val (.int (own_r p0)), .val (.int (own_r p1)), .val (.int (own_r (0 : Int32))), .val (.int (own_r (1 : Int32))), .val (.int (1 : Int32)), .unset] [(.int (own_r p1))]))
    by_cases hc201 : (own_r p1) = (0 : Int32)
    · refine gs (fun t k => XS.ifYes X173.here hx rfl (pc0 := 201) (pc' := 209) rfl (hb hby at_201) rfl ((if0 _ _).trans (teq hc201).1) (by decide) (by decide) k) ?_
      show G (T173.setTop (mkF m 209 #[.val (.int p0), .val (.int p1), .val (.int p2), .val (.int p3), .val (.int p4), .val (.ref sb1), .val (.ref sb4), .val (.ref sb8), .val (.ref sb13), .val (.ref sb19), .val (.ref sb26), .val (.ref b34), .val (.ref b53), .val (.ref b76), .val (.ref b103), .val (.ref b134), .val (.int (own_r p0)), .val (.int (own_r p0)), .val (.int (own_r p1)), .val (.int (own_r (0 : Int32))), .val (.int (own_r (1 : Int32))), .val (.int (1 : Int32)), .unset] []))
      refine gs (fun t k => XS.iconst X173.here hx rfl (hb hby at_209) k) ?_
      show G (T173.setTop (mkF m 210 #[.val (.int p0), .val (.int p1), .val (.int p2), .val (.int p3), .val (.int p4), .val (.ref sb1), .val (.ref sb4), .val (.ref sb8), .val (.ref sb13), .val (.ref sb19), .val (.ref sb26), .val (.ref b34), .val (.ref b53), .val (.ref b76), .val (.ref b103), .val (.ref b134), .val (.int (own_r p0)), .val (.int (own_r p0)), .val (.int (own_r p1)), .val (.int (own_r (0 : Int32))), .val (.int (own_r (1 : Int32))), .val (.int (1 : Int32)), .unset] [(.int (1 : Int32))]))
      refine gs (fun t k => XS.goto X173.here hx rfl (pc0 := 210) (pc' := 214) rfl (hb hby at_210) (by decide) (by decide) k) ?_
      show G (T173.setTop (mkF m 214 #[.val (.int p0), .val (.int p1), .val (.int p2), .val (.int p3), .val (.int p4), .val (.ref sb1), .val (.ref sb4), .val (.ref sb8), .val (.ref sb13), .val (.ref sb19), .val (.ref sb26), .val (.ref b34), .val (.ref b53), .val (.ref b76), .val (.ref b103), .val (.ref b134), .val (.int (own_r p0)), .val (.int (own_r p0)), .val (.int (own_r p1)), .val (.int (own_r (0 : Int32))), .val (.int (own_r (1 : Int32))), .val (.int (1 : Int32)), .unset] [(.int (1 : Int32))]))
      refine gs (fun t k => XS.istore X173.here hx rfl (hb hby at_214) rfl (l' := #[.val (.int p0), .val (.int p1), .val (.int p2), .val (.int p3), .val (.int p4), .val (.ref sb1), .val (.ref sb4), .val (.ref sb8), .val (.ref sb13), .val (.ref sb19), .val (.ref sb26), .val (.ref b34), .val (.ref b53), .val (.ref b76), .val (.ref b103), .val (.ref b134), .val (.int (own_r p0)), .val (.int (own_r p0)), .val (.int (own_r p1)), .val (.int (own_r (0 : Int32))), .val (.int (own_r (1 : Int32))), .val (.int (1 : Int32)), .val (.int (1 : Int32))]) rfl k) ?_
      show G (T173.setTop (mkF m 216 #[.val (.int p0), .val (.int p1), .val (.int p2), .val (.int p3), .val (.int p4), .val (.ref sb1), .val (.ref sb4), .val (.ref sb8), .val (.ref sb13), .val (.ref sb19), .val (.ref sb26), .val (.ref b34), .val (.ref b53), .val (.ref b76), .val (.ref b103), .val (.ref b134), .val (.int (own_r p0)), .val (.int (own_r p0)), .val (.int (own_r p1)), .val (.int (own_r (0 : Int32))), .val (.int (own_r (1 : Int32))), .val (.int (1 : Int32)), .val (.int (1 : Int32))] []))
      refine gs (fun t k => XS.iload X173.here hx rfl (hb hby at_216) rfl k) ?_
      show G (T173.setTop (mkF m 218 #[.val (.int p0), .val (.int p1), .val (.int p2), .val (.int p3), .val (.int p4), .val (.ref sb1), .val (.ref sb4), .val (.ref sb8), .val (.ref sb13), .val (.ref sb19), .val (.ref sb26), .val (.ref b34), .val (.ref b53), .val (.ref b76), .val (.ref b103), .val (.ref b134), .val (.int (own_r p0)), .val (.int (own_r p0)), .val (.int (own_r p1)), .val (.int (own_r (0 : Int32))), .val (.int (own_r (1 : Int32))), .val (.int (1 : Int32)), .val (.int (1 : Int32))] [(.int (1 : Int32))]))
      refine gs (fun t k => XS.ifNo X173.here hx rfl (hb hby at_218) rfl ((if0 _ _).trans (feq (by decide : ¬ ((1 : Int32) = (0 : Int32)))).1) k) ?_
      show G (T173.setTop (mkF m 221 #[.val (.int p0), .val (.int p1), .val (.int p2), .val (.int p3), .val (.int p4), .val (.ref sb1), .val (.ref sb4), .val (.ref sb8), .val (.ref sb13), .val (.ref sb19), .val (.ref sb26), .val (.ref b34), .val (.ref b53), .val (.ref b76), .val (.ref b103), .val (.ref b134), .val (.int (own_r p0)), .val (.int (own_r p0)), .val (.int (own_r p1)), .val (.int (own_r (0 : Int32))), .val (.int (own_r (1 : Int32))), .val (.int (1 : Int32)), .val (.int (1 : Int32))] []))
      refine gs (fun t k => XS.iload X173.here hx rfl (hb hby at_221) rfl k) ?_
      show G (T173.setTop (mkF m 223 #[.val (.int p0), .val (.int p1), .val (.int p2), .val (.int p3), .val (.int p4), .val (.ref sb1), .val (.ref sb4), .val (.ref sb8), .val (.ref sb13), .val (.ref sb19), .val (.ref sb26), .val (.ref b34), .val (.ref b53), .val (.ref b76), .val (.ref b103), .val (.ref b134), .val (.int (own_r p0)), .val (.int (own_r p0)), .val (.int (own_r p1)), .val (.int (own_r (0 : Int32))), .val (.int (own_r (1 : Int32))), .val (.int (1 : Int32)), .val (.int (1 : Int32))] [(.int (1 : Int32))]))
      refine gs (fun t k => XS.ifNo X173.here hx rfl (hb hby at_223) rfl ((if0 _ _).trans (feq (by decide : ¬ ((1 : Int32) = (0 : Int32)))).1) k) ?_
      show G (T173.setTop (mkF m 226 #[.val (.int p0), .val (.int p1), .val (.int p2), .val (.int p3), .val (.int p4), .val (.ref sb1), .val (.ref sb4), .val (.ref sb8), .val (.ref sb13), .val (.ref sb19), .val (.ref sb26), .val (.ref b34), .val (.ref b53), .val (.ref b76), .val (.ref b103), .val (.ref b134), .val (.int (own_r p0)), .val (.int (own_r p0)), .val (.int (own_r p1)), .val (.int (own_r (0 : Int32))), .val (.int (own_r (1 : Int32))), .val (.int (1 : Int32)), .val (.int (1 : Int32))] []))
      refine gs (fun t k => XS.iload X173.here hx rfl (hb hby at_226) rfl k) ?_
      show G (T173.setTop (mkF m 228 #[.val (.int p0), .val (.int p1), .val (.int p2), .val (.int p3), .val (.int p4), .val (.ref sb1), .val (.ref sb4), .val (.ref sb8), .val (.ref sb13), .val (.ref sb19), .val (.ref sb26), .val (.ref b34), .val (.ref b53), .val (.ref b76), .val (.ref b103), .val (.ref b134), .val (.int (own_r p0)), .val (.int (own_r p0)), .val (.int (own_r p1)), .val (.int (own_r (0 : Int32))), .val (.int (own_r (1 : Int32))), .val (.int (1 : Int32)), .val (.int (1 : Int32))] [(.int (own_r (0 : Int32)))]))
      refine gs (fun t k => XS.ifNo X173.here hx rfl (hb hby at_228) rfl ((if0 _ _).trans (teq (by decide)).2) k) ?_
      show G (T173.setTop (mkF m 231 #[.val (.int p0), .val (.int p1), .val (.int p2), .val (.int p3), .val (.int p4), .val (.ref sb1), .val (.ref sb4), .val (.ref sb8), .val (.ref sb13), .val (.ref sb19), .val (.ref sb26), .val (.ref b34), .val (.ref b53), .val (.ref b76), .val (.ref b103), .val (.ref b134), .val (.int (own_r p0)), .val (.int (own_r p0)), .val (.int (own_r p1)), .val (.int (own_r (0 : Int32))), .val (.int (own_r (1 : Int32))), .val (.int (1 : Int32)), .val (.int (1 : Int32))] []))
      refine gs (fun t k => XS.iload X173.here hx rfl (hb hby at_231) rfl k) ?_
      show G (T173.setTop (mkF m 233 #[.val (.int p0), .val (.int p1), .val (.int p2), .val (.int p3), .val (.int p4), .val (.ref sb1), .val (.ref sb4), .val (.ref sb8), .val (.ref sb13), .val (.ref sb19), .val (.ref sb26), .val (.ref b34), .val (.ref b53), .val (.ref b76), .val (.ref b103), .val (.ref b134), .val (.int (own_r p0)), .val (.int (own_r p0)), .val (.int (own_r p1)), .val (.int (own_r (0 : Int32))), .val (.int (own_r (1 : Int32))), .val (.int (1 : Int32)), .val (.int (1 : Int32))] [(.int (own_r (1 : Int32)))]))
      refine gs (fun t k => XS.ifNo X173.here hx rfl (hb hby at_233) rfl ((if0 _ _).trans (feq (by decide)).1) k) ?_
      show G (T173.setTop (mkF m 236 #[.val (.int p0), .val (.int p1), .val (.int p2), .val (.int p3), .val (.int p4), .val (.ref sb1), .val (.ref sb4), .val (.ref sb8), .val (.ref sb13), .val (.ref sb19), .val (.ref sb26), .val (.ref b34), .val (.ref b53), .val (.ref b76), .val (.ref b103), .val (.ref b134), .val (.int (own_r p0)), .val (.int (own_r p0)), .val (.int (own_r p1)), .val (.int (own_r (0 : Int32))), .val (.int (own_r (1 : Int32))), .val (.int (1 : Int32)), .val (.int (1 : Int32))] []))
      refine gs (fun t k => XS.iconst X173.here hx rfl (hb hby at_236) k) ?_
      show G (T173.setTop (mkF m 237 #[.val (.int p0), .val (.int p1), .val (.int p2), .val (.int p3), .val (.int p4), .val (.ref sb1), .val (.ref sb4), .val (.ref sb8), .val (.ref sb13), .val (.ref sb19), .val (.ref sb26), .val (.ref b34), .val (.ref b53), .val (.ref b76), .val (.ref b103), .val (.ref b134), .val (.int (own_r p0)), .val (.int (own_r p0)), .val (.int (own_r p1)), .val (.int (own_r (0 : Int32))), .val (.int (own_r (1 : Int32))), .val (.int (1 : Int32)), .val (.int (1 : Int32))] [(.int (1 : Int32))]))
      refine gs (fun t k => XS.goto X173.here hx rfl (pc0 := 237) (pc' := 241) rfl (hb hby at_237) (by decide) (by decide) k) ?_
      show G (T173.setTop (mkF m 241 #[.val (.int p0), .val (.int p1), .val (.int p2), .val (.int p3), .val (.int p4), .val (.ref sb1), .val (.ref sb4), .val (.ref sb8), .val (.ref sb13), .val (.ref sb19), .val (.ref sb26), .val (.ref b34), .val (.ref b53), .val (.ref b76), .val (.ref b103), .val (.ref b134), .val (.int (own_r p0)), .val (.int (own_r p0)), .val (.int (own_r p1)), .val (.int (own_r (0 : Int32))), .val (.int (own_r (1 : Int32))), .val (.int (1 : Int32)), .val (.int (1 : Int32))] [(.int (1 : Int32))]))
      obtain ⟨fs, hr, hrun, hended, hW, hsame⟩ := X173.leave (v := some (.int (1 : Int32))) (fun h => by rw [Bd.returns] at h; cases h)
      refine gl _ ⟨_, _, retN X173 hx (t := .boolean) Bd.returns (by simp) (hb hby at_241) hr, hrun, hended, _, _, rfl, ?_, ⟨_, rfl⟩, hW, hsame.mono (by decide) (by decide)⟩
      show Q0 h0 n0 _ T173.heap _
      rw [e173]
      exact ⟨rfl, N173⟩
    · refine gs (fun t k => XS.ifNo X173.here hx rfl (hb hby at_201) rfl ((if0 _ _).trans (feq hc201).1) k) ?_
      show G (T173.setTop (mkF m 204 #[.val (.int p0), .val (.int p1), .val (.int p2), .val (.int p3), .val (.int p4), .val (.ref sb1), .val (.ref sb4), .val (.ref sb8), .val (.ref sb13), .val (.ref sb19), .val (.ref sb26), .val (.ref b34), .val (.ref b53), .val (.ref b76), .val (.ref b103), .val (.ref b134), .val (.int (own_r p0)), .val (.int (own_r p0)), .val (.int (own_r p1)), .val (.int (own_r (0 : Int32))), .val (.int (own_r (1 : Int32))), .val (.int (1 : Int32)), .unset] []))
      refine gs (fun t k => XS.iload X173.here hx rfl (hb hby at_204) rfl k) ?_
      show G (T173.setTop (mkF m 206 #[.val (.int p0), .val (.int p1), .val (.int p2), .val (.int p3), .val (.int p4), .val (.ref sb1), .val (.ref sb4), .val (.ref sb8), .val (.ref sb13), .val (.ref sb19), .val (.ref sb26), .val (.ref b34), .val (.ref b53), .val (.ref b76), .val (.ref b103), .val (.ref b134), .val (.int (own_r p0)), .val (.int (own_r p0)), .val (.int (own_r p1)), .val (.int (own_r (0 : Int32))), .val (.int (own_r (1 : Int32))), .val (.int (1 : Int32)), .unset] [(.int (own_r p0))]))
      refine gs (fun t k => XS.ifNo X173.here hx rfl (hb hby at_206) rfl ((if0 _ _).trans (feq (own_m (Int.le_of_lt i_hc178) hc201)).1) k) ?_
      show G (T173.setTop (mkF m 209 #[.val (.int p0), .val (.int p1), .val (.int p2), .val (.int p3), .val (.int p4), .val (.ref sb1), .val (.ref sb4), .val (.ref sb8), .val (.ref sb13), .val (.ref sb19), .val (.ref sb26), .val (.ref b34), .val (.ref b53), .val (.ref b76), .val (.ref b103), .val (.ref b134), .val (.int (own_r p0)), .val (.int (own_r p0)), .val (.int (own_r p1)), .val (.int (own_r (0 : Int32))), .val (.int (own_r (1 : Int32))), .val (.int (1 : Int32)), .unset] []))
      refine gs (fun t k => XS.iconst X173.here hx rfl (hb hby at_209) k) ?_
      show G (T173.setTop (mkF m 210 #[.val (.int p0), .val (.int p1), .val (.int p2), .val (.int p3), .val (.int p4), .val (.ref sb1), .val (.ref sb4), .val (.ref sb8), .val (.ref sb13), .val (.ref sb19), .val (.ref sb26), .val (.ref b34), .val (.ref b53), .val (.ref b76), .val (.ref b103), .val (.ref b134), .val (.int (own_r p0)), .val (.int (own_r p0)), .val (.int (own_r p1)), .val (.int (own_r (0 : Int32))), .val (.int (own_r (1 : Int32))), .val (.int (1 : Int32)), .unset] [(.int (1 : Int32))]))
      refine gs (fun t k => XS.goto X173.here hx rfl (pc0 := 210) (pc' := 214) rfl (hb hby at_210) (by decide) (by decide) k) ?_
      show G (T173.setTop (mkF m 214 #[.val (.int p0), .val (.int p1), .val (.int p2), .val (.int p3), .val (.int p4), .val (.ref sb1), .val (.ref sb4), .val (.ref sb8), .val (.ref sb13), .val (.ref sb19), .val (.ref sb26), .val (.ref b34), .val (.ref b53), .val (.ref b76), .val (.ref b103), .val (.ref b134), .val (.int (own_r p0)), .val (.int (own_r p0)), .val (.int (own_r p1)), .val (.int (own_r (0 : Int32))), .val (.int (own_r (1 : Int32))), .val (.int (1 : Int32)), .unset] [(.int (1 : Int32))]))
      refine gs (fun t k => XS.istore X173.here hx rfl (hb hby at_214) rfl (l' := #[.val (.int p0), .val (.int p1), .val (.int p2), .val (.int p3), .val (.int p4), .val (.ref sb1), .val (.ref sb4), .val (.ref sb8), .val (.ref sb13), .val (.ref sb19), .val (.ref sb26), .val (.ref b34), .val (.ref b53), .val (.ref b76), .val (.ref b103), .val (.ref b134), .val (.int (own_r p0)), .val (.int (own_r p0)), .val (.int (own_r p1)), .val (.int (own_r (0 : Int32))), .val (.int (own_r (1 : Int32))), .val (.int (1 : Int32)), .val (.int (1 : Int32))]) rfl k) ?_
      show G (T173.setTop (mkF m 216 #[.val (.int p0), .val (.int p1), .val (.int p2), .val (.int p3), .val (.int p4), .val (.ref sb1), .val (.ref sb4), .val (.ref sb8), .val (.ref sb13), .val (.ref sb19), .val (.ref sb26), .val (.ref b34), .val (.ref b53), .val (.ref b76), .val (.ref b103), .val (.ref b134), .val (.int (own_r p0)), .val (.int (own_r p0)), .val (.int (own_r p1)), .val (.int (own_r (0 : Int32))), .val (.int (own_r (1 : Int32))), .val (.int (1 : Int32)), .val (.int (1 : Int32))] []))
      refine gs (fun t k => XS.iload X173.here hx rfl (hb hby at_216) rfl k) ?_
      show G (T173.setTop (mkF m 218 #[.val (.int p0), .val (.int p1), .val (.int p2), .val (.int p3), .val (.int p4), .val (.ref sb1), .val (.ref sb4), .val (.ref sb8), .val (.ref sb13), .val (.ref sb19), .val (.ref sb26), .val (.ref b34), .val (.ref b53), .val (.ref b76), .val (.ref b103), .val (.ref b134), .val (.int (own_r p0)), .val (.int (own_r p0)), .val (.int (own_r p1)), .val (.int (own_r (0 : Int32))), .val (.int (own_r (1 : Int32))), .val (.int (1 : Int32)), .val (.int (1 : Int32))] [(.int (1 : Int32))]))
      refine gs (fun t k => XS.ifNo X173.here hx rfl (hb hby at_218) rfl ((if0 _ _).trans (feq (by decide : ¬ ((1 : Int32) = (0 : Int32)))).1) k) ?_
      show G (T173.setTop (mkF m 221 #[.val (.int p0), .val (.int p1), .val (.int p2), .val (.int p3), .val (.int p4), .val (.ref sb1), .val (.ref sb4), .val (.ref sb8), .val (.ref sb13), .val (.ref sb19), .val (.ref sb26), .val (.ref b34), .val (.ref b53), .val (.ref b76), .val (.ref b103), .val (.ref b134), .val (.int (own_r p0)), .val (.int (own_r p0)), .val (.int (own_r p1)), .val (.int (own_r (0 : Int32))), .val (.int (own_r (1 : Int32))), .val (.int (1 : Int32)), .val (.int (1 : Int32))] []))
      refine gs (fun t k => XS.iload X173.here hx rfl (hb hby at_221) rfl k) ?_
      show G (T173.setTop (mkF m 223 #[.val (.int p0), .val (.int p1), .val (.int p2), .val (.int p3), .val (.int p4), .val (.ref sb1), .val (.ref sb4), .val (.ref sb8), .val (.ref sb13), .val (.ref sb19), .val (.ref sb26), .val (.ref b34), .val (.ref b53), .val (.ref b76), .val (.ref b103), .val (.ref b134), .val (.int (own_r p0)), .val (.int (own_r p0)), .val (.int (own_r p1)), .val (.int (own_r (0 : Int32))), .val (.int (own_r (1 : Int32))), .val (.int (1 : Int32)), .val (.int (1 : Int32))] [(.int (1 : Int32))]))
      refine gs (fun t k => XS.ifNo X173.here hx rfl (hb hby at_223) rfl ((if0 _ _).trans (feq (by decide : ¬ ((1 : Int32) = (0 : Int32)))).1) k) ?_
      show G (T173.setTop (mkF m 226 #[.val (.int p0), .val (.int p1), .val (.int p2), .val (.int p3), .val (.int p4), .val (.ref sb1), .val (.ref sb4), .val (.ref sb8), .val (.ref sb13), .val (.ref sb19), .val (.ref sb26), .val (.ref b34), .val (.ref b53), .val (.ref b76), .val (.ref b103), .val (.ref b134), .val (.int (own_r p0)), .val (.int (own_r p0)), .val (.int (own_r p1)), .val (.int (own_r (0 : Int32))), .val (.int (own_r (1 : Int32))), .val (.int (1 : Int32)), .val (.int (1 : Int32))] []))
      refine gs (fun t k => XS.iload X173.here hx rfl (hb hby at_226) rfl k) ?_
      show G (T173.setTop (mkF m 228 #[.val (.int p0), .val (.int p1), .val (.int p2), .val (.int p3), .val (.int p4), .val (.ref sb1), .val (.ref sb4), .val (.ref sb8), .val (.ref sb13), .val (.ref sb19), .val (.ref sb26), .val (.ref b34), .val (.ref b53), .val (.ref b76), .val (.ref b103), .val (.ref b134), .val (.int (own_r p0)), .val (.int (own_r p0)), .val (.int (own_r p1)), .val (.int (own_r (0 : Int32))), .val (.int (own_r (1 : Int32))), .val (.int (1 : Int32)), .val (.int (1 : Int32))] [(.int (own_r (0 : Int32)))]))
      refine gs (fun t k => XS.ifNo X173.here hx rfl (hb hby at_228) rfl ((if0 _ _).trans (teq (by decide)).2) k) ?_
      show G (T173.setTop (mkF m 231 #[.val (.int p0), .val (.int p1), .val (.int p2), .val (.int p3), .val (.int p4), .val (.ref sb1), .val (.ref sb4), .val (.ref sb8), .val (.ref sb13), .val (.ref sb19), .val (.ref sb26), .val (.ref b34), .val (.ref b53), .val (.ref b76), .val (.ref b103), .val (.ref b134), .val (.int (own_r p0)), .val (.int (own_r p0)), .val (.int (own_r p1)), .val (.int (own_r (0 : Int32))), .val (.int (own_r (1 : Int32))), .val (.int (1 : Int32)), .val (.int (1 : Int32))] []))
      refine gs (fun t k => XS.iload X173.here hx rfl (hb hby at_231) rfl k) ?_
      show G (T173.setTop (mkF m 233 #[.val (.int p0), .val (.int p1), .val (.int p2), .val (.int p3), .val (.int p4), .val (.ref sb1), .val (.ref sb4), .val (.ref sb8), .val (.ref sb13), .val (.ref sb19), .val (.ref sb26), .val (.ref b34), .val (.ref b53), .val (.ref b76), .val (.ref b103), .val (.ref b134), .val (.int (own_r p0)), .val (.int (own_r p0)), .val (.int (own_r p1)), .val (.int (own_r (0 : Int32))), .val (.int (own_r (1 : Int32))), .val (.int (1 : Int32)), .val (.int (1 : Int32))] [(.int (own_r (1 : Int32)))]))
      refine gs (fun t k => XS.ifNo X173.here hx rfl (hb hby at_233) rfl ((if0 _ _).trans (feq (by decide)).1) k) ?_
      show G (T173.setTop (mkF m 236 #[.val (.int p0), .val (.int p1), .val (.int p2), .val (.int p3), .val (.int p4), .val (.ref sb1), .val (.ref sb4), .val (.ref sb8), .val (.ref sb13), .val (.ref sb19), .val (.ref sb26), .val (.ref b34), .val (.ref b53), .val (.ref b76), .val (.ref b103), .val (.ref b134), .val (.int (own_r p0)), .val (.int (own_r p0)), .val (.int (own_r p1)), .val (.int (own_r (0 : Int32))), .val (.int (own_r (1 : Int32))), .val (.int (1 : Int32)), .val (.int (1 : Int32))] []))
      refine gs (fun t k => XS.iconst X173.here hx rfl (hb hby at_236) k) ?_
      show G (T173.setTop (mkF m 237 #[.val (.int p0), .val (.int p1), .val (.int p2), .val (.int p3), .val (.int p4), .val (.ref sb1), .val (.ref sb4), .val (.ref sb8), .val (.ref sb13), .val (.ref sb19), .val (.ref sb26), .val (.ref b34), .val (.ref b53), .val (.ref b76), .val (.ref b103), .val (.ref b134), .val (.int (own_r p0)), .val (.int (own_r p0)), .val (.int (own_r p1)), .val (.int (own_r (0 : Int32))), .val (.int (own_r (1 : Int32))), .val (.int (1 : Int32)), .val (.int (1 : Int32))] [(.int (1 : Int32))]))
      refine gs (fun t k => XS.goto X173.here hx rfl (pc0 := 237) (pc' := 241) rfl (hb hby at_237) (by decide) (by decide) k) ?_
      show G (T173.setTop (mkF m 241 #[.val (.int p0), .val (.int p1), .val (.int p2), .val (.int p3), .val (.int p4), .val (.ref sb1), .val (.ref sb4), .val (.ref sb8), .val (.ref sb13), .val (.ref sb19), .val (.ref sb26), .val (.ref b34), .val (.ref b53), .val (.ref b76), .val (.ref b103), .val (.ref b134), .val (.int (own_r p0)), .val (.int (own_r p0)), .val (.int (own_r p1)), .val (.int (own_r (0 : Int32))), .val (.int (own_r (1 : Int32))), .val (.int (1 : Int32)), .val (.int (1 : Int32))] [(.int (1 : Int32))]))
      obtain ⟨fs, hr, hrun, hended, hW, hsame⟩ := X173.leave (v := some (.int (1 : Int32))) (fun h => by rw [Bd.returns] at h; cases h)
      refine gl _ ⟨_, _, retN X173 hx (t := .boolean) Bd.returns (by simp) (hb hby at_241) hr, hrun, hended, _, _, rfl, ?_, ⟨_, rfl⟩, hW, hsame.mono (by decide) (by decide)⟩
      show Q0 h0 n0 _ T173.heap _
      rw [e173]
      exact ⟨rfl, N173⟩
  · refine gs (fun t k => XS.icmpNo X173.here hx rfl (hb hby at_178) rfl (flt hc178).2.2.1 k) ?_
    show G (T173.setTop (mkF m 181 #[.val (.int p0), .val (.int p1), .val (.int p2), .val (.int p3), .val (.int p4), .val (.ref sb1), .val (.ref sb4), .val (.ref sb8), .val (.ref sb13), .val (.ref sb19), .val (.ref sb26), .val (.ref b34), .val (.ref b53), .val (.ref b76), .val (.ref b103), .val (.ref b134), .val (.int (own_r p0)), .val (.int (own_r p0)), .val (.int (own_r p1)), .val (.int (own_r (0 : Int32))), .val (.int (own_r (1 : Int32))), .val (.int (1 : Int32)), .unset] []))
    have i_hc178 := own_nlt hc178
    refine gs (fun t k => XS.iload X173.here hx rfl (hb hby at_181) rfl k) ?_
    show G (T173.setTop (mkF m 183 #[.val (.int p0), .val (.int p1), .val (.int p2), .val (.int p3), .val (.int p4), .val (.ref sb1), .val (.ref sb4), .val (.ref sb8), .val (.ref sb13), .val (.ref sb19), .val (.ref sb26), .val (.ref b34), .val (.ref b53), .val (.ref b76), .val (.ref b103), .val (.ref b134), .val (.int (own_r p0)), .val (.int (own_r p0)), .val (.int (own_r p1)), .val (.int (own_r (0 : Int32))), .val (.int (own_r (1 : Int32))), .val (.int (1 : Int32)), .unset] [(.int (own_r p0))]))
    by_cases hc183 : (own_r p0) = (0 : Int32)
    · refine gs (fun t k => XS.ifYes X173.here hx rfl (pc0 := 183) (pc' := 191) rfl (hb hby at_183) rfl ((if0 _ _).trans (teq hc183).1) (by decide) (by decide) k) ?_
      show G (T173.setTop (mkF m 191 #[.val (.int p0), .val (.int p1), .val (.int p2), .val (.int p3), .val (.int p4), .val (.ref sb1), .val (.ref sb4), .val (.ref sb8), .val (.ref sb13), .val (.ref sb19), .val (.ref sb26), .val (.ref b34), .val (.ref b53), .val (.ref b76), .val (.ref b103), .val (.ref b134), .val (.int (own_r p0)), .val (.int (own_r p0)), .val (.int (own_r p1)), .val (.int (own_r (0 : Int32))), .val (.int (own_r (1 : Int32))), .val (.int (1 : Int32)), .unset] []))
      refine gs (fun t k => XS.iconst X173.here hx rfl (hb hby at_191) k) ?_
      show G (T173.setTop (mkF m 192 #[.val (.int p0), .val (.int p1), .val (.int p2), .val (.int p3), .val (.int p4), .val (.ref sb1), .val (.ref sb4), .val (.ref sb8), .val (.ref sb13), .val (.ref sb19), .val (.ref sb26), .val (.ref b34), .val (.ref b53), .val (.ref b76), .val (.ref b103), .val (.ref b134), .val (.int (own_r p0)), .val (.int (own_r p0)), .val (.int (own_r p1)), .val (.int (own_r (0 : Int32))), .val (.int (own_r (1 : Int32))), .val (.int (1 : Int32)), .unset] [(.int (1 : Int32))]))
      refine gs (fun t k => XS.goto X173.here hx rfl (pc0 := 192) (pc' := 214) rfl (hb hby at_192) (by decide) (by decide) k) ?_
      show G (T173.setTop (mkF m 214 #[.val (.int p0), .val (.int p1), .val (.int p2), .val (.int p3), .val (.int p4), .val (.ref sb1), .val (.ref sb4), .val (.ref sb8), .val (.ref sb13), .val (.ref sb19), .val (.ref sb26), .val (.ref b34), .val (.ref b53), .val (.ref b76), .val (.ref b103), .val (.ref b134), .val (.int (own_r p0)), .val (.int (own_r p0)), .val (.int (own_r p1)), .val (.int (own_r (0 : Int32))), .val (.int (own_r (1 : Int32))), .val (.int (1 : Int32)), .unset] [(.int (1 : Int32))]))
      refine gs (fun t k => XS.istore X173.here hx rfl (hb hby at_214) rfl (l' := #[.val (.int p0), .val (.int p1), .val (.int p2), .val (.int p3), .val (.int p4), .val (.ref sb1), .val (.ref sb4), .val (.ref sb8), .val (.ref sb13), .val (.ref sb19), .val (.ref sb26), .val (.ref b34), .val (.ref b53), .val (.ref b76), .val (.ref b103), .val (.ref b134), .val (.int (own_r p0)), .val (.int (own_r p0)), .val (.int (own_r p1)), .val (.int (own_r (0 : Int32))), .val (.int (own_r (1 : Int32))), .val (.int (1 : Int32)), .val (.int (1 : Int32))]) rfl k) ?_
      show G (T173.setTop (mkF m 216 #[.val (.int p0), .val (.int p1), .val (.int p2), .val (.int p3), .val (.int p4), .val (.ref sb1), .val (.ref sb4), .val (.ref sb8), .val (.ref sb13), .val (.ref sb19), .val (.ref sb26), .val (.ref b34), .val (.ref b53), .val (.ref b76), .val (.ref b103), .val (.ref b134), .val (.int (own_r p0)), .val (.int (own_r p0)), .val (.int (own_r p1)), .val (.int (own_r (0 : Int32))), .val (.int (own_r (1 : Int32))), .val (.int (1 : Int32)), .val (.int (1 : Int32))] []))
      refine gs (fun t k => XS.iload X173.here hx rfl (hb hby at_216) rfl k) ?_
      show G (T173.setTop (mkF m 218 #[.val (.int p0), .val (.int p1), .val (.int p2), .val (.int p3), .val (.int p4), .val (.ref sb1), .val (.ref sb4), .val (.ref sb8), .val (.ref sb13), .val (.ref sb19), .val (.ref sb26), .val (.ref b34), .val (.ref b53), .val (.ref b76), .val (.ref b103), .val (.ref b134), .val (.int (own_r p0)), .val (.int (own_r p0)), .val (.int (own_r p1)), .val (.int (own_r (0 : Int32))), .val (.int (own_r (1 : Int32))), .val (.int (1 : Int32)), .val (.int (1 : Int32))] [(.int (1 : Int32))]))
      refine gs (fun t k => XS.ifNo X173.here hx rfl (hb hby at_218) rfl ((if0 _ _).trans (feq (by decide : ¬ ((1 : Int32) = (0 : Int32)))).1) k) ?_
      show G (T173.setTop (mkF m 221 #[.val (.int p0), .val (.int p1), .val (.int p2), .val (.int p3), .val (.int p4), .val (.ref sb1), .val (.ref sb4), .val (.ref sb8), .val (.ref sb13), .val (.ref sb19), .val (.ref sb26), .val (.ref b34), .val (.ref b53), .val (.ref b76), .val (.ref b103), .val (.ref b134), .val (.int (own_r p0)), .val (.int (own_r p0)), .val (.int (own_r p1)), .val (.int (own_r (0 : Int32))), .val (.int (own_r (1 : Int32))), .val (.int (1 : Int32)), .val (.int (1 : Int32))] []))
      refine gs (fun t k => XS.iload X173.here hx rfl (hb hby at_221) rfl k) ?_
      show G (T173.setTop (mkF m 223 #[.val (.int p0), .val (.int p1), .val (.int p2), .val (.int p3), .val (.int p4), .val (.ref sb1), .val (.ref sb4), .val (.ref sb8), .val (.ref sb13), .val (.ref sb19), .val (.ref sb26), .val (.ref b34), .val (.ref b53), .val (.ref b76), .val (.ref b103), .val (.ref b134), .val (.int (own_r p0)), .val (.int (own_r p0)), .val (.int (own_r p1)), .val (.int (own_r (0 : Int32))), .val (.int (own_r (1 : Int32))), .val (.int (1 : Int32)), .val (.int (1 : Int32))] [(.int (1 : Int32))]))
      refine gs (fun t k => XS.ifNo X173.here hx rfl (hb hby at_223) rfl ((if0 _ _).trans (feq (by decide : ¬ ((1 : Int32) = (0 : Int32)))).1) k) ?_
      show G (T173.setTop (mkF m 226 #[.val (.int p0), .val (.int p1), .val (.int p2), .val (.int p3), .val (.int p4), .val (.ref sb1), .val (.ref sb4), .val (.ref sb8), .val (.ref sb13), .val (.ref sb19), .val (.ref sb26), .val (.ref b34), .val (.ref b53), .val (.ref b76), .val (.ref b103), .val (.ref b134), .val (.int (own_r p0)), .val (.int (own_r p0)), .val (.int (own_r p1)), .val (.int (own_r (0 : Int32))), .val (.int (own_r (1 : Int32))), .val (.int (1 : Int32)), .val (.int (1 : Int32))] []))
      refine gs (fun t k => XS.iload X173.here hx rfl (hb hby at_226) rfl k) ?_
      show G (T173.setTop (mkF m 228 #[.val (.int p0), .val (.int p1), .val (.int p2), .val (.int p3), .val (.int p4), .val (.ref sb1), .val (.ref sb4), .val (.ref sb8), .val (.ref sb13), .val (.ref sb19), .val (.ref sb26), .val (.ref b34), .val (.ref b53), .val (.ref b76), .val (.ref b103), .val (.ref b134), .val (.int (own_r p0)), .val (.int (own_r p0)), .val (.int (own_r p1)), .val (.int (own_r (0 : Int32))), .val (.int (own_r (1 : Int32))), .val (.int (1 : Int32)), .val (.int (1 : Int32))] [(.int (own_r (0 : Int32)))]))
      refine gs (fun t k => XS.ifNo X173.here hx rfl (hb hby at_228) rfl ((if0 _ _).trans (teq (by decide)).2) k) ?_
      show G (T173.setTop (mkF m 231 #[.val (.int p0), .val (.int p1), .val (.int p2), .val (.int p3), .val (.int p4), .val (.ref sb1), .val (.ref sb4), .val (.ref sb8), .val (.ref sb13), .val (.ref sb19), .val (.ref sb26), .val (.ref b34), .val (.ref b53), .val (.ref b76), .val (.ref b103), .val (.ref b134), .val (.int (own_r p0)), .val (.int (own_r p0)), .val (.int (own_r p1)), .val (.int (own_r (0 : Int32))), .val (.int (own_r (1 : Int32))), .val (.int (1 : Int32)), .val (.int (1 : Int32))] []))
      refine gs (fun t k => XS.iload X173.here hx rfl (hb hby at_231) rfl k) ?_
      show G (T173.setTop (mkF m 233 #[.val (.int p0), .val (.int p1), .val (.int p2), .val (.int p3), .val (.int p4), .val (.ref sb1), .val (.ref sb4), .val (.ref sb8), .val (.ref sb13), .val (.ref sb19), .val (.ref sb26), .val (.ref b34), .val (.ref b53), .val (.ref b76), .val (.ref b103), .val (.ref b134), .val (.int (own_r p0)), .val (.int (own_r p0)), .val (.int (own_r p1)), .val (.int (own_r (0 : Int32))), .val (.int (own_r (1 : Int32))), .val (.int (1 : Int32)), .val (.int (1 : Int32))] [(.int (own_r (1 : Int32)))]))
      refine gs (fun t k => XS.ifNo X173.here hx rfl (hb hby at_233) rfl ((if0 _ _).trans (feq (by decide)).1) k) ?_
      show G (T173.setTop (mkF m 236 #[.val (.int p0), .val (.int p1), .val (.int p2), .val (.int p3), .val (.int p4), .val (.ref sb1), .val (.ref sb4), .val (.ref sb8), .val (.ref sb13), .val (.ref sb19), .val (.ref sb26), .val (.ref b34), .val (.ref b53), .val (.ref b76), .val (.ref b103), .val (.ref b134), .val (.int (own_r p0)), .val (.int (own_r p0)), .val (.int (own_r p1)), .val (.int (own_r (0 : Int32))), .val (.int (own_r (1 : Int32))), .val (.int (1 : Int32)), .val (.int (1 : Int32))] []))
      refine gs (fun t k => XS.iconst X173.here hx rfl (hb hby at_236) k) ?_
      show G (T173.setTop (mkF m 237 #[.val (.int p0), .val (.int p1), .val (.int p2), .val (.int p3), .val (.int p4), .val (.ref sb1), .val (.ref sb4), .val (.ref sb8), .val (.ref sb13), .val (.ref sb19), .val (.ref sb26), .val (.ref b34), .val (.ref b53), .val (.ref b76), .val (.ref b103), .val (.ref b134), .val (.int (own_r p0)), .val (.int (own_r p0)), .val (.int (own_r p1)), .val (.int (own_r (0 : Int32))), .val (.int (own_r (1 : Int32))), .val (.int (1 : Int32)), .val (.int (1 : Int32))] [(.int (1 : Int32))]))
      refine gs (fun t k => XS.goto X173.here hx rfl (pc0 := 237) (pc' := 241) rfl (hb hby at_237) (by decide) (by decide) k) ?_
      show G (T173.setTop (mkF m 241 #[.val (.int p0), .val (.int p1), .val (.int p2), .val (.int p3), .val (.int p4), .val (.ref sb1), .val (.ref sb4), .val (.ref sb8), .val (.ref sb13), .val (.ref sb19), .val (.ref sb26), .val (.ref b34), .val (.ref b53), .val (.ref b76), .val (.ref b103), .val (.ref b134), .val (.int (own_r p0)), .val (.int (own_r p0)), .val (.int (own_r p1)), .val (.int (own_r (0 : Int32))), .val (.int (own_r (1 : Int32))), .val (.int (1 : Int32)), .val (.int (1 : Int32))] [(.int (1 : Int32))]))
      obtain ⟨fs, hr, hrun, hended, hW, hsame⟩ := X173.leave (v := some (.int (1 : Int32))) (fun h => by rw [Bd.returns] at h; cases h)
      refine gl _ ⟨_, _, retN X173 hx (t := .boolean) Bd.returns (by simp) (hb hby at_241) hr, hrun, hended, _, _, rfl, ?_, ⟨_, rfl⟩, hW, hsame.mono (by decide) (by decide)⟩
      show Q0 h0 n0 _ T173.heap _
      rw [e173]
      exact ⟨rfl, N173⟩
    · refine gs (fun t k => XS.ifNo X173.here hx rfl (hb hby at_183) rfl ((if0 _ _).trans (feq hc183).1) k) ?_
      show G (T173.setTop (mkF m 186 #[.val (.int p0), .val (.int p1), .val (.int p2), .val (.int p3), .val (.int p4), .val (.ref sb1), .val (.ref sb4), .val (.ref sb8), .val (.ref sb13), .val (.ref sb19), .val (.ref sb26), .val (.ref b34), .val (.ref b53), .val (.ref b76), .val (.ref b103), .val (.ref b134), .val (.int (own_r p0)), .val (.int (own_r p0)), .val (.int (own_r p1)), .val (.int (own_r (0 : Int32))), .val (.int (own_r (1 : Int32))), .val (.int (1 : Int32)), .unset] []))
      refine gs (fun t k => XS.iload X173.here hx rfl (hb hby at_186) rfl k) ?_
      show G (T173.setTop (mkF m 188 #[.val (.int p0), .val (.int p1), .val (.int p2), .val (.int p3), .val (.int p4), .val (.ref sb1), .val (.ref sb4), .val (.ref sb8), .val (.ref sb13), .val (.ref sb19), .val (.ref sb26), .val (.ref b34), .val (.ref b53), .val (.ref b76), .val (.ref b103), .val (.ref b134), .val (.int (own_r p0)), .val (.int (own_r p0)), .val (.int (own_r p1)), .val (.int (own_r (0 : Int32))), .val (.int (own_r (1 : Int32))), .val (.int (1 : Int32)), .unset] [(.int (own_r p1))]))
      refine gs (fun t k => XS.ifNo X173.here hx rfl (hb hby at_188) rfl ((if0 _ _).trans (feq (own_m i_hc178 hc183)).1) k) ?_
      show G (T173.setTop (mkF m 191 #[.val (.int p0), .val (.int p1), .val (.int p2), .val (.int p3), .val (.int p4), .val (.ref sb1), .val (.ref sb4), .val (.ref sb8), .val (.ref sb13), .val (.ref sb19), .val (.ref sb26), .val (.ref b34), .val (.ref b53), .val (.ref b76), .val (.ref b103), .val (.ref b134), .val (.int (own_r p0)), .val (.int (own_r p0)), .val (.int (own_r p1)), .val (.int (own_r (0 : Int32))), .val (.int (own_r (1 : Int32))), .val (.int (1 : Int32)), .unset] []))
      refine gs (fun t k => XS.iconst X173.here hx rfl (hb hby at_191) k) ?_
      show G (T173.setTop (mkF m 192 #[.val (.int p0), .val (.int p1), .val (.int p2), .val (.int p3), .val (.int p4), .val (.ref sb1), .val (.ref sb4), .val (.ref sb8), .val (.ref sb13), .val (.ref sb19), .val (.ref sb26), .val (.ref b34), .val (.ref b53), .val (.ref b76), .val (.ref b103), .val (.ref b134), .val (.int (own_r p0)), .val (.int (own_r p0)), .val (.int (own_r p1)), .val (.int (own_r (0 : Int32))), .val (.int (own_r (1 : Int32))), .val (.int (1 : Int32)), .unset] [(.int (1 : Int32))]))
      refine gs (fun t k => XS.goto X173.here hx rfl (pc0 := 192) (pc' := 214) rfl (hb hby at_192) (by decide) (by decide) k) ?_
      show G (T173.setTop (mkF m 214 #[.val (.int p0), .val (.int p1), .val (.int p2), .val (.int p3), .val (.int p4), .val (.ref sb1), .val (.ref sb4), .val (.ref sb8), .val (.ref sb13), .val (.ref sb19), .val (.ref sb26), .val (.ref b34), .val (.ref b53), .val (.ref b76), .val (.ref b103), .val (.ref b134), .val (.int (own_r p0)), .val (.int (own_r p0)), .val (.int (own_r p1)), .val (.int (own_r (0 : Int32))), .val (.int (own_r (1 : Int32))), .val (.int (1 : Int32)), .unset] [(.int (1 : Int32))]))
      refine gs (fun t k => XS.istore X173.here hx rfl (hb hby at_214) rfl (l' := #[.val (.int p0), .val (.int p1), .val (.int p2), .val (.int p3), .val (.int p4), .val (.ref sb1), .val (.ref sb4), .val (.ref sb8), .val (.ref sb13), .val (.ref sb19), .val (.ref sb26), .val (.ref b34), .val (.ref b53), .val (.ref b76), .val (.ref b103), .val (.ref b134), .val (.int (own_r p0)), .val (.int (own_r p0)), .val (.int (own_r p1)), .val (.int (own_r (0 : Int32))), .val (.int (own_r (1 : Int32))), .val (.int (1 : Int32)), .val (.int (1 : Int32))]) rfl k) ?_
      show G (T173.setTop (mkF m 216 #[.val (.int p0), .val (.int p1), .val (.int p2), .val (.int p3), .val (.int p4), .val (.ref sb1), .val (.ref sb4), .val (.ref sb8), .val (.ref sb13), .val (.ref sb19), .val (.ref sb26), .val (.ref b34), .val (.ref b53), .val (.ref b76), .val (.ref b103), .val (.ref b134), .val (.int (own_r p0)), .val (.int (own_r p0)), .val (.int (own_r p1)), .val (.int (own_r (0 : Int32))), .val (.int (own_r (1 : Int32))), .val (.int (1 : Int32)), .val (.int (1 : Int32))] []))
      refine gs (fun t k => XS.iload X173.here hx rfl (hb hby at_216) rfl k) ?_
      show G (T173.setTop (mkF m 218 #[.val (.int p0), .val (.int p1), .val (.int p2), .val (.int p3), .val (.int p4), .val (.ref sb1), .val (.ref sb4), .val (.ref sb8), .val (.ref sb13), .val (.ref sb19), .val (.ref sb26), .val (.ref b34), .val (.ref b53), .val (.ref b76), .val (.ref b103), .val (.ref b134), .val (.int (own_r p0)), .val (.int (own_r p0)), .val (.int (own_r p1)), .val (.int (own_r (0 : Int32))), .val (.int (own_r (1 : Int32))), .val (.int (1 : Int32)), .val (.int (1 : Int32))] [(.int (1 : Int32))]))
      refine gs (fun t k => XS.ifNo X173.here hx rfl (hb hby at_218) rfl ((if0 _ _).trans (feq (by decide : ¬ ((1 : Int32) = (0 : Int32)))).1) k) ?_
      show G (T173.setTop (mkF m 221 #[.val (.int p0), .val (.int p1), .val (.int p2), .val (.int p3), .val (.int p4), .val (.ref sb1), .val (.ref sb4), .val (.ref sb8), .val (.ref sb13), .val (.ref sb19), .val (.ref sb26), .val (.ref b34), .val (.ref b53), .val (.ref b76), .val (.ref b103), .val (.ref b134), .val (.int (own_r p0)), .val (.int (own_r p0)), .val (.int (own_r p1)), .val (.int (own_r (0 : Int32))), .val (.int (own_r (1 : Int32))), .val (.int (1 : Int32)), .val (.int (1 : Int32))] []))
      refine gs (fun t k => XS.iload X173.here hx rfl (hb hby at_221) rfl k) ?_
      show G (T173.setTop (mkF m 223 #[.val (.int p0), .val (.int p1), .val (.int p2), .val (.int p3), .val (.int p4), .val (.ref sb1), .val (.ref sb4), .val (.ref sb8), .val (.ref sb13), .val (.ref sb19), .val (.ref sb26), .val (.ref b34), .val (.ref b53), .val (.ref b76), .val (.ref b103), .val (.ref b134), .val (.int (own_r p0)), .val (.int (own_r p0)), .val (.int (own_r p1)), .val (.int (own_r (0 : Int32))), .val (.int (own_r (1 : Int32))), .val (.int (1 : Int32)), .val (.int (1 : Int32))] [(.int (1 : Int32))]))
      refine gs (fun t k => XS.ifNo X173.here hx rfl (hb hby at_223) rfl ((if0 _ _).trans (feq (by decide : ¬ ((1 : Int32) = (0 : Int32)))).1) k) ?_
      show G (T173.setTop (mkF m 226 #[.val (.int p0), .val (.int p1), .val (.int p2), .val (.int p3), .val (.int p4), .val (.ref sb1), .val (.ref sb4), .val (.ref sb8), .val (.ref sb13), .val (.ref sb19), .val (.ref sb26), .val (.ref b34), .val (.ref b53), .val (.ref b76), .val (.ref b103), .val (.ref b134), .val (.int (own_r p0)), .val (.int (own_r p0)), .val (.int (own_r p1)), .val (.int (own_r (0 : Int32))), .val (.int (own_r (1 : Int32))), .val (.int (1 : Int32)), .val (.int (1 : Int32))] []))
      refine gs (fun t k => XS.iload X173.here hx rfl (hb hby at_226) rfl k) ?_
      show G (T173.setTop (mkF m 228 #[.val (.int p0), .val (.int p1), .val (.int p2), .val (.int p3), .val (.int p4), .val (.ref sb1), .val (.ref sb4), .val (.ref sb8), .val (.ref sb13), .val (.ref sb19), .val (.ref sb26), .val (.ref b34), .val (.ref b53), .val (.ref b76), .val (.ref b103), .val (.ref b134), .val (.int (own_r p0)), .val (.int (own_r p0)), .val (.int (own_r p1)), .val (.int (own_r (0 : Int32))), .val (.int (own_r (1 : Int32))), .val (.int (1 : Int32)), .val (.int (1 : Int32))] [(.int (own_r (0 : Int32)))]))
      refine gs (fun t k => XS.ifNo X173.here hx rfl (hb hby at_228) rfl ((if0 _ _).trans (teq (by decide)).2) k) ?_
      show G (T173.setTop (mkF m 231 #[.val (.int p0), .val (.int p1), .val (.int p2), .val (.int p3), .val (.int p4), .val (.ref sb1), .val (.ref sb4), .val (.ref sb8), .val (.ref sb13), .val (.ref sb19), .val (.ref sb26), .val (.ref b34), .val (.ref b53), .val (.ref b76), .val (.ref b103), .val (.ref b134), .val (.int (own_r p0)), .val (.int (own_r p0)), .val (.int (own_r p1)), .val (.int (own_r (0 : Int32))), .val (.int (own_r (1 : Int32))), .val (.int (1 : Int32)), .val (.int (1 : Int32))] []))
      refine gs (fun t k => XS.iload X173.here hx rfl (hb hby at_231) rfl k) ?_
      show G (T173.setTop (mkF m 233 #[.val (.int p0), .val (.int p1), .val (.int p2), .val (.int p3), .val (.int p4), .val (.ref sb1), .val (.ref sb4), .val (.ref sb8), .val (.ref sb13), .val (.ref sb19), .val (.ref sb26), .val (.ref b34), .val (.ref b53), .val (.ref b76), .val (.ref b103), .val (.ref b134), .val (.int (own_r p0)), .val (.int (own_r p0)), .val (.int (own_r p1)), .val (.int (own_r (0 : Int32))), .val (.int (own_r (1 : Int32))), .val (.int (1 : Int32)), .val (.int (1 : Int32))] [(.int (own_r (1 : Int32)))]))
      refine gs (fun t k => XS.ifNo X173.here hx rfl (hb hby at_233) rfl ((if0 _ _).trans (feq (by decide)).1) k) ?_
      show G (T173.setTop (mkF m 236 #[.val (.int p0), .val (.int p1), .val (.int p2), .val (.int p3), .val (.int p4), .val (.ref sb1), .val (.ref sb4), .val (.ref sb8), .val (.ref sb13), .val (.ref sb19), .val (.ref sb26), .val (.ref b34), .val (.ref b53), .val (.ref b76), .val (.ref b103), .val (.ref b134), .val (.int (own_r p0)), .val (.int (own_r p0)), .val (.int (own_r p1)), .val (.int (own_r (0 : Int32))), .val (.int (own_r (1 : Int32))), .val (.int (1 : Int32)), .val (.int (1 : Int32))] []))
      refine gs (fun t k => XS.iconst X173.here hx rfl (hb hby at_236) k) ?_
      show G (T173.setTop (mkF m 237 #[.val (.int p0), .val (.int p1), .val (.int p2), .val (.int p3), .val (.int p4), .val (.ref sb1), .val (.ref sb4), .val (.ref sb8), .val (.ref sb13), .val (.ref sb19), .val (.ref sb26), .val (.ref b34), .val (.ref b53), .val (.ref b76), .val (.ref b103), .val (.ref b134), .val (.int (own_r p0)), .val (.int (own_r p0)), .val (.int (own_r p1)), .val (.int (own_r (0 : Int32))), .val (.int (own_r (1 : Int32))), .val (.int (1 : Int32)), .val (.int (1 : Int32))] [(.int (1 : Int32))]))
      refine gs (fun t k => XS.goto X173.here hx rfl (pc0 := 237) (pc' := 241) rfl (hb hby at_237) (by decide) (by decide) k) ?_
      show G (T173.setTop (mkF m 241 #[.val (.int p0), .val (.int p1), .val (.int p2), .val (.int p3), .val (.int p4), .val (.ref sb1), .val (.ref sb4), .val (.ref sb8), .val (.ref sb13), .val (.ref sb19), .val (.ref sb26), .val (.ref b34), .val (.ref b53), .val (.ref b76), .val (.ref b103), .val (.ref b134), .val (.int (own_r p0)), .val (.int (own_r p0)), .val (.int (own_r p1)), .val (.int (own_r (0 : Int32))), .val (.int (own_r (1 : Int32))), .val (.int (1 : Int32)), .val (.int (1 : Int32))] [(.int (1 : Int32))]))
      obtain ⟨fs, hr, hrun, hended, hW, hsame⟩ := X173.leave (v := some (.int (1 : Int32))) (fun h => by rw [Bd.returns] at h; cases h)
      refine gl _ ⟨_, _, retN X173 hx (t := .boolean) Bd.returns (by simp) (hb hby at_241) hr, hrun, hended, _, _, rfl, ?_, ⟨_, rfl⟩, hW, hsame.mono (by decide) (by decide)⟩
      show Q0 h0 n0 _ T173.heap _
      rw [e173]
      exact ⟨rfl, N173⟩
set_option maxRecDepth 65536 in
set_option maxHeartbeats 40000000 in
theorem comes_1 {Post : Tables → Env → Array Value → State → Outcome → State → Prop} (hpost : ∀ tb e args s v u, (limb_1_1.after args s (.returned v) u = true ∧ limb_1_2.after args s (.returned v) u = true ∧ True) → FrameEnd s (.returned v) u (Jvm.fieldLocs frame_1_writes args s ++ Jvm.arrayLocs frame_1_arrays args s ++ Jvm.staticLocs frame_1_statics s) 56 256 → Post tb e args s (.returned v) u) :
    ArmFor flags0 classFile x code maxLocals ret World_1 tables_1 room_1 Calls_1 rest_1 Pre_1 Post := by
  intro l hfl _ _ p e ha hc hk s m args below hf hA hF happ hP
  obtain ⟨hcalls, hrest, hpre⟩ := hP
  obtain ⟨-, -, -, hnamed, -, -, -, hat⟩ := (Spec.applies_iff hf).mp happ
  obtain ⟨hg, hn⟩ := and_e (Cond.before_iff.mp (show (Jvm.Cond.and given_1 narrow_1).before args s = true from hpre))
  obtain ⟨hg0, hg1⟩ := and_e hg
  obtain ⟨hv0, ht0⟩ := and_e hg1
  obtain ⟨hv1, ht1⟩ := and_e ht0
  obtain ⟨hv2, ht2⟩ := and_e ht1
  obtain ⟨hv3, ht3⟩ := and_e ht2
  have hv4 := ht3
  obtain ⟨w0, w1, w2, w3, w4, rfl⟩ : ∃ w0 w1 w2 w3 w4 : Value, args = #[w0, w1, w2, w3, w4] := by
    have hs : args.size = 5 := by simpa [Cond.value, given_1] using hg0
    obtain ⟨L⟩ := args
    match L, hs with
    | [w0, w1, w2, w3, w4], _ => exact ⟨w0, w1, w2, w3, w4, rfl⟩
  have hw := fun d (hd : d ∈ tables_1) => atoms_spec (ws := Jvm.Cond.code x code maxLocals ret :: tables_1) hat d (List.mem_cons_of_mem _ hd)
  have hfit : Fit s := fun {y c} hc i hi => by
    obtain ⟨ha, rfl⟩ := Array.getElem?_eq_some_iff.mp hc
    have q := List.all_eq_true.mp ((Array.all_eq_true_iff_forall_mem.mp hF) _ (Array.getElem_mem ha)) i (List.mem_range.mpr hi)
    simpa [Array.getElem?_eq_getElem hi] using q
  obtain ⟨hsets, hown0⟩ := atoms_of _ (rest_1_c_eq ▸ (show rest_1_c.before _ s = true from hrest))
  have hr0 := Cond.before_iff.mp hown0
  obtain ⟨i0, ei0⟩ := is_v hv0
  obtain rfl : w0 = (.int i0) := Option.some.inj ei0
  obtain ⟨i1, ei1⟩ := is_v hv1
  obtain rfl : w1 = (.int i1) := Option.some.inj ei1
  obtain ⟨i2, ei2⟩ := is_v hv2
  obtain rfl : w2 = (.int i2) := Option.some.inj ei2
  obtain ⟨i3, ei3⟩ := is_v hv3
  obtain rfl : w3 = (.int i3) := Option.some.inj ei3
  obtain ⟨i4, ei4⟩ := is_v hv4
  obtain rfl : w4 = (.int i4) := Option.some.inj ei4
  obtain ⟨cs, evc⟩ := is_v (Cond.before_iff.mp (hsets _ (List.mem_of_getElem? (i := 1) rfl)))
  have SC := Sta.start evc (Or.inl (hsets _ (List.mem_of_getElem? (i := 0) rfl)))
  have hcs : ¬ cs = (0 : Int32) := by
    have h := not_v (Cond.before_iff.mp (hsets _ (List.mem_of_getElem? (i := 2) rfl)))
    simpa [Cond.value, evc, Term.int_eval] using h
  obtain ⟨n, o, h1, h2, h3, _, L, rfl, ⟨rfl, N⟩, hq⟩ := rm0 l s _ hw tables_1 i0 i1 i2 i3 i4 cs s.heap s.heap.size (Nat.le_refl _) SC hcs p e ha hc hk s m _ below hf ((Spec.applies_iff_loose hf).mp happ).1 ⟨rfl, State.Warmed39.refl s, rfl⟩ trivial
  refine ⟨n, _, h1, h2, h3, hpost _ _ _ _ _ _ ⟨Cond.after_iff.mpr rfl, Cond.after_iff.mpr (eq_i res_at (Term.int_eval (1)) rfl), trivial⟩ ⟨hq.1, hq.2.1, (hq.2.2.sift fun y hy => Or.inr (N y hy)).mono (by decide) (by decide)⟩⟩
theorem main_1_1 : Claimed_1_1 := comes_1 fun _ _ _ _ _ _ h hF => ⟨h.1, hF⟩
theorem main_1_2 : Claimed_1_2 := comes_1 fun _ _ _ _ _ _ h hF => ⟨h.2.1, hF⟩
end Jvm.Pilot.@@N@@
namespace Jvm.Pilot.@@N@@
open Jvm Jvm.ClassFile Sem Op Lib Jvm.Free Jvm.Stand Jvm.Pilot.@@N@@.Jvm.D
/-! MADE BY PROGRAM (witnessworld.py) out of the Statement's table words and the real class files: 21 classes; the members and pool entries that the words name. The judged class is class 1, her method 2. -/
namespace start1
open Jvm.ClassFile
def u (s : String) : CpInfo := .utf8 (stringToUtf16 s)
/-- a pool by its gaps: so many unusable entries, then the entry; so many at the end -/
def gap : Nat → List CpInfo → List CpInfo
  | 0, r => r
  | n + 1, r => .unusable :: gap n r
def poolList (es : List (Nat × CpInfo)) (last : Nat) : List CpInfo := es.foldr (fun e r => gap e.1 (e.2 :: r)) (gap last [])
def pool (es : List (Nat × CpInfo)) (last : Nat) : Array CpInfo := ⟨poolList es last⟩
def fileOf (pool : Array CpInfo) (this : Nat) (attrs : Array Attribute := #[]) (ms : Array MethodInfo := #[]) (fl : Nat := 33) (sup : Nat := 0) (ifs : Array Nat := #[]) (fds : Array FieldInfo := #[]) : ClassFile where
  minorVersion := 0
  majorVersion := 65
  constantPool := pool
  accessFlags := fl
  thisClass := this
  superClass := sup
  interfaces := ifs
  fields := fds
  methods := ms
  attributes := attrs
def plain (name : String) (sup : Option ClassId) : Class where
  name := name
  kind := .ordinary
  loader := none
  accessFlags := 33
  super := sup
  interfaces := #[]
  cf := none
  fields := #[]
  methods := #[]
  instanceTypes := #[]
  staticTypes := #[]
  resolved := #[]
  callSites := []
  init := .initialized
  statics := none
  mirror := none

def pool0 : Array CpInfo := pool [(5, u "<init>"), (0, u "()V"), (1, .class_ 10), (1, u "java/lang/Object")] 113

def k0c0 : Code := { maxStack := 0, maxLocals := 1, code := object_method_1_code, exceptionTable := #[], attributes := #[] }
def k0m0 : Method := { name := "<init>", desc := "()V", sig := { parameters := [], returnType := none }, accessFlags := 1, code := some k0c0 }
/-- java/lang/Object -/
def k0 : Class := { plain "java/lang/Object" none with
  accessFlags := 33
  interfaces := #[]
  cf := some (fileOf pool0 8 #[] #[{ accessFlags := 1, nameIndex := 5, descriptorIndex := 6, attributes := #[] }] 33 0 #[] #[])
  fields := #[]
  methods := #[k0m0]
  instanceTypes := #[]
  staticTypes := #[]
  resolved := Array.replicate 124 none
  statics := none }

def pool1 : Array CpInfo := pool [(2, .class_ 4), (1, u "java/lang/Object"), (0, u "<init>"), (0, u "()V"), (0, .class_ 8), (0, u "java/lang/String"), (0, .methodref 7 10), (0, .nameAndType 5 11), (0, u "([C)V"), (0, .methodref 13 14), (0, .class_ 15), (0, .nameAndType 16 17), (0, u "com/example/consensus_to_coverage/consensustocoverage/trecfiles/JudgementIsRelevantPinLaw"), (0, u "str"), (0, u "(II)Ljava/lang/String;"), (0, .class_ 19), (0, u "com/example/consensus_to_coverage/consensustocoverage/trecfiles/Judgement"), (0, .methodref 18 21), (0, .nameAndType 5 22), (0, u "(Ljava/lang/String;Ljava/lang/String;Ljava/lang/String;I)V"), (0, .methodref 18 24), (0, .nameAndType 25 26), (0, u "isRelevant"), (0, u "()Z"), (2, u "law"), (0, u "(IIIII)Z")] 3

def k1m0 : Method := { name := "<init>", desc := "()V", sig := { parameters := [], returnType := none }, accessFlags := 1, code := none }
def k1c1 : Code := { maxStack := 5, maxLocals := 3, code := method_2_code, exceptionTable := #[], attributes := #[] }
def k1m1 : Method := { name := "str", desc := "(II)Ljava/lang/String;", sig := { parameters := [.int, .int], returnType := some (.object "java/lang/String") }, accessFlags := 10, code := some k1c1 }
def k1c2 : Code := { maxStack := 6, maxLocals := 23, code := code, exceptionTable := #[], attributes := #[] }
def k1m2 : Method := { name := "law", desc := "(IIIII)Z", sig := { parameters := [.int, .int, .int, .int, .int], returnType := some .boolean }, accessFlags := 9, code := some k1c2 }
/-- com/example/consensus_to_coverage/consensustocoverage/trecfiles/JudgementIsRelevantPinLaw -/
def k1 : Class := { plain "com/example/consensus_to_coverage/consensustocoverage/trecfiles/JudgementIsRelevantPinLaw" (some 0) with
  accessFlags := 49
  interfaces := #[]
  cf := some (fileOf pool1 13 #[] #[{ accessFlags := 1, nameIndex := 5, descriptorIndex := 6, attributes := #[] }, { accessFlags := 10, nameIndex := 16, descriptorIndex := 17, attributes := #[] }, { accessFlags := 9, nameIndex := 29, descriptorIndex := 30, attributes := #[] }] 49 2 #[] #[])
  fields := #[]
  methods := #[k1m0, k1m1, k1m2]
  instanceTypes := #[]
  staticTypes := #[]
  resolved := Array.replicate 34 none
  statics := none }

def pool2 : Array CpInfo := pool [(1, .class_ 2), (0, u "java/io/Serializable"), (0, .class_ 4), (0, u "java/lang/Object")] 2

/-- java/io/Serializable -/
def k2 : Class := { plain "java/io/Serializable" (some 0) with
  accessFlags := 1537
  interfaces := #[]
  cf := some (fileOf pool2 1 #[] #[] 1537 3 #[] #[])
  fields := #[]
  methods := #[]
  instanceTypes := #[]
  staticTypes := #[]
  resolved := Array.replicate 7 none
  statics := none }

def pool3 : Array CpInfo := pool [(1, .class_ 2), (0, u "java/lang/Comparable"), (0, .class_ 4), (0, u "java/lang/Object")] 7

/-- java/lang/Comparable -/
def k3 : Class := { plain "java/lang/Comparable" (some 0) with
  accessFlags := 1537
  interfaces := #[]
  cf := some (fileOf pool3 1 #[] #[] 1537 3 #[] #[])
  fields := #[]
  methods := #[]
  instanceTypes := #[]
  staticTypes := #[]
  resolved := Array.replicate 12 none
  statics := none }

def pool4 : Array CpInfo := pool [(2, .class_ 4), (1, u "java/lang/CharSequence"), (42, .class_ 48), (0, u "java/lang/CharSequence$1CodePointIterator"), (10, .class_ 60), (0, u "java/lang/CharSequence$1CharIterator"), (5, .class_ 67), (0, u "java/lang/Object")] 63

/-- java/lang/CharSequence -/
def k4 : Class := { plain "java/lang/CharSequence" (some 0) with
  accessFlags := 1537
  interfaces := #[]
  cf := some (fileOf pool4 2 #[.nestMembers #[47, 59]] #[] 1537 66 #[] #[])
  fields := #[]
  methods := #[]
  instanceTypes := #[]
  staticTypes := #[]
  resolved := Array.replicate 131 none
  statics := none }

def pool5 : Array CpInfo := pool [(1, .class_ 2), (0, u "java/lang/constant/Constable"), (0, .class_ 4), (0, u "java/lang/Object")] 6

/-- java/lang/constant/Constable -/
def k5 : Class := { plain "java/lang/constant/Constable" (some 0) with
  accessFlags := 1537
  interfaces := #[]
  cf := some (fileOf pool5 1 #[] #[] 1537 3 #[] #[])
  fields := #[]
  methods := #[]
  instanceTypes := #[]
  staticTypes := #[]
  resolved := Array.replicate 11 none
  statics := none }

def pool6 : Array CpInfo := pool [(1, .class_ 2), (0, u "java/lang/constant/ConstantDesc"), (0, .class_ 4), (0, u "java/lang/Object")] 32

/-- java/lang/constant/ConstantDesc -/
def k6 : Class := { plain "java/lang/constant/ConstantDesc" (some 0) with
  accessFlags := 1537
  interfaces := #[]
  cf := some (fileOf pool6 1 #[] #[] 1537 3 #[] #[])
  fields := #[]
  methods := #[]
  instanceTypes := #[]
  staticTypes := #[]
  resolved := Array.replicate 37 none
  statics := none }

def pool7 : Array CpInfo := pool [(1, .methodref 2 3), (0, .class_ 4), (0, .nameAndType 5 6), (0, u "java/lang/Object"), (0, u "<init>"), (0, u "()V"), (2, .fieldref 10 11), (0, .class_ 12), (0, .nameAndType 13 14), (0, u "java/lang/String"), (0, u "value"), (0, u "[B"), (0, .fieldref 10 16), (0, .nameAndType 17 18), (0, u "coder"), (0, u "B"), (2, u "hash"), (0, u "I"), (2, u "hashIsZero"), (0, u "Z"), (0, .methodref 10 28), (0, .nameAndType 5 29), (0, u "([CIILjava/lang/Void;)V"), (8, .fieldref 10 39), (0, .nameAndType 40 26), (0, u "COMPACT_STRINGS"), (1, .class_ 44), (1, u "java/lang/StringUTF16"), (0, u "compress"), (1, .methodref 42 48), (0, .nameAndType 49 50), (0, u "coderFromArrayLen"), (0, u "([BI)B"), (126, .methodref 42 178), (0, .nameAndType 45 179), (0, u "([CII)[B"), (395, .class_ 576), (0, u "java/lang/CharSequence"), (22, u "CASE_INSENSITIVE_ORDER"), (0, u "Ljava/util/Comparator;"), (409, u "([C)V"), (90, u "serialPersistentFields"), (0, u "[Ljava/io/ObjectStreamField;"), (0, .class_ 1104), (0, u "java/lang/String$CaseInsensitiveComparator"), (1, .class_ 1107), (0, u "java/io/Serializable"), (0, .class_ 1109), (0, u "java/lang/Comparable"), (0, .class_ 1111), (0, u "java/lang/constant/Constable"), (0, .class_ 1113), (0, u "java/lang/constant/ConstantDesc"), (2, u "serialVersionUID"), (0, u "J"), (3, u "REPL"), (0, u "C"), (2, u "LATIN1"), (1, u "UTF16")] 323

def k7m0 : Method := { name := "<init>", desc := "()V", sig := { parameters := [], returnType := none }, accessFlags := 1, code := none }
def k7c1 : Code := { maxStack := 5, maxLocals := 2, code := jdk_42_method_3_code, exceptionTable := #[], attributes := #[] }
def k7m1 : Method := { name := "<init>", desc := "([C)V", sig := { parameters := [(.array .char)], returnType := none }, accessFlags := 1, code := some k7c1 }
def k7c2 : Code := { maxStack := 4, maxLocals := 6, code := jdk_42_method_149_code, exceptionTable := #[], attributes := #[] }
def k7m2 : Method := { name := "<init>", desc := "([CIILjava/lang/Void;)V", sig := { parameters := [(.array .char), .int, .int, (.object "java/lang/Void")], returnType := none }, accessFlags := 2, code := some k7c2 }
/-- java/lang/String -/
def k7 : Class := { plain "java/lang/String" (some 0) with
  accessFlags := 49
  interfaces := #[2, 3, 4, 5, 6]
  cf := some (fileOf pool7 10 #[.nestMembers #[1103]] #[{ accessFlags := 1, nameIndex := 5, descriptorIndex := 6, attributes := #[] }, { accessFlags := 1, nameIndex := 5, descriptorIndex := 1010, attributes := #[] }, { accessFlags := 2, nameIndex := 5, descriptorIndex := 29, attributes := #[] }] 49 2 #[1106, 1108, 575, 1110, 1112] #[{ accessFlags := 18, nameIndex := 13, descriptorIndex := 14, attributes := #[] }, { accessFlags := 18, nameIndex := 17, descriptorIndex := 18, attributes := #[] }, { accessFlags := 2, nameIndex := 21, descriptorIndex := 22, attributes := #[] }, { accessFlags := 2, nameIndex := 25, descriptorIndex := 26, attributes := #[] }, { accessFlags := 26, nameIndex := 1116, descriptorIndex := 1117, attributes := #[] }, { accessFlags := 24, nameIndex := 40, descriptorIndex := 26, attributes := #[] }, { accessFlags := 26, nameIndex := 1101, descriptorIndex := 1102, attributes := #[] }, { accessFlags := 26, nameIndex := 1121, descriptorIndex := 1122, attributes := #[] }, { accessFlags := 25, nameIndex := 599, descriptorIndex := 600, attributes := #[] }, { accessFlags := 24, nameIndex := 1125, descriptorIndex := 18, attributes := #[] }, { accessFlags := 24, nameIndex := 1127, descriptorIndex := 18, attributes := #[] }])
  fields := #[{ name := "value", type := (.array .byte), accessFlags := 18, slot := 0, constantValue := 0 }, { name := "coder", type := .byte, accessFlags := 18, slot := 1, constantValue := 0 }, { name := "hash", type := .int, accessFlags := 2, slot := 2, constantValue := 0 }, { name := "hashIsZero", type := .boolean, accessFlags := 2, slot := 3, constantValue := 0 }, { name := "serialVersionUID", type := .long, accessFlags := 26, slot := 0, constantValue := 0 }, { name := "COMPACT_STRINGS", type := .boolean, accessFlags := 24, slot := 1, constantValue := 0 }, { name := "serialPersistentFields", type := (.array (.object "java/io/ObjectStreamField")), accessFlags := 26, slot := 2, constantValue := 0 }, { name := "REPL", type := .char, accessFlags := 26, slot := 3, constantValue := 0 }, { name := "CASE_INSENSITIVE_ORDER", type := (.object "java/util/Comparator"), accessFlags := 25, slot := 4, constantValue := 0 }, { name := "LATIN1", type := .byte, accessFlags := 24, slot := 5, constantValue := 0 }, { name := "UTF16", type := .byte, accessFlags := 24, slot := 6, constantValue := 0 }]
  methods := #[k7m0, k7m1, k7m2]
  instanceTypes := #[(.array .byte), .byte, .int, .boolean]
  staticTypes := #[.long, .boolean, (.array (.object "java/io/ObjectStreamField")), .char, (.object "java/util/Comparator"), .byte, .byte]
  resolved := Array.replicate 1451 none
  statics := some 0 }

def pool8 : Array CpInfo := pool [(6, .class_ 8), (1, u "java/lang/Object"), (0, u "<init>"), (0, u "()V"), (1, .class_ 14), (1, u "java/lang/StringUTF16"), (31, u "$assertionsDisabled"), (0, u "Z"), (13, u "HI_BYTE_SHIFT"), (0, u "I"), (2, u "LO_BYTE_SHIFT"), (49, .methodref 12 116), (0, .nameAndType 117 118), (0, u "compress"), (0, u "([CI[BII)I"), (3, u "([CII)[B"), (138, u "coderFromArrayLen"), (0, u "([BI)B"), (106, .class_ 371), (1, u "java/lang/StringUTF16$LinesSpliterator"), (58, u "MAX_LENGTH"), (196, .class_ 628), (0, u "java/lang/StringUTF16$CodePointsSpliterator"), (0, .class_ 630), (0, u "java/lang/StringUTF16$CharsSpliterator")] 4

def k8m0 : Method := { name := "<init>", desc := "()V", sig := { parameters := [], returnType := none }, accessFlags := 0, code := none }
def k8c1 : Code := { maxStack := 2, maxLocals := 2, code := jdk_52_method_15_code, exceptionTable := #[], attributes := #[] }
def k8m1 : Method := { name := "coderFromArrayLen", desc := "([BI)B", sig := { parameters := [(.array .byte), .int], returnType := some .byte }, accessFlags := 8, code := some k8c1 }
def k8c2 : Code := { maxStack := 5, maxLocals := 6, code := jdk_52_method_16_code, exceptionTable := #[], attributes := #[] }
def k8m2 : Method := { name := "compress", desc := "([CII)[B", sig := { parameters := [(.array .char), .int, .int], returnType := some (.array .byte) }, accessFlags := 9, code := some k8c2 }
def k8c3 : Code := { maxStack := 3, maxLocals := 7, code := jdk_52_method_21_code, exceptionTable := #[], attributes := #[] }
def k8m3 : Method := { name := "compress", desc := "([CI[BII)I", sig := { parameters := [(.array .char), .int, (.array .byte), .int, .int], returnType := some .int }, accessFlags := 9, code := some k8c3 }
/-- java/lang/StringUTF16 -/
def k8 : Class := { plain "java/lang/StringUTF16" (some 0) with
  accessFlags := 48
  interfaces := #[]
  cf := some (fileOf pool8 12 #[.nestMembers #[627, 629, 369]] #[{ accessFlags := 0, nameIndex := 9, descriptorIndex := 10, attributes := #[] }, { accessFlags := 8, nameIndex := 261, descriptorIndex := 262, attributes := #[] }, { accessFlags := 9, nameIndex := 117, descriptorIndex := 122, attributes := #[] }, { accessFlags := 9, nameIndex := 117, descriptorIndex := 118, attributes := #[] }] 48 6 #[] #[{ accessFlags := 26, nameIndex := 61, descriptorIndex := 62, attributes := #[] }, { accessFlags := 26, nameIndex := 65, descriptorIndex := 62, attributes := #[] }, { accessFlags := 24, nameIndex := 430, descriptorIndex := 62, attributes := #[] }, { accessFlags := 4120, nameIndex := 46, descriptorIndex := 47, attributes := #[] }])
  fields := #[{ name := "HI_BYTE_SHIFT", type := .int, accessFlags := 26, slot := 0, constantValue := 0 }, { name := "LO_BYTE_SHIFT", type := .int, accessFlags := 26, slot := 1, constantValue := 0 }, { name := "MAX_LENGTH", type := .int, accessFlags := 24, slot := 2, constantValue := 0 }, { name := "$assertionsDisabled", type := .boolean, accessFlags := 4120, slot := 3, constantValue := 0 }]
  methods := #[k8m0, k8m1, k8m2, k8m3]
  instanceTypes := #[]
  staticTypes := #[.int, .int, .int, .boolean]
  resolved := Array.replicate 635 none
  statics := none }

def pool9 : Array CpInfo := pool [(1, .methodref 2 3), (0, .class_ 4), (0, .nameAndType 5 6), (0, u "java/lang/Object"), (0, u "<init>"), (0, u "()V"), (0, .methodref 8 9), (0, .class_ 10), (0, .nameAndType 11 12), (0, u "java/util/Objects"), (0, u "requireNonNull"), (0, u "(Ljava/lang/Object;)Ljava/lang/Object;"), (0, .class_ 14), (0, u "java/lang/String"), (0, .fieldref 16 17), (0, .class_ 18), (0, .nameAndType 19 20), (0, u "com/example/consensus_to_coverage/consensustocoverage/trecfiles/Judgement"), (0, u "topic"), (0, u "Ljava/lang/String;"), (0, .fieldref 16 22), (0, .nameAndType 23 20), (0, u "subtopic"), (0, .fieldref 16 25), (0, .nameAndType 26 20), (0, u "docId"), (0, .fieldref 16 28), (0, .nameAndType 29 30), (0, u "grade"), (0, u "I"), (44, u "(Ljava/lang/String;Ljava/lang/String;Ljava/lang/String;I)V"), (15, u "FIELD_COUNT"), (13, u "isRelevant"), (0, u "()Z")] 23

def k9c0 : Code := { maxStack := 2, maxLocals := 5, code := prog_55_method_1_code, exceptionTable := #[], attributes := #[] }
def k9m0 : Method := { name := "<init>", desc := "(Ljava/lang/String;Ljava/lang/String;Ljava/lang/String;I)V", sig := { parameters := [(.object "java/lang/String"), (.object "java/lang/String"), (.object "java/lang/String"), .int], returnType := none }, accessFlags := 1, code := some k9c0 }
def k9c1 : Code := { maxStack := 1, maxLocals := 1, code := prog_55_method_8_code, exceptionTable := #[], attributes := #[] }
def k9m1 : Method := { name := "isRelevant", desc := "()Z", sig := { parameters := [], returnType := some .boolean }, accessFlags := 1, code := some k9c1 }
/-- com/example/consensus_to_coverage/consensustocoverage/trecfiles/Judgement -/
def k9 : Class := { plain "com/example/consensus_to_coverage/consensustocoverage/trecfiles/Judgement" (some 0) with
  accessFlags := 49
  interfaces := #[]
  cf := some (fileOf pool9 16 #[] #[{ accessFlags := 1, nameIndex := 5, descriptorIndex := 75, attributes := #[] }, { accessFlags := 1, nameIndex := 105, descriptorIndex := 106, attributes := #[] }] 49 2 #[] #[{ accessFlags := 26, nameIndex := 91, descriptorIndex := 30, attributes := #[] }, { accessFlags := 18, nameIndex := 19, descriptorIndex := 20, attributes := #[] }, { accessFlags := 18, nameIndex := 23, descriptorIndex := 20, attributes := #[] }, { accessFlags := 18, nameIndex := 26, descriptorIndex := 20, attributes := #[] }, { accessFlags := 18, nameIndex := 29, descriptorIndex := 30, attributes := #[] }])
  fields := #[{ name := "FIELD_COUNT", type := .int, accessFlags := 26, slot := 0, constantValue := 0 }, { name := "topic", type := (.object "java/lang/String"), accessFlags := 18, slot := 0, constantValue := 0 }, { name := "subtopic", type := (.object "java/lang/String"), accessFlags := 18, slot := 1, constantValue := 0 }, { name := "docId", type := (.object "java/lang/String"), accessFlags := 18, slot := 2, constantValue := 0 }, { name := "grade", type := .int, accessFlags := 18, slot := 3, constantValue := 0 }]
  methods := #[k9m0, k9m1]
  instanceTypes := #[(.object "java/lang/String"), (.object "java/lang/String"), (.object "java/lang/String"), .int]
  staticTypes := #[.int]
  resolved := Array.replicate 130 none
  statics := none }

def pool10 : Array CpInfo := pool [(2, .class_ 4), (1, u "java/lang/Object"), (0, u "<init>"), (0, u "()V"), (35, .class_ 44), (1, u "java/util/Objects"), (0, u "requireNonNull"), (0, u "(Ljava/lang/Object;)Ljava/lang/Object;")] 137

def k10m0 : Method := { name := "<init>", desc := "()V", sig := { parameters := [], returnType := none }, accessFlags := 2, code := none }
def k10c1 : Code := { maxStack := 2, maxLocals := 1, code := jdk_31_method_10_code, exceptionTable := #[], attributes := #[] }
def k10m1 : Method := { name := "requireNonNull", desc := "(Ljava/lang/Object;)Ljava/lang/Object;", sig := { parameters := [(.object "java/lang/Object")], returnType := some (.object "java/lang/Object") }, accessFlags := 9, code := some k10c1 }
/-- java/util/Objects -/
def k10 : Class := { plain "java/util/Objects" (some 0) with
  accessFlags := 49
  interfaces := #[]
  cf := some (fileOf pool10 42 #[] #[{ accessFlags := 2, nameIndex := 5, descriptorIndex := 6, attributes := #[] }, { accessFlags := 9, nameIndex := 45, descriptorIndex := 46, attributes := #[] }] 49 2 #[] #[])
  fields := #[]
  methods := #[k10m0, k10m1]
  instanceTypes := #[]
  staticTypes := #[]
  resolved := Array.replicate 184 none
  statics := none }

def pool11 : Array CpInfo := pool [(4, .class_ 6), (1, u "java/lang/Object"), (0, u "<init>"), (0, u "()V"), (5, .class_ 16), (1, u "java/lang/StringLatin1"), (104, u "$assertionsDisabled"), (0, u "Z"), (98, .class_ 223), (1, u "java/lang/StringLatin1$LinesSpliterator"), (166, .class_ 391), (0, u "java/lang/StringLatin1$CharsSpliterator")] 3

def k11m0 : Method := { name := "<init>", desc := "()V", sig := { parameters := [], returnType := none }, accessFlags := 0, code := none }
/-- java/lang/StringLatin1 -/
def k11 : Class := { plain "java/lang/StringLatin1" (some 0) with
  accessFlags := 48
  interfaces := #[]
  cf := some (fileOf pool11 14 #[.nestMembers #[390, 221]] #[{ accessFlags := 0, nameIndex := 7, descriptorIndex := 8, attributes := #[] }] 48 4 #[] #[{ accessFlags := 4120, nameIndex := 121, descriptorIndex := 122, attributes := #[] }])
  fields := #[{ name := "$assertionsDisabled", type := .boolean, accessFlags := 4120, slot := 0, constantValue := 0 }]
  methods := #[k11m0]
  instanceTypes := #[]
  staticTypes := #[.boolean]
  resolved := Array.replicate 395 none
  statics := none }

def pool12 : Array CpInfo := pool [(2, .class_ 4), (1, u "java/lang/Object"), (0, u "<init>"), (0, u "()V"), (17, .class_ 26), (1, u "jdk/internal/util/Preconditions"), (28, .class_ 56), (0, u "jdk/internal/util/Preconditions$4"), (57, .class_ 115), (0, u "jdk/internal/util/Preconditions$1"), (7, u "SIOOBE_FORMATTER"), (0, u "Ljava/util/function/BiFunction;"), (0, .class_ 126), (0, u "jdk/internal/util/Preconditions$2"), (3, u "AIOOBE_FORMATTER"), (0, .class_ 132), (0, u "jdk/internal/util/Preconditions$3"), (3, u "IOOBE_FORMATTER")] 57

def k12m0 : Method := { name := "<init>", desc := "()V", sig := { parameters := [], returnType := none }, accessFlags := 1, code := none }
/-- jdk/internal/util/Preconditions -/
def k12 : Class := { plain "jdk/internal/util/Preconditions" (some 0) with
  accessFlags := 33
  interfaces := #[]
  cf := some (fileOf pool12 24 #[.nestMembers #[55, 131, 125, 114]] #[{ accessFlags := 1, nameIndex := 5, descriptorIndex := 6, attributes := #[] }] 33 2 #[] #[{ accessFlags := 25, nameIndex := 123, descriptorIndex := 124, attributes := #[] }, { accessFlags := 25, nameIndex := 130, descriptorIndex := 124, attributes := #[] }, { accessFlags := 25, nameIndex := 136, descriptorIndex := 124, attributes := #[] }])
  fields := #[{ name := "SIOOBE_FORMATTER", type := (.object "java/util/function/BiFunction"), accessFlags := 25, slot := 0, constantValue := 0 }, { name := "AIOOBE_FORMATTER", type := (.object "java/util/function/BiFunction"), accessFlags := 25, slot := 1, constantValue := 0 }, { name := "IOOBE_FORMATTER", type := (.object "java/util/function/BiFunction"), accessFlags := 25, slot := 2, constantValue := 0 }]
  methods := #[k12m0]
  instanceTypes := #[]
  staticTypes := #[(.object "java/util/function/BiFunction"), (.object "java/util/function/BiFunction"), (.object "java/util/function/BiFunction")]
  resolved := Array.replicate 194 none
  statics := some 1 }

def pool13 : Array CpInfo := pool [(9, u "<init>"), (6, .class_ 18), (1, u "java/lang/Object"), (0, u "()V"), (1, .class_ 23), (1, u "jdk/internal/util/ArraysSupport"), (0, u "LOG2_ARRAY_LONG_INDEX_SCALE"), (0, u "I"), (2, u "U"), (0, u "Ljdk/internal/misc/Unsafe;"), (8, u "BIG_ENDIAN"), (0, u "Z"), (8, u "LOG2_BYTE_BIT_SIZE"), (4, u "LOG2_ARRAY_INT_INDEX_SCALE"), (54, u "JLA"), (0, u "Ljdk/internal/access/JavaLangAccess;"), (11, u "LOG2_ARRAY_BOOLEAN_INDEX_SCALE"), (9, u "LOG2_ARRAY_BYTE_INDEX_SCALE"), (5, u "LOG2_ARRAY_CHAR_INDEX_SCALE"), (5, u "LOG2_ARRAY_SHORT_INDEX_SCALE"), (18, u "LOG2_ARRAY_FLOAT_INDEX_SCALE"), (24, u "LOG2_ARRAY_DOUBLE_INDEX_SCALE"), (89, u "T_BOOLEAN"), (2, u "T_CHAR"), (1, u "T_FLOAT"), (1, u "T_DOUBLE"), (1, u "T_BYTE"), (1, u "T_SHORT"), (1, u "T_INT"), (1, u "T_LONG"), (1, u "SOFT_MAX_ARRAY_LENGTH")] 83

def k13m0 : Method := { name := "<init>", desc := "()V", sig := { parameters := [], returnType := none }, accessFlags := 2, code := none }
/-- jdk/internal/util/ArraysSupport -/
def k13 : Class := { plain "jdk/internal/util/ArraysSupport" (some 0) with
  accessFlags := 33
  interfaces := #[]
  cf := some (fileOf pool13 21 #[] #[{ accessFlags := 2, nameIndex := 9, descriptorIndex := 19, attributes := #[] }] 33 16 #[] #[{ accessFlags := 24, nameIndex := 28, descriptorIndex := 29, attributes := #[] }, { accessFlags := 26, nameIndex := 38, descriptorIndex := 39, attributes := #[] }, { accessFlags := 25, nameIndex := 121, descriptorIndex := 25, attributes := #[] }, { accessFlags := 25, nameIndex := 131, descriptorIndex := 25, attributes := #[] }, { accessFlags := 25, nameIndex := 137, descriptorIndex := 25, attributes := #[] }, { accessFlags := 25, nameIndex := 143, descriptorIndex := 25, attributes := #[] }, { accessFlags := 25, nameIndex := 53, descriptorIndex := 25, attributes := #[] }, { accessFlags := 25, nameIndex := 24, descriptorIndex := 25, attributes := #[] }, { accessFlags := 25, nameIndex := 162, descriptorIndex := 25, attributes := #[] }, { accessFlags := 25, nameIndex := 187, descriptorIndex := 25, attributes := #[] }, { accessFlags := 26, nameIndex := 48, descriptorIndex := 25, attributes := #[] }, { accessFlags := 25, nameIndex := 277, descriptorIndex := 25, attributes := #[] }, { accessFlags := 25, nameIndex := 280, descriptorIndex := 25, attributes := #[] }, { accessFlags := 25, nameIndex := 282, descriptorIndex := 25, attributes := #[] }, { accessFlags := 25, nameIndex := 284, descriptorIndex := 25, attributes := #[] }, { accessFlags := 25, nameIndex := 286, descriptorIndex := 25, attributes := #[] }, { accessFlags := 25, nameIndex := 288, descriptorIndex := 25, attributes := #[] }, { accessFlags := 25, nameIndex := 290, descriptorIndex := 25, attributes := #[] }, { accessFlags := 25, nameIndex := 292, descriptorIndex := 25, attributes := #[] }, { accessFlags := 26, nameIndex := 108, descriptorIndex := 109, attributes := #[] }, { accessFlags := 25, nameIndex := 294, descriptorIndex := 25, attributes := #[] }])
  fields := #[{ name := "U", type := (.object "jdk/internal/misc/Unsafe"), accessFlags := 24, slot := 0, constantValue := 0 }, { name := "BIG_ENDIAN", type := .boolean, accessFlags := 26, slot := 1, constantValue := 0 }, { name := "LOG2_ARRAY_BOOLEAN_INDEX_SCALE", type := .int, accessFlags := 25, slot := 2, constantValue := 0 }, { name := "LOG2_ARRAY_BYTE_INDEX_SCALE", type := .int, accessFlags := 25, slot := 3, constantValue := 0 }, { name := "LOG2_ARRAY_CHAR_INDEX_SCALE", type := .int, accessFlags := 25, slot := 4, constantValue := 0 }, { name := "LOG2_ARRAY_SHORT_INDEX_SCALE", type := .int, accessFlags := 25, slot := 5, constantValue := 0 }, { name := "LOG2_ARRAY_INT_INDEX_SCALE", type := .int, accessFlags := 25, slot := 6, constantValue := 0 }, { name := "LOG2_ARRAY_LONG_INDEX_SCALE", type := .int, accessFlags := 25, slot := 7, constantValue := 0 }, { name := "LOG2_ARRAY_FLOAT_INDEX_SCALE", type := .int, accessFlags := 25, slot := 8, constantValue := 0 }, { name := "LOG2_ARRAY_DOUBLE_INDEX_SCALE", type := .int, accessFlags := 25, slot := 9, constantValue := 0 }, { name := "LOG2_BYTE_BIT_SIZE", type := .int, accessFlags := 26, slot := 10, constantValue := 0 }, { name := "T_BOOLEAN", type := .int, accessFlags := 25, slot := 11, constantValue := 0 }, { name := "T_CHAR", type := .int, accessFlags := 25, slot := 12, constantValue := 0 }, { name := "T_FLOAT", type := .int, accessFlags := 25, slot := 13, constantValue := 0 }, { name := "T_DOUBLE", type := .int, accessFlags := 25, slot := 14, constantValue := 0 }, { name := "T_BYTE", type := .int, accessFlags := 25, slot := 15, constantValue := 0 }, { name := "T_SHORT", type := .int, accessFlags := 25, slot := 16, constantValue := 0 }, { name := "T_INT", type := .int, accessFlags := 25, slot := 17, constantValue := 0 }, { name := "T_LONG", type := .int, accessFlags := 25, slot := 18, constantValue := 0 }, { name := "JLA", type := (.object "jdk/internal/access/JavaLangAccess"), accessFlags := 26, slot := 19, constantValue := 0 }, { name := "SOFT_MAX_ARRAY_LENGTH", type := .int, accessFlags := 25, slot := 20, constantValue := 0 }]
  methods := #[k13m0]
  instanceTypes := #[]
  staticTypes := #[(.object "jdk/internal/misc/Unsafe"), .boolean, .int, .int, .int, .int, .int, .int, .int, .int, .int, .int, .int, .int, .int, .int, .int, .int, .int, (.object "jdk/internal/access/JavaLangAccess"), .int]
  resolved := Array.replicate 378 none
  statics := none }

def pool14 : Array CpInfo := pool [(1, u "java/lang/Cloneable"), (0, .class_ 1), (0, u "java/lang/Object"), (0, .class_ 3)] 3

/-- java/lang/Cloneable -/
def k14 : Class := { plain "java/lang/Cloneable" (some 0) with
  accessFlags := 1537
  interfaces := #[]
  cf := some (fileOf pool14 2 #[] #[] 1537 4 #[] #[])
  fields := #[]
  methods := #[]
  instanceTypes := #[]
  staticTypes := #[]
  resolved := Array.replicate 8 none
  statics := none }

/-- the primitive byte -/
def k15 : Class := { plain "byte" none with kind := .primitive 'B', accessFlags := 0x411 }
/-- [B -/
def k16 : Class := { plain "[B" (some 0) with kind := .array 15 .byte, interfaces := #[14, 2], accessFlags := 1041 }

/-- the primitive char -/
def k17 : Class := { plain "char" none with kind := .primitive 'C', accessFlags := 0x411 }
/-- [C -/
def k18 : Class := { plain "[C" (some 0) with kind := .array 17 .char, interfaces := #[14, 2], accessFlags := 1041 }

/-- the primitive int -/
def k19 : Class := { plain "int" none with kind := .primitive 'I', accessFlags := 0x411 }
/-- [I -/
def k20 : Class := { plain "[I" (some 0) with kind := .array 19 .int, interfaces := #[14, 2], accessFlags := 1041 }

def heap : Heap := #[{ cls := 7, slots := #[.long 0, .int 1, .null, .int 0, .null, .int 0, .int 0], vm := .statics 7 },
  { cls := 12, slots := #[.null, .null, .null], vm := .statics 12 }]
def classes : Array Class := #[k0, k1, k2, k3, k4, k5, k6, k7, k8, k9, k10, k11, k12, k13, k14, k15, k16, k17, k18, k19, k20]
def interned : List (Array UInt16 × Addr) := []
def slotsUsed : Nat := 10
def theMethod : MethodId := ⟨1, 2⟩
def args0 : Array Value := #[.int 5, .int 6, .int 7, .int 8, .int 9]
def aboutOver (below : List Frame) : State where
  vm := { classes := classes, interned := interned.toArray }
  heap := heap
  slotsUsed := slotsUsed
  threads := #[{ frames := .invoking theMethod args0 :: below }]
def below0 : List Frame := [.native { method := ⟨0, 0⟩, args := #[] }]
def about1 : State := aboutOver below0
def p0 : Program := .bare "" "" ""
def e0 : Env := launch0.env 0 0 0
theorem w_frames : about1.frames = Frame.invoking theMethod args0 :: below0 := rfl
set_option maxRecDepth 65536 in
theorem w_args : argsFit about1.vm theMethod args0 = true := by decide +kernel
set_option maxRecDepth 65536 in
theorem w_heap : heapFits about1 = true := by decide +kernel
set_option maxRecDepth 65536 in
theorem w_runnable : about1.curStatus? = some .runnable := by decide +kernel
set_option maxRecDepth 65536 in
theorem w_alone : about1.alone = true := by decide +kernel
set_option maxRecDepth 65536 in
theorem w_named : about1.methodNamed? x = some theMethod := by decide +kernel
set_option maxRecDepth 65536 in
theorem w_hears : about1.hears theMethod below0 = true := by decide +kernel
set_option maxRecDepth 65536 in
theorem w_ripe : about1.ripe theMethod args0 below0 = true := by decide +kernel
theorem w_running : about1.status = .running := rfl
set_option maxRecDepth 65536 in
theorem w_room : about1.hasRoom e0.platform room_1 = true :=
  launch0.hasRoom_least _ room_1 (by decide +kernel) (by decide +kernel) (by decide +kernel) (by decide +kernel) (by decide +kernel) (by decide +kernel)
theorem allAtoms_all (ts : List Jvm.Cond) (a : Array Jvm.Value) (st : Jvm.State) : (allAtoms ts).before a st = ts.all (fun c => c.before a st) := by
  induction ts with
  | nil => rfl
  | cons c t ih =>
    show (Jvm.Cond.and c (allAtoms t)).before a st = _
    rw [Jvm.Cond.before_and, ih, List.all_cons]
def words1 : List Jvm.Cond := Jvm.Cond.code x code maxLocals ret :: tables_1
/-- a 'code' word, met by the world's own term for the bytes: nothing is compared byte by byte -/
theorem code_word {y : MethodName} {bytes : ByteArray} {mx : Nat} {rt : Option FieldType} {a : Array Value} {s : State} {m : MethodId} {meth : Method} {c : Code} (h1 : s.methodNamed? y = some m) (h2 : s.vm.method? m = some meth) (h3 : meth.code = some c) (h4 : c.code = bytes)
    (h5 : (c.maxLocals == mx && c.exceptionTable.isEmpty && decide (c.maxStack ≤ mostOperands) && decide (meth.sig.returnType = rt) && !meth.locks && decide (parseMethodDescriptor y.desc = some meth.sig)) = true) : (Jvm.Cond.code y bytes mx rt).before a s = true := by
  simp only [Bool.and_eq_true, beq_iff_eq, Bool.not_eq_true', decide_eq_true_eq] at h5
  obtain ⟨⟨⟨⟨⟨g1, g2⟩, g3⟩, g4⟩, g5⟩, g6⟩ := h5
  simp [Cond.before, Cond.holds, Cond.value, h1, h2, h3, h4, g1, g2, g3, g4, g5, g6]
def isCode : Jvm.Cond → Bool
  | .code _ _ _ _ => true
  | _ => false
theorem all_split {L : List Jvm.Cond} {P : Jvm.Cond → Bool} (h1 : L.all (fun c => isCode c || P c) = true) (h2 : ∀ c ∈ L.filter isCode, P c = true) : L.all P = true := by
  refine List.all_eq_true.mpr fun c hc => ?_
  have h := List.all_eq_true.mp h1 c hc
  rcases Bool.eq_false_or_eq_true (isCode c) with hi | hi
  · exact h2 c (List.mem_filter.mpr ⟨hc, hi⟩)
  · simpa [hi] using h
set_option maxRecDepth 65536 in
theorem w_c0 : (Jvm.Cond.code x code maxLocals ret).before args0 about1 = true := code_word (m := ⟨1, 2⟩) (meth := k1m2) (c := k1c2) (by decide +kernel) rfl rfl rfl (by decide +kernel)
set_option maxRecDepth 65536 in
theorem w_c1 : (Jvm.Cond.code ({ cls := "com/example/consensus_to_coverage/consensustocoverage/trecfiles/JudgementIsRelevantPinLaw", name := "str", desc := "(II)Ljava/lang/String;" } : Jvm.MethodName) method_2_code (3 : Nat) (Option.some (Jvm.ClassFile.FieldType.object "java/lang/String"))).before args0 about1 = true := code_word (m := ⟨1, 1⟩) (meth := k1m1) (c := k1c1) (by decide +kernel) rfl rfl rfl (by decide +kernel)
set_option maxRecDepth 65536 in
theorem w_c2 : (Jvm.Cond.code ({ cls := "java/lang/String", name := "<init>", desc := "([C)V" } : Jvm.MethodName) jdk_42_method_3_code (2 : Nat) (Option.none : Option Jvm.ClassFile.FieldType)).before args0 about1 = true := code_word (m := ⟨7, 1⟩) (meth := k7m1) (c := k7c1) (by decide +kernel) rfl rfl rfl (by decide +kernel)
set_option maxRecDepth 65536 in
theorem w_c3 : (Jvm.Cond.code ({ cls := "java/lang/String", name := "<init>", desc := "([CIILjava/lang/Void;)V" } : Jvm.MethodName) jdk_42_method_149_code (6 : Nat) (Option.none : Option Jvm.ClassFile.FieldType)).before args0 about1 = true := code_word (m := ⟨7, 2⟩) (meth := k7m2) (c := k7c2) (by decide +kernel) rfl rfl rfl (by decide +kernel)
set_option maxRecDepth 65536 in
theorem w_c4 : (Jvm.Cond.code ({ cls := "java/lang/Object", name := "<init>", desc := "()V" } : Jvm.MethodName) object_method_1_code (1 : Nat) (Option.none : Option Jvm.ClassFile.FieldType)).before args0 about1 = true := code_word (m := ⟨0, 0⟩) (meth := k0m0) (c := k0c0) (by decide +kernel) rfl rfl rfl (by decide +kernel)
set_option maxRecDepth 65536 in
theorem w_c5 : (Jvm.Cond.code ({ cls := "java/lang/StringUTF16", name := "compress", desc := "([CII)[B" } : Jvm.MethodName) jdk_52_method_16_code (6 : Nat) (Option.some (Jvm.ClassFile.FieldType.array Jvm.ClassFile.FieldType.byte))).before args0 about1 = true := code_word (m := ⟨8, 2⟩) (meth := k8m2) (c := k8c2) (by decide +kernel) rfl rfl rfl (by decide +kernel)
set_option maxRecDepth 65536 in
theorem w_c6 : (Jvm.Cond.code ({ cls := "java/lang/StringUTF16", name := "compress", desc := "([CI[BII)I" } : Jvm.MethodName) jdk_52_method_21_code (7 : Nat) (Option.some Jvm.ClassFile.FieldType.int)).before args0 about1 = true := code_word (m := ⟨8, 3⟩) (meth := k8m3) (c := k8c3) (by decide +kernel) rfl rfl rfl (by decide +kernel)
set_option maxRecDepth 65536 in
theorem w_c7 : (Jvm.Cond.code ({ cls := "java/lang/StringUTF16", name := "coderFromArrayLen", desc := "([BI)B" } : Jvm.MethodName) jdk_52_method_15_code (2 : Nat) (Option.some Jvm.ClassFile.FieldType.byte)).before args0 about1 = true := code_word (m := ⟨8, 1⟩) (meth := k8m1) (c := k8c1) (by decide +kernel) rfl rfl rfl (by decide +kernel)
set_option maxRecDepth 65536 in
theorem w_c8 : (Jvm.Cond.code ({ cls := "com/example/consensus_to_coverage/consensustocoverage/trecfiles/Judgement", name := "<init>", desc := "(Ljava/lang/String;Ljava/lang/String;Ljava/lang/String;I)V" } : Jvm.MethodName) prog_55_method_1_code (5 : Nat) (Option.none : Option Jvm.ClassFile.FieldType)).before args0 about1 = true := code_word (m := ⟨9, 0⟩) (meth := k9m0) (c := k9c0) (by decide +kernel) rfl rfl rfl (by decide +kernel)
set_option maxRecDepth 65536 in
theorem w_c9 : (Jvm.Cond.code ({ cls := "java/util/Objects", name := "requireNonNull", desc := "(Ljava/lang/Object;)Ljava/lang/Object;" } : Jvm.MethodName) jdk_31_method_10_code (1 : Nat) (Option.some (Jvm.ClassFile.FieldType.object "java/lang/Object"))).before args0 about1 = true := code_word (m := ⟨10, 1⟩) (meth := k10m1) (c := k10c1) (by decide +kernel) rfl rfl rfl (by decide +kernel)
set_option maxRecDepth 65536 in
theorem w_c10 : (Jvm.Cond.code ({ cls := "com/example/consensus_to_coverage/consensustocoverage/trecfiles/Judgement", name := "isRelevant", desc := "()Z" } : Jvm.MethodName) prog_55_method_8_code (1 : Nat) (Option.some Jvm.ClassFile.FieldType.boolean)).before args0 about1 = true := code_word (m := ⟨9, 1⟩) (meth := k9m1) (c := k9c1) (by decide +kernel) rfl rfl rfl (by decide +kernel)
def codes1 : List Jvm.Cond := [Jvm.Cond.code x code maxLocals ret, Jvm.Cond.code ({ cls := "com/example/consensus_to_coverage/consensustocoverage/trecfiles/JudgementIsRelevantPinLaw", name := "str", desc := "(II)Ljava/lang/String;" } : Jvm.MethodName) method_2_code (3 : Nat) (Option.some (Jvm.ClassFile.FieldType.object "java/lang/String")), Jvm.Cond.code ({ cls := "java/lang/String", name := "<init>", desc := "([C)V" } : Jvm.MethodName) jdk_42_method_3_code (2 : Nat) (Option.none : Option Jvm.ClassFile.FieldType), Jvm.Cond.code ({ cls := "java/lang/String", name := "<init>", desc := "([CIILjava/lang/Void;)V" } : Jvm.MethodName) jdk_42_method_149_code (6 : Nat) (Option.none : Option Jvm.ClassFile.FieldType), Jvm.Cond.code ({ cls := "java/lang/Object", name := "<init>", desc := "()V" } : Jvm.MethodName) object_method_1_code (1 : Nat) (Option.none : Option Jvm.ClassFile.FieldType), Jvm.Cond.code ({ cls := "java/lang/StringUTF16", name := "compress", desc := "([CII)[B" } : Jvm.MethodName) jdk_52_method_16_code (6 : Nat) (Option.some (Jvm.ClassFile.FieldType.array Jvm.ClassFile.FieldType.byte)), Jvm.Cond.code ({ cls := "java/lang/StringUTF16", name := "compress", desc := "([CI[BII)I" } : Jvm.MethodName) jdk_52_method_21_code (7 : Nat) (Option.some Jvm.ClassFile.FieldType.int), Jvm.Cond.code ({ cls := "java/lang/StringUTF16", name := "coderFromArrayLen", desc := "([BI)B" } : Jvm.MethodName) jdk_52_method_15_code (2 : Nat) (Option.some Jvm.ClassFile.FieldType.byte), Jvm.Cond.code ({ cls := "com/example/consensus_to_coverage/consensustocoverage/trecfiles/Judgement", name := "<init>", desc := "(Ljava/lang/String;Ljava/lang/String;Ljava/lang/String;I)V" } : Jvm.MethodName) prog_55_method_1_code (5 : Nat) (Option.none : Option Jvm.ClassFile.FieldType), Jvm.Cond.code ({ cls := "java/util/Objects", name := "requireNonNull", desc := "(Ljava/lang/Object;)Ljava/lang/Object;" } : Jvm.MethodName) jdk_31_method_10_code (1 : Nat) (Option.some (Jvm.ClassFile.FieldType.object "java/lang/Object")), Jvm.Cond.code ({ cls := "com/example/consensus_to_coverage/consensustocoverage/trecfiles/Judgement", name := "isRelevant", desc := "()Z" } : Jvm.MethodName) prog_55_method_8_code (1 : Nat) (Option.some Jvm.ClassFile.FieldType.boolean)]
set_option maxRecDepth 65536 in
theorem codes_eq : words1.filter isCode = codes1 := rfl
theorem w_codes : ∀ c ∈ words1.filter isCode, c.before args0 about1 = true := by
  rw [codes_eq]
  intro c hc
  simp only [codes1, List.mem_cons, List.not_mem_nil, or_false] at hc
  rcases hc with rfl | rfl | rfl | rfl | rfl | rfl | rfl | rfl | rfl | rfl | rfl
  · exact w_c0
  · exact w_c1
  · exact w_c2
  · exact w_c3
  · exact w_c4
  · exact w_c5
  · exact w_c6
  · exact w_c7
  · exact w_c8
  · exact w_c9
  · exact w_c10
set_option maxRecDepth 65536 in
theorem w_t1 : (words1.take 24).all (fun c => isCode c || c.before args0 about1) = true := by decide +kernel
set_option maxRecDepth 65536 in
theorem w_t2 : ((words1.drop 24).take 24).all (fun c => isCode c || c.before args0 about1) = true := by decide +kernel
set_option maxRecDepth 65536 in
theorem w_t3 : ((words1.drop 24).drop 24).all (fun c => isCode c || c.before args0 about1) = true := by decide +kernel
theorem w_tables : (allAtoms (Jvm.Cond.code x code maxLocals ret :: tables_1)).before args0 about1 = true := by
  rw [allAtoms_all]
  show words1.all (fun c => c.before args0 about1) = true
  refine all_split ?_ w_codes
  rw [← List.take_append_drop 24 words1, List.all_append, w_t1, ← List.take_append_drop 24 (words1.drop 24), List.all_append, w_t2, w_t3]
  rfl
set_option maxRecDepth 65536 in
theorem w_rest : rest_1_c.before args0 about1 = true := by decide +kernel
set_option maxRecDepth 65536 in
theorem w_case : (Jvm.Cond.and given_1 narrow_1).before args0 about1 = true := by decide +kernel
theorem w_applies : (headSpec (Jvm.Cond.code x code maxLocals ret :: tables_1) room_1).applies x e0.platform about1 = true :=
  (Spec.applies_iff w_frames).mpr ⟨w_running, w_runnable, w_alone, w_named, w_hears, w_ripe, w_room, w_tables⟩
theorem atStart : AtStart classFile x code maxLocals ret World_1 tables_1 room_1 Calls_1 rest_1 Pre_1 launch0 p0 e0 about1 theMethod args0 below0 :=
  ⟨lists_1, trivial, launch0.admits_env _ _ _, launch0.least_env, fairChoices_fair.cas, fairChoices_fair.clock, w_frames, w_args, w_heap, w_applies, trivial, w_rest, w_case⟩
end start1
theorem witness_1 : WitnessClaimed_1 := ⟨start1.p0, start1.e0, start1.about1, start1.theMethod, start1.args0, start1.below0, start1.atStart⟩
end Jvm.Pilot.@@N@@
