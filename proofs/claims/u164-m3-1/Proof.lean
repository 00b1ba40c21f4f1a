import JvmDerived
import JvmDerived.Pilot.@@N@@Statement
import JvmDerived.Pilot.@@N@@Code
set_option linter.unusedVariables false
set_option linter.unusedSimpArgs false
namespace Jvm.RoadKit
open Sem ClassFile Op Lib Jvm.Stand Jvm.Free Jvm.LawKit
section New
variable {p : Program} {l : Launch} {e : Env} {R : Room} {s : State} {m : MethodId} {args : Array Value} {below : List Frame} {meth : Method} {c : Code} {T : State} {locs : List Loc} {cells slots : Nat}
theorem own_retI (X : Stand p l e R s m args below meth c T locs cells slots) (hx : p.tables.exec = Jvm.exec) {pc : Nat} {Ls : Array Slot} {z : Int32} {rest : List Value} (hret : meth.sig.returnType = some .int) (hd : decode c.code pc = .ok (.ireturn, 1)) {fs : List Frame}
    (hl : ∀ (f : JFrame) (acts : List Action), f.method = m → f.locked = none → f.entered = [] → (doReturn e (T.setTop f) acts (some (.int z))).1 = T.setFrames fs) : Steps p.tables e below (T.setTop (mkF m pc Ls (.int z :: rest))) (T.setFrames fs) :=
  retOut X hx hret rfl (Or.inl ⟨rfl, Or.inl rfl, z, rfl⟩) hd hl
theorem own_start {S S0 : State} {P : State → Outcome → Prop} (pre : ∀ t, Steps p.tables e below S t → Steps p.tables e below S0 t)
    (k : ∀ G : State → Prop, (∀ {U U' : State}, (∀ t, Steps p.tables e below U' t → Steps p.tables e below U t) → G U' → G U) → (∀ U, (∃ s₂ o, Steps p.tables e below U s₂ ∧ P s₂ o) → G U) → G S) :
    ∃ s₂ o, Steps p.tables e below S0 s₂ ∧ P s₂ o := by
  obtain ⟨t, o, h1, h2⟩ := k (fun U => ∃ s₂ o, Steps p.tables e below U s₂ ∧ P s₂ o) (fun f ⟨t, o, h1, h2⟩ => ⟨t, o, f t h1, h2⟩) (fun _ h => h)
  exact ⟨t, o, pre t h1, h2⟩
theorem own_lsw {g : JFrame} {target : State} (X : Stand p l e R s m args below meth c T locs cells slots) (hx : p.tables.exec = Jvm.exec) (hg : g.method = m) {dflt : Int} {ps : Array (Int × Int)} {len : Nat} {pc0 pc' : Nat} (hpc : g.pc = pc0) (hd : decode c.code g.pc = .ok (.lookupswitch dflt ps, len)) {i : Int32} {rest : List Value} (hs : g.stack = .int i :: rest)
    (hsort : (ps.toList.zip ps.toList.tail).all (fun q => decide (q.1.1 < q.2.1)) = true) {o : Int} (hoff : lookupswitch.offset ps.toList dflt i.toInt = o) (ho : 0 ≤ (pc0 : Int) + o) (hp : ((pc0 : Int) + o).toNat = pc') (hr : Steps p.tables e below (T.setTop { g with pc := pc', stack := rest }) target) : Steps p.tables e below (T.setTop g) target := by
  subst hg hpc hp hoff
  jvm_step X.here [X.here.top, hx, hd, hs, ho, lookupswitch.wp_chain]
  exact ⟨fun a b a1 b1 hm => by simpa using List.all_eq_true.mp hsort _ hm, hr⟩
theorem own_lt {a b : Int32} (h : a < b) : a.toInt < b.toInt := Int32.lt_iff_toInt_lt.mp h
theorem own_nlt {a b : Int32} (h : ¬ a < b) : b.toInt ≤ a.toInt := Int.not_lt.mp fun q => h (Int32.lt_iff_toInt_lt.mpr q)
theorem own_miss {a o : Int} {r : List (Int × Int)} {d k : Int} (h : a ≠ k) : lookupswitch.offset ((a, o) :: r) d k = lookupswitch.offset r d k := by rw [lookupswitch.offset_cons, if_neg h]
theorem own_nek {x K : Int32} {k : Int} (h : ¬ x = K) (e : K.toInt = k) : k ≠ x.toInt := fun q => h (Int32.toInt_inj.mp (q.symm.trans e.symm))
theorem own_sta_keep {Z : State} {h h' : Heap} {C n d : String} {v : Value} (F : Sta Z h C n d v) (K : Keep h h' []) : Sta Z h' C n d v := by
  obtain ⟨cf, i, k, f, st, cell, h1, h2, h3, h4, h5, r⟩ := F; exact ⟨cf, i, k, f, st, cell, h1, h2, h3, h4, K.2.1 _ _ h5 nin0, r⟩
theorem own_sta_keepE {Z : State} {h h' : Heap} {C n d D : String} {v : Value} {a : Addr} (F : Sta Z h C n d v) (K : Keep h h' [a]) (E : Exa Z h a D) : Sta Z h' C n d v := by
  obtain ⟨cf, i, k, f, st, cell, h1, h2, h3, h4, h5, h6, r⟩ := F
  obtain ⟨c2, k2, q1, -, -, q4, -⟩ := E
  refine ⟨cf, i, k, f, st, cell, h1, h2, h3, h4, K.2.1 _ _ h5 (ninS (fun z => ?_) nin0), h6, r⟩
  subst z; cases q1.symm.trans h5; rw [q4] at h6; cases h6
theorem own_arvset {Z : State} {h h' : Heap} {a : Addr} {c : Cell} {ty : FieldType} {k : ClassId} {z j : Int32} {vs : List Value} {dv v : Value} {N : Nat} (A : Arr Z h a c ty) (q1 : c.cls = k) (S : c.slots.size = z.toNatClampNeg) (q3 : ¬ z < 0) (H : Has c vs dv) (F : ∀ i, i < c.slots.size → fits ty (vs.getD i dv) = true) (hv : fits ty v = true) (W : Wr h h' a j.toNatClampNeg v) (i : Nat) (hj : j.toNatClampNeg = i) (hl : vs.length = N) (hi : i < N) :
    ∃ vs', vs'.length = N ∧ Arv Z h' a k ty z vs' dv := ⟨_, by rw [List.length_set]; exact hl, Arv.set A q1 S q3 H F hv W i hj (by rw [hl]; exact hi)⟩
end New
end Jvm.RoadKit
namespace Jvm.Pilot.@@N@@
open Jvm Jvm.ClassFile Sem Op Lib Jvm.Free Jvm.Stand Jvm.LawKit Jvm.RoadKit Bundle Jvm.Pilot.@@N@@.Jvm.D
theorem own_fld_fun {Z : State} {h : Heap} {a : Addr} {C n d : String} {v w : Value} (F : Fld Z h a C n d v) (F' : Fld Z h a C n d w) : v = w := by
  obtain ⟨c, cf, k, i, f, h1, h2, -, -, -, -, h3⟩ := F
  obtain ⟨c', cf', k', i', f', g1, g2, -, -, -, -, g3⟩ := F'
  cases h1.symm.trans g1
  cases h2.symm.trans g2
  exact Option.some.inj (h3.symm.trans g3)
def own_b (x : Int32) : Int32 := x.toInt8.toInt32.toInt8.toInt32
theorem own_b_inj {x y : Int32} (hx : 0 ≤ x.toInt ∧ x.toInt ≤ 255) (hy : 0 ≤ y.toInt ∧ y.toInt ≤ 255) : own_b x = own_b y ↔ x = y := by
  refine ⟨fun h => ?_, fun h => by rw [h]⟩
  have a1 := c_i2b x
  have a2 := c_i2b x.toInt8.toInt32
  have b1 := c_i2b y
  have b2 := c_i2b y.toInt8.toInt32
  have h' : x.toInt8.toInt32.toInt8.toInt32.toInt = y.toInt8.toInt32.toInt8.toInt32.toInt := congrArg Int32.toInt h
  apply Int32.toInt_inj.mp
  omega
theorem own_chr {x v : Int32} (h : v = (x &&& (255 : Int32)).toUInt32.toUInt16.toUInt32.toInt32) : 0 ≤ v.toInt ∧ v.toInt ≤ 255 := by
  rw [i2c_mask] at h
  subst h
  have h1 := c_and x 255 (by decide)
  have e : (255 : Int32).toInt = 255 := by decide
  omega
theorem own_chr2 {P : Prop} [Decidable P] {x v u : Int32} (h : u = (if P then (x &&& (255 : Int32)).toUInt32.toUInt16.toUInt32.toInt32 else v)) (hv : 0 ≤ v.toInt ∧ v.toInt ≤ 255) : 0 ≤ u.toInt ∧ u.toInt ≤ 255 := by
  split at h
  · exact own_chr h
  · rw [h]; exact hv
def own_eq (x y : Int32) : Int32 := if x = y then 1 else 0
theorem own_eq0 {x y : Int32} : own_eq x y = 0 ↔ ¬ x = y := by
  unfold own_eq; split <;> simp_all
theorem own_eq1 {x y : Int32} : ¬ own_eq x y = 0 ↔ x = y := by
  unfold own_eq; split <;> simp_all
def own_jeq (x1 x2 x3 g y1 y2 y3 g' : Int32) : Int32 := if x1 = y1 ∧ x2 = y2 ∧ x3 = y3 ∧ g = g' then 1 else 0
def own_Str (Z : State) (h : Heap) (b : Addr) (x : Int32) : Prop := ∃ (t : Addr) (k : ClassId), Exa Z h b "java/lang/String" ∧ Fld Z h b "java/lang/String" "value" "[B" (.ref t) ∧ Fld Z h b "java/lang/String" "coder" "B" (.int (0 : Int32)) ∧ Arv Z h t k .byte (1 : Int32) [.int x] (.int (0 : Int32))
theorem own_str_ext {Z : State} {h h' : Heap} {b : Addr} {x : Int32} (F : own_Str Z h b x) (E : Ext h h') : own_Str Z h' b x := by
  obtain ⟨t, k, a1, a2, a3, a4⟩ := F; exact ⟨t, k, a1.ext E, a2.ext E, a3.ext E, a4.ext E⟩
theorem own_str_keep {Z : State} {h h' : Heap} {b : Addr} {x : Int32} (F : own_Str Z h b x) (K : Keep h h' []) : own_Str Z h' b x := by
  obtain ⟨t, k, a1, a2, a3, a4⟩ := F; exact ⟨t, k, a1.keep K, a2.keep K nin0, a3.keep K nin0, a4.keep K nin0⟩
theorem own_str_keepE {Z : State} {h h' : Heap} {b j : Addr} {x : Int32} {J : String} {a0 : Array Value} {n : Nat} (F : own_Str Z h b x) (K : Keep h h' [j]) (E : Exa Z h j J) (hn : "java/lang/String" ≠ J) (wi : (Jvm.Cond.instantiable J n).before a0 Z = true) : own_Str Z h' b x := by
  obtain ⟨t, k, a1, a2, a3, a4⟩ := F
  have n1 := ne_exa a1 E hn
  obtain ⟨c, A, r⟩ := a4
  have n2 := (ne_arr E wi A).symm
  exact ⟨t, k, a1.keep K, a2.keep K (ninS n1 nin0), a3.keep K (ninS n1 nin0), Arv.keep ⟨c, A, r⟩ K (ninS n2 nin0)⟩
theorem own_str_fun {Z : State} {h : Heap} {b : Addr} {x y : Int32} (F : own_Str Z h b x) (F' : own_Str Z h b y) : x = y := by
  obtain ⟨t, k, a1, a2, a3, c, a4, -, a5, -, a6, -⟩ := F
  obtain ⟨t', k', b1, b2, b3, c', b4, -, b5, -, b6, -⟩ := F'
  cases own_fld_fun a2 b2
  cases a4.1.symm.trans b4.1
  have u := a6 0 (by rw [a5]; decide)
  have v := b6 0 (by rw [b5]; decide)
  have w := Option.some.inj (u.symm.trans v)
  exact Value.int.inj w
def own_Jud (Z : State) (h : Heap) (j : Addr) (x1 x2 x3 g : Int32) : Prop := ∃ s1 s2 s3 : Addr, Exa Z h j "com/example/consensus_to_coverage/consensustocoverage/trecfiles/Judgement" ∧ Fld Z h j "com/example/consensus_to_coverage/consensustocoverage/trecfiles/Judgement" "topic" "Ljava/lang/String;" (.ref s1) ∧ Fld Z h j "com/example/consensus_to_coverage/consensustocoverage/trecfiles/Judgement" "subtopic" "Ljava/lang/String;" (.ref s2) ∧ Fld Z h j "com/example/consensus_to_coverage/consensustocoverage/trecfiles/Judgement" "docId" "Ljava/lang/String;" (.ref s3) ∧ Fld Z h j "com/example/consensus_to_coverage/consensustocoverage/trecfiles/Judgement" "grade" "I" (.int g) ∧ own_Str Z h s1 x1 ∧ own_Str Z h s2 x2 ∧ own_Str Z h s3 x3
theorem own_jud_lt {Z : State} {h : Heap} {j : Addr} {x1 x2 x3 g : Int32} (F : own_Jud Z h j x1 x2 x3 g) : j < h.size := by
  obtain ⟨s1, s2, s3, a1, -⟩ := F; exact a1.lt
theorem own_jud_ext {Z : State} {h h' : Heap} {j : Addr} {x1 x2 x3 g : Int32} (F : own_Jud Z h j x1 x2 x3 g) (E : Ext h h') : own_Jud Z h' j x1 x2 x3 g := by
  obtain ⟨s1, s2, s3, a1, a2, a3, a4, a5, a6, a7, a8⟩ := F
  exact ⟨s1, s2, s3, a1.ext E, a2.ext E, a3.ext E, a4.ext E, a5.ext E, own_str_ext a6 E, own_str_ext a7 E, own_str_ext a8 E⟩
theorem own_jud_keep {Z : State} {h h' : Heap} {j : Addr} {x1 x2 x3 g : Int32} (F : own_Jud Z h j x1 x2 x3 g) (K : Keep h h' []) : own_Jud Z h' j x1 x2 x3 g := by
  obtain ⟨s1, s2, s3, a1, a2, a3, a4, a5, a6, a7, a8⟩ := F
  exact ⟨s1, s2, s3, a1.keep K, a2.keep K nin0, a3.keep K nin0, a4.keep K nin0, a5.keep K nin0, own_str_keep a6 K, own_str_keep a7 K, own_str_keep a8 K⟩
theorem own_jud_keepE {Z : State} {h h' : Heap} {j i : Addr} {x1 x2 x3 g : Int32} {J : String} {a0 : Array Value} {n : Nat} (F : own_Jud Z h j x1 x2 x3 g) (K : Keep h h' [i]) (E : Exa Z h i J) (hn : "java/lang/String" ≠ J) (wi : (Jvm.Cond.instantiable J n).before a0 Z = true) (ne : j ≠ i) : own_Jud Z h' j x1 x2 x3 g := by
  obtain ⟨s1, s2, s3, a1, a2, a3, a4, a5, a6, a7, a8⟩ := F
  have q := ninS ne (nin0 (x := j))
  exact ⟨s1, s2, s3, a1.keep K, a2.keep K q, a3.keep K q, a4.keep K q, a5.keep K q, own_str_keepE a6 K E hn wi, own_str_keepE a7 K E hn wi, own_str_keepE a8 K E hn wi⟩
theorem own_noJ {Z : State} {a0 : Array Value} (w1 : (Jvm.Cond.superclass "java/lang/String" "java/lang/Object").before a0 Z = true) (w2 : (Jvm.Cond.noSuperclass "java/lang/Object").before a0 Z = true) (wi : (Jvm.Cond.instantiable "com/example/consensus_to_coverage/consensustocoverage/trecfiles/Judgement" 4).before a0 Z = true) :
    ∃ c t, Z.vm.findClass "java/lang/String" = some c ∧ Z.vm.findClass "com/example/consensus_to_coverage/consensustocoverage/trecfiles/Judgement" = some t ∧ Z.vm.assignable c t = false := by
  obtain ⟨cy, ky, hy, hky, hord, hni, -, -⟩ := Cond.instantiable_spec wi
  obtain ⟨cx, hcx⟩ := found_sup w1
  refine ⟨cx, cy, hcx, hy, Vm.notAssignable_of_chain (args := a0) (t := ["java/lang/Object"]) hcx hy hky hord ?_ (fun w hw => ?_) (by decide)⟩
  · simp at hni; exact hni.1
  · simp only [Cond.chainWords, List.mem_cons, List.not_mem_nil, or_false] at hw
    rcases hw with rfl | rfl
    · exact w1
    · exact w2
theorem d2_0 : decode jdk_43_method_3_code 0 = .ok (.iload_n 0, 1) := by decide +kernel
theorem d2_1 : decode jdk_43_method_3_code 1 = .ok (.sipush 255, 3) := by decide +kernel
theorem d2_4 : decode jdk_43_method_3_code 4 = .ok (.if_icmp .gt 7, 3) := by decide +kernel
theorem d2_7 : decode jdk_43_method_3_code 7 = .ok (.iconst 1, 1) := by decide +kernel
theorem d2_8 : decode jdk_43_method_3_code 8 = .ok (.goto 4, 3) := by decide +kernel
theorem d2_12 : decode jdk_43_method_3_code 12 = .ok (.ireturn, 1) := by decide +kernel
theorem pn_java_lang_StringLatin1 : plainName "java/lang/StringLatin1" = true := by first | (simp [plainName, overriddenIn]; done) | decide +kernel
theorem ef_2 (m : MethodId) (p0 : Int32) : entryFrame m #[(.int p0)] 1 = mkF m 0 #[.val (.int p0)] [] := by first | (simp [entryFrame, mkF, argsToLocals, Value.category]; done) | rfl
def Q2 (h0 : Heap) (n0 : Nat) (v : Option Value) (h : Heap) (L : List Loc) : Prop := v = some (.int (1 : Int32)) ∧ Fr n0 L ∧ h = h0
set_option maxRecDepth 65536 in
set_option maxHeartbeats 40000000 in
theorem rm2 (l : Launch) (Z : State) (a0 : Array Value) (hw : ∀ d ∈ tables_1, d.before a0 Z = true) (ws : List Jvm.Cond) (p0 : Int32)  (h0 : Heap) (n0 : Nat) (Z0 : n0 ≤ h0.size) (hp : ¬ (255 : Int32) < p0) :
    MetFree l (⟨"java/lang/StringLatin1", "canEncode", "(C)Z"⟩ : MethodName) (head1 (Jvm.Cond.code (⟨"java/lang/StringLatin1", "canEncode", "(C)Z"⟩ : MethodName) jdk_43_method_3_code 1 (some .boolean) :: ws) ({ frames := 0, cells := 0, slots := 0, locals := 0 } : Room)) (fun a U => a = #[(.int p0)] ∧ Z.Warmed39 U.vm ∧ U.heap = h0) (fun _ _ _ _ _ => True) (fun _ U o U' => ∃ v L, o = .returned v ∧ Q2 h0 n0 v U'.heap L ∧ FrameEnd U o U' L ({ frames := 0, cells := 0, slots := 0, locals := 0 } : Room).cells ({ frames := 0, cells := 0, slots := 0, locals := 0 } : Room).slots) := by
  refine MetFree.of_bodySF (plainFor_of_name pn_java_lang_StringLatin1) hisR ?_
  intro p e s m args below meth c s₁ Bd hml0 hP hK
  obtain ⟨rfl, hZ, hh⟩ := hP
  have hx := Bd.exec
  have hby := Bd.bytes
  have hml : c.maxLocals = 1 := hml0
  have hown : s.vm.findClass "java/lang/StringLatin1" = some m.cls := findClass_of_methodNamed Bd.named
  have hnm := (name_of_methodNamed Bd.named Bd.method).1
  have X0 : Stand p l e ({ frames := 0, cells := 0, slots := 0, locals := 0 } : Room) s m #[(.int p0)] below meth c s₁ [] 0 0 := Stand.of_body Bd
  have e0 : s₁.heap = h0 := by rw [← hh, Bd.state]; rfl
  have N0 := Fr.nil n0
  have pre0 : ∀ t, Steps p.tables e below (s₁.setTop (mkF m 0 #[.val (.int p0)] [])) t → Steps p.tables e below (s₁.setTop (entryFrame m #[(.int p0)] 1)) t := fun t k => castTop (ef_2 m p0) k
  have K0 := Keep.refl h0 []
  refine own_start pre0 fun G gs gl => ?_
  show G (s₁.setTop (mkF m 0 #[.val (.int p0)] []))
  refine gs (fun t k => XS.iloadN X0.here hx rfl (hb hby d2_0) rfl k) ?_
  show G (s₁.setTop (mkF m 1 #[.val (.int p0)] [(.int p0)]))
  refine gs (fun t k => XS.sipush X0.here hx rfl (hb hby d2_1) k) ?_
  show G (s₁.setTop (mkF m 4 #[.val (.int p0)] [(.int (255 : Int32)), (.int p0)]))
  refine gs (fun t k => XS.icmpNo X0.here hx rfl (hb hby d2_4) rfl (flt hp).2.2.1 k) ?_
  show G (s₁.setTop (mkF m 7 #[.val (.int p0)] []))
  refine gs (fun t k => XS.iconst X0.here hx rfl (hb hby d2_7) k) ?_
  show G (s₁.setTop (mkF m 8 #[.val (.int p0)] [(.int (1 : Int32))]))
  refine gs (fun t k => XS.goto X0.here hx rfl (pc0 := 8) (pc' := 12) rfl (hb hby d2_8) (by decide) (by decide) k) ?_
  show G (s₁.setTop (mkF m 12 #[.val (.int p0)] [(.int (1 : Int32))]))
  obtain ⟨fs, hr, hrun, hended, hW, hsame⟩ := X0.leave (v := some (.int (1 : Int32))) (fun h => by rw [Bd.returns] at h; cases h)
  refine gl _ ⟨_, _, retN X0 hx (t := .boolean) Bd.returns (by simp) (hb hby d2_12) hr, hrun, hended, _, _, rfl, ?_, ⟨_, rfl⟩, hW, hsame.mono (by decide) (by decide)⟩
  show Q2 h0 n0 _ s₁.heap _
  rw [e0]
  exact ⟨rfl, N0, rfl⟩
theorem d3_0 : decode jdk_43_method_46_code 0 = .ok (.iconst 1, 1) := by decide +kernel
theorem d3_1 : decode jdk_43_method_46_code 1 = .ok (.newarray .byte, 2) := by decide +kernel
theorem d3_3 : decode jdk_43_method_46_code 3 = .ok (.dup, 1) := by decide +kernel
theorem d3_4 : decode jdk_43_method_46_code 4 = .ok (.iconst 0, 1) := by decide +kernel
theorem d3_5 : decode jdk_43_method_46_code 5 = .ok (.iload_n 0, 1) := by decide +kernel
theorem d3_6 : decode jdk_43_method_46_code 6 = .ok (.i2b, 1) := by decide +kernel
theorem d3_7 : decode jdk_43_method_46_code 7 = .ok (.bastore, 1) := by decide +kernel
theorem d3_8 : decode jdk_43_method_46_code 8 = .ok (.areturn, 1) := by decide +kernel
theorem ef_3 (m : MethodId) (p0 : Int32) : entryFrame m #[(.int p0)] 1 = mkF m 0 #[.val (.int p0)] [] := by first | (simp [entryFrame, mkF, argsToLocals, Value.category]; done) | rfl
def Q3 (Z : State) (p0 : Int32) (h0 : Heap) (n0 : Nat) (v : Option Value) (h : Heap) (L : List Loc) : Prop := ∃ (t : Addr) (k : ClassId), v = some (.ref t) ∧ Fr n0 L ∧ Keep h0 h [] ∧ Arv Z h t k .byte (1 : Int32) [.int (own_b p0)] (.int (0 : Int32))
set_option maxRecDepth 65536 in
set_option maxHeartbeats 40000000 in
theorem rm3 (l : Launch) (Z : State) (a0 : Array Value) (hw : ∀ d ∈ tables_1, d.before a0 Z = true) (ws : List Jvm.Cond) (p0 : Int32)  (h0 : Heap) (n0 : Nat) (Z0 : n0 ≤ h0.size)  :
    MetFree l (⟨"java/lang/StringLatin1", "toBytes", "(C)[B"⟩ : MethodName) (head1 (Jvm.Cond.code (⟨"java/lang/StringLatin1", "toBytes", "(C)[B"⟩ : MethodName) jdk_43_method_46_code 1 (some (.array .byte)) :: ws) ({ frames := 0, cells := 1, slots := 1, locals := 0 } : Room)) (fun a U => a = #[(.int p0)] ∧ Z.Warmed39 U.vm ∧ U.heap = h0) (fun _ _ _ _ _ => True) (fun _ U o U' => ∃ v L, o = .returned v ∧ Q3 Z p0 h0 n0 v U'.heap L ∧ FrameEnd U o U' L ({ frames := 0, cells := 1, slots := 1, locals := 0 } : Room).cells ({ frames := 0, cells := 1, slots := 1, locals := 0 } : Room).slots) := by
  refine MetFree.of_bodySF (plainFor_of_name pn_java_lang_StringLatin1) hisR ?_
  intro p e s m args below meth c s₁ Bd hml0 hP hK
  obtain ⟨rfl, hZ, hh⟩ := hP
  have hx := Bd.exec
  have hby := Bd.bytes
  have hml : c.maxLocals = 1 := hml0
  have hown : s.vm.findClass "java/lang/StringLatin1" = some m.cls := findClass_of_methodNamed Bd.named
  have hnm := (name_of_methodNamed Bd.named Bd.method).1
  have X0 : Stand p l e ({ frames := 0, cells := 1, slots := 1, locals := 0 } : Room) s m #[(.int p0)] below meth c s₁ [] 0 0 := Stand.of_body Bd
  have e0 : s₁.heap = h0 := by rw [← hh, Bd.state]; rfl
  have N0 := Fr.nil n0
  have pre0 : ∀ t, Steps p.tables e below (s₁.setTop (mkF m 0 #[.val (.int p0)] [])) t → Steps p.tables e below (s₁.setTop (entryFrame m #[(.int p0)] 1)) t := fun t k => castTop (ef_3 m p0) k
  have K0 := Keep.refl h0 []
  refine own_start pre0 fun G gs gl => ?_
  show G (s₁.setTop (mkF m 0 #[.val (.int p0)] []))
  refine gs (fun t k => XS.iconst X0.here hx rfl (hb hby d3_0) k) ?_
  show G (s₁.setTop (mkF m 1 #[.val (.int p0)] [(.int (1 : Int32))]))
  obtain ⟨T1, h1, k1, X1, e1, E1, A1, st1⟩ := newP X0 hx hZ (hw _ (List.mem_of_getElem? (i := 17) rfl)) e0 (g := (mkF m 1 #[.val (.int p0)] [(.int (1 : Int32))])) rfl (hb hby d3_1) rfl (by decide) (cap := 1) (by decide) (by decide) (by decide) (by decide)
  obtain ⟨b1, g1⟩ : ∃ z, z = h0.size := ⟨_, rfl⟩
  rw [← g1] at A1 st1
  have sz_b1 : h0.size ≤ b1 := Nat.le_trans K0.1 (Nat.le_of_eq g1.symm)
  have g_b1 : n0 ≤ b1 := Nat.le_trans Z0 sz_b1
  have K2 := K0.ext E1
  have V_b1 : Arv Z h1 b1 k1 .byte (1 : Int32) [(.int (0 : Int32))] (.int (0 : Int32)) := (Arv.new A1 (by decide)).pad (pad_rep [] (.int (0 : Int32)) 1)
  refine gs (fun t k => st1 _ k) ?_
  show G (T1.setTop (mkF m 3 #[.val (.int p0)] [(.ref b1)]))
  refine gs (fun t k => XS.dup X1.here hx rfl (hb hby d3_3) rfl rfl k) ?_
  show G (T1.setTop (mkF m 4 #[.val (.int p0)] [(.ref b1), (.ref b1)]))
  refine gs (fun t k => XS.iconst X1.here hx rfl (hb hby d3_4) k) ?_
  show G (T1.setTop (mkF m 5 #[.val (.int p0)] [(.int (0 : Int32)), (.ref b1), (.ref b1)]))
  refine gs (fun t k => XS.iloadN X1.here hx rfl (hb hby d3_5) rfl k) ?_
  show G (T1.setTop (mkF m 6 #[.val (.int p0)] [(.int p0), (.int (0 : Int32)), (.ref b1), (.ref b1)]))
  refine gs (fun t k => XS.i2b X1.here hx rfl (hb hby d3_6) rfl k) ?_
  show G (T1.setTop (mkF m 7 #[.val (.int p0)] [(.int (p0.toInt8.toInt32)), (.int (0 : Int32)), (.ref b1), (.ref b1)]))
  obtain ⟨vc3, vA3, vq3, vS3, vN3, vH3, vG3⟩ := V_b1
  have hin3 : ¬ ((0 : Int32) < 0 ∨ vc3.slots.size ≤ ((0 : Int32)).toNatClampNeg) := inb_of vS3 ⟨by decide, by decide⟩
  obtain ⟨T3, h3, X3, e3, W3, st3⟩ := stB X1 hx hZ e1 vA3 (j := (0 : Int32)) hin3 (g := (mkF m 7 #[.val (.int p0)] [(.int (p0.toInt8.toInt32)), (.int (0 : Int32)), (.ref b1), (.ref b1)])) rfl rfl (hb hby d3_7)
  have K4 := K2.wr W3 (Or.inr sz_b1)
  have V_b1_q3 := Arv.set vA3 vq3 vS3 vN3 vH3 vG3 (fits_nar_byte _) W3 0 rfl (Nat.le_of_ble_eq_true rfl)
  have N3 := Fr.snoc X3 N0 g_b1
  refine gs (fun t k => st3 _ k) ?_
  show G (T3.setTop (mkF m 8 #[.val (.int p0)] [(.ref b1)]))
  obtain ⟨fs, hr, hrun, hended, hW, hsame⟩ := X3.leave (v := some (.ref b1)) (fun h => by rw [Bd.returns] at h; cases h)
  refine gl _ ⟨_, _, retOut X3 hx Bd.returns rfl (Or.inr (Or.inr (Or.inr (Or.inr ⟨rfl, rfl, rfl⟩)))) (hb hby d3_8) hr, hrun, hended, _, _, rfl, ?_, ⟨_, rfl⟩, hW, hsame.mono (by decide) (by decide)⟩
  show Q3 Z p0 h0 n0 _ T3.heap _
  rw [e3]
  exact ⟨_, _, rfl, N3, K4, V_b1_q3⟩
theorem d4_0 : decode jdk_42_method_151_code 0 = .ok (.aload_n 0, 1) := by decide +kernel
theorem d4_1 : decode jdk_42_method_151_code 1 = .ok (.invokespecial 1, 3) := by decide +kernel
theorem d4_4 : decode jdk_42_method_151_code 4 = .ok (.aload_n 0, 1) := by decide +kernel
theorem d4_5 : decode jdk_42_method_151_code 5 = .ok (.aload_n 1, 1) := by decide +kernel
theorem d4_6 : decode jdk_42_method_151_code 6 = .ok (.putfield 9, 3) := by decide +kernel
theorem d4_9 : decode jdk_42_method_151_code 9 = .ok (.aload_n 0, 1) := by decide +kernel
theorem d4_10 : decode jdk_42_method_151_code 10 = .ok (.iload_n 2, 1) := by decide +kernel
theorem d4_11 : decode jdk_42_method_151_code 11 = .ok (.putfield 15, 3) := by decide +kernel
theorem d4_14 : decode jdk_42_method_151_code 14 = .ok (.return_, 1) := by decide +kernel
theorem pn_java_lang_String : plainName "java/lang/String" = true := by first | (simp [plainName, overriddenIn]; done) | decide +kernel
theorem ef_4 (m : MethodId) (a0_ : Addr) (a1_ : Addr) (p2 : Int32) : entryFrame m #[(.ref a0_), (.ref a1_), (.int p2)] 3 = mkF m 0 #[.val (.ref a0_), .val (.ref a1_), .val (.int p2)] [] := by first | (simp [entryFrame, mkF, argsToLocals, Value.category]; done) | rfl
def Q4 (Z : State) (a0_ a1_ : Addr) (p2 : Int32) (h0 : Heap) (n0 : Nat) (v : Option Value) (h : Heap) (L : List Loc) : Prop := v = none ∧ Fr n0 L ∧ Keep h0 h [a0_] ∧ Exa Z h a0_ "java/lang/String" ∧ Fld Z h a0_ "java/lang/String" "value" "[B" (.ref a1_) ∧ Fld Z h a0_ "java/lang/String" "coder" "B" (.int p2.toInt8.toInt32)
set_option maxRecDepth 65536 in
set_option maxHeartbeats 40000000 in
theorem rm4 (l : Launch) (Z : State) (a0 : Array Value) (hw : ∀ d ∈ tables_1, d.before a0 Z = true) (ws : List Jvm.Cond) (a0_ : Addr) (a1_ : Addr) (p2 : Int32)  (h0 : Heap) (n0 : Nat) (Z0 : n0 ≤ h0.size) (E_a : Exa Z h0 a0_ "java/lang/String") (F_v : Fld Z h0 a0_ "java/lang/String" "value" "[B" .null) (F_c : Fld Z h0 a0_ "java/lang/String" "coder" "B" (.int (0 : Int32))) (g_a0_ : n0 ≤ a0_) :
    MetFree l (⟨"java/lang/String", "<init>", "([BB)V"⟩ : MethodName) (head1 (Jvm.Cond.code (⟨"java/lang/String", "<init>", "([BB)V"⟩ : MethodName) jdk_42_method_151_code 3 none :: ws) ({ frames := 1, cells := 0, slots := 0, locals := 12 } : Room)) (fun a U => a = #[(.ref a0_), (.ref a1_), (.int p2)] ∧ Z.Warmed39 U.vm ∧ U.heap = h0) (fun _ _ _ _ _ => True) (fun _ U o U' => ∃ v L, o = .returned v ∧ Q4 Z a0_ a1_ p2 h0 n0 v U'.heap L ∧ FrameEnd U o U' L ({ frames := 1, cells := 0, slots := 0, locals := 12 } : Room).cells ({ frames := 1, cells := 0, slots := 0, locals := 12 } : Room).slots) := by
  refine MetFree.of_bodySF (plainFor_of_name pn_java_lang_String) hisR ?_
  intro p e s m args below meth c s₁ Bd hml0 hP hK
  obtain ⟨rfl, hZ, hh⟩ := hP
  have hx := Bd.exec
  have hby := Bd.bytes
  have hml : c.maxLocals = 3 := hml0
  have hown : s.vm.findClass "java/lang/String" = some m.cls := findClass_of_methodNamed Bd.named
  have hnm := (name_of_methodNamed Bd.named Bd.method).1
  have X0 : Stand p l e ({ frames := 1, cells := 0, slots := 0, locals := 12 } : Room) s m #[(.ref a0_), (.ref a1_), (.int p2)] below meth c s₁ [] 0 0 := Stand.of_body Bd
  have e0 : s₁.heap = h0 := by rw [← hh, Bd.state]; rfl
  have N0 := Fr.nil n0
  have pre0 : ∀ t, Steps p.tables e below (s₁.setTop (mkF m 0 #[.val (.ref a0_), .val (.ref a1_), .val (.int p2)] [])) t → Steps p.tables e below (s₁.setTop (entryFrame m #[(.ref a0_), (.ref a1_), (.int p2)] 3)) t := fun t k => castTop (ef_4 m a0_ a1_ p2) k
  have K0 := Keep.refl h0 [a0_]
  refine own_start pre0 fun G gs gl => ?_
  show G (s₁.setTop (mkF m 0 #[.val (.ref a0_), .val (.ref a1_), .val (.int p2)] []))
  refine gs (fun t k => XS.aloadN X0.here hx rfl (hb hby d4_0) rfl rfl k) ?_
  show G (s₁.setTop (mkF m 1 #[.val (.ref a0_), .val (.ref a1_), .val (.int p2)] [(.ref a0_)]))
  obtain ⟨T1, X1, e1, st1⟩ := initO X0 hx hZ hown (hw _ (List.mem_of_getElem? (i := 22) rfl)) (hw _ (List.mem_of_getElem? (i := 23) rfl)) (hw _ (List.mem_of_getElem? (i := 24) rfl)) e0 (g := (mkF m 1 #[.val (.ref a0_), .val (.ref a1_), .val (.int p2)] [(.ref a0_)])) rfl (by rw [hml]; rfl) rfl (hb hby d4_1) (by decide) (W := 0) (by show 2 * 0 + _ ≤ _; exact Nat.le_of_eq rfl) (by decide)
  refine gs (fun t k => st1 _ k) ?_
  show G (T1.setTop (mkF m 4 #[.val (.ref a0_), .val (.ref a1_), .val (.int p2)] []))
  refine gs (fun t k => XS.aloadN X1.here hx rfl (hb hby d4_4) rfl rfl k) ?_
  show G (T1.setTop (mkF m 5 #[.val (.ref a0_), .val (.ref a1_), .val (.int p2)] [(.ref a0_)]))
  refine gs (fun t k => XS.aloadN X1.here hx rfl (hb hby d4_5) rfl rfl k) ?_
  show G (T1.setTop (mkF m 6 #[.val (.ref a0_), .val (.ref a1_), .val (.int p2)] [(.ref a1_), (.ref a0_)]))
  obtain ⟨T2, h2, X2, e2, W2, st2⟩ := putF X1 hx hZ hown (host := "") (Or.inl (hw _ (List.mem_of_getElem? (i := 25) rfl))) Via.refl e1 F_v E_a (Or.inr ⟨(hw _ (List.mem_of_getElem? (i := 26) rfl)), rfl, hnm⟩) (hw _ (List.mem_of_getElem? (i := 13) rfl)) (ty := (.array .byte)) (by decide) rfl rfl (g := (mkF m 6 #[.val (.ref a0_), .val (.ref a1_), .val (.int p2)] [(.ref a1_), (.ref a0_)])) rfl rfl (hb hby d4_6)
  have E_a_q3 := E_a.wr W2
  have F_v_q4 := F_v.same W2
  have F_c_q5 := F_c.other W2 (Or.inr (slot_ne (Or.inr (hw _ (List.mem_of_getElem? (i := 28) rfl))) (Or.inr (hw _ (List.mem_of_getElem? (i := 26) rfl))) (by decide) (t := .byte) (t' := (.array .byte)) (by decide) (by decide)))
  have K6 := K0.wr W2 (Or.inl (List.mem_of_getElem? (i := 0) rfl))
  have N2 := Fr.snoc X2 N0 g_a0_
  refine gs (fun t k => st2 _ k) ?_
  show G (T2.setTop (mkF m 9 #[.val (.ref a0_), .val (.ref a1_), .val (.int p2)] []))
  refine gs (fun t k => XS.aloadN X2.here hx rfl (hb hby d4_9) rfl rfl k) ?_
  show G (T2.setTop (mkF m 10 #[.val (.ref a0_), .val (.ref a1_), .val (.int p2)] [(.ref a0_)]))
  refine gs (fun t k => XS.iloadN X2.here hx rfl (hb hby d4_10) rfl k) ?_
  show G (T2.setTop (mkF m 11 #[.val (.ref a0_), .val (.ref a1_), .val (.int p2)] [(.int p2), (.ref a0_)]))
  obtain ⟨T7, h7, X7, e7, W7, st7⟩ := putFN X2 hx hZ hown (hw _ (List.mem_of_getElem? (i := 27) rfl)) Via.refl e2 F_c_q5 E_a_q3 (Or.inr ⟨(hw _ (List.mem_of_getElem? (i := 28) rfl)), rfl, hnm⟩) (hw _ (List.mem_of_getElem? (i := 13) rfl)) (ty := .byte) (v' := (.int (p2.toInt8.toInt32))) (by decide) rfl (fits_nar_byte _) (g := (mkF m 11 #[.val (.ref a0_), .val (.ref a1_), .val (.int p2)] [(.int p2), (.ref a0_)])) rfl rfl (hb hby d4_11)
  have E_a_q8 := E_a_q3.wr W7
  have F_v_q9 := F_v_q4.other W7 (Or.inr (slot_ne (Or.inr (hw _ (List.mem_of_getElem? (i := 26) rfl))) (Or.inr (hw _ (List.mem_of_getElem? (i := 28) rfl))) (by decide) (t := (.array .byte)) (t' := .byte) (by decide) (by decide)))
  have F_c_q10 := F_c_q5.same W7
  have K11 := K6.wr W7 (Or.inl (List.mem_of_getElem? (i := 0) rfl))
  have N7 := Fr.snoc X7 N2 g_a0_
  refine gs (fun t k => st7 _ k) ?_
  show G (T7.setTop (mkF m 14 #[.val (.ref a0_), .val (.ref a1_), .val (.int p2)] []))
  obtain ⟨fs, hr, hrun, hended, hW, hsame⟩ := X7.leave (v := none) (fun _ => rfl)
  refine gl _ ⟨_, _, X7.returnOut hx Bd.returns (hb hby d4_14) hr, hrun, hended, _, _, rfl, ?_, ⟨_, rfl⟩, hW, hsame.mono (by decide) (by decide)⟩
  show Q4 Z a0_ a1_ p2 h0 n0 _ T7.heap _
  rw [e7]
  exact ⟨rfl, N7, K11, E_a_q8, F_v_q9, F_c_q10⟩
theorem pd_0 : parseMethodDescriptor "(C)Z" = some ⟨[.char], some .boolean⟩ := by decide +kernel
theorem pd_1 : parseMethodDescriptor "(C)[B" = some ⟨[.char], some (.array .byte)⟩ := by decide +kernel
theorem pd_2 : parseMethodDescriptor "([BB)V" = some ⟨[(.array .byte), .byte], none⟩ := by decide +kernel
theorem d1_0 : decode jdk_42_method_139_code 0 = .ok (.getstatic 38, 3) := by decide +kernel
theorem d1_3 : decode jdk_42_method_139_code 3 = .ok (.ifCond .eq 23, 3) := by decide +kernel
theorem d1_6 : decode jdk_42_method_139_code 6 = .ok (.iload_n 0, 1) := by decide +kernel
theorem d1_7 : decode jdk_42_method_139_code 7 = .ok (.invokestatic 1015, 3) := by decide +kernel
theorem d1_10 : decode jdk_42_method_139_code 10 = .ok (.ifCond .eq 16, 3) := by decide +kernel
theorem d1_13 : decode jdk_42_method_139_code 13 = .ok (.new 10, 3) := by decide +kernel
theorem d1_16 : decode jdk_42_method_139_code 16 = .ok (.dup, 1) := by decide +kernel
theorem d1_17 : decode jdk_42_method_139_code 17 = .ok (.iload_n 0, 1) := by decide +kernel
theorem d1_18 : decode jdk_42_method_139_code 18 = .ok (.invokestatic 1018, 3) := by decide +kernel
theorem d1_21 : decode jdk_42_method_139_code 21 = .ok (.iconst 0, 1) := by decide +kernel
theorem d1_22 : decode jdk_42_method_139_code 22 = .ok (.invokespecial 209, 3) := by decide +kernel
theorem d1_25 : decode jdk_42_method_139_code 25 = .ok (.areturn, 1) := by decide +kernel
theorem ef_1 (m : MethodId) (p0 : Int32) : entryFrame m #[(.int p0)] 1 = mkF m 0 #[.val (.int p0)] [] := by first | (simp [entryFrame, mkF, argsToLocals, Value.category]; done) | rfl
def Q1 (Z : State) (p0 : Int32) (h0 : Heap) (n0 : Nat) (v : Option Value) (h : Heap) (L : List Loc) : Prop := ∃ b : Addr, v = some (.ref b) ∧ Fr n0 L ∧ Keep h0 h [] ∧ own_Str Z h b (own_b p0)
set_option maxRecDepth 65536 in
set_option maxHeartbeats 40000000 in
theorem rm1 (l : Launch) (Z : State) (a0 : Array Value) (hw : ∀ d ∈ tables_1, d.before a0 Z = true) (ws : List Jvm.Cond) (p0 : Int32) (cs : Int32) (h0 : Heap) (n0 : Nat) (Z0 : n0 ≤ h0.size) (SC : Sta Z h0 "java/lang/String" "COMPACT_STRINGS" "Z" (.int cs)) (hcs : ¬ cs = (0 : Int32)) (hp : ¬ (255 : Int32) < p0) :
    MetFree l (⟨"java/lang/String", "valueOf", "(C)Ljava/lang/String;"⟩ : MethodName) (head1 (Jvm.Cond.code (⟨"java/lang/String", "valueOf", "(C)Ljava/lang/String;"⟩ : MethodName) jdk_42_method_139_code 1 (some (.object "java/lang/String")) :: ws) ({ frames := 2, cells := 2, slots := 5, locals := 27 } : Room)) (fun a U => a = #[(.int p0)] ∧ Z.Warmed39 U.vm ∧ U.heap = h0) (fun _ _ _ _ _ => True) (fun _ U o U' => ∃ v L, o = .returned v ∧ Q1 Z p0 h0 n0 v U'.heap L ∧ FrameEnd U o U' L ({ frames := 2, cells := 2, slots := 5, locals := 27 } : Room).cells ({ frames := 2, cells := 2, slots := 5, locals := 27 } : Room).slots) := by
  refine MetFree.of_bodySF (plainFor_of_name pn_java_lang_String) hisR ?_
  intro p e s m args below meth c s₁ Bd hml0 hP hK
  obtain ⟨rfl, hZ, hh⟩ := hP
  have hx := Bd.exec
  have hby := Bd.bytes
  have hml : c.maxLocals = 1 := hml0
  have hown : s.vm.findClass "java/lang/String" = some m.cls := findClass_of_methodNamed Bd.named
  have hnm := (name_of_methodNamed Bd.named Bd.method).1
  have X0 : Stand p l e ({ frames := 2, cells := 2, slots := 5, locals := 27 } : Room) s m #[(.int p0)] below meth c s₁ [] 0 0 := Stand.of_body Bd
  have e0 : s₁.heap = h0 := by rw [← hh, Bd.state]; rfl
  have N0 := Fr.nil n0
  have pre0 : ∀ t, Steps p.tables e below (s₁.setTop (mkF m 0 #[.val (.int p0)] [])) t → Steps p.tables e below (s₁.setTop (entryFrame m #[(.int p0)] 1)) t := fun t k => castTop (ef_1 m p0) k
  have K0 := Keep.refl h0 []
  refine own_start pre0 fun G gs gl => ?_
  show G (s₁.setTop (mkF m 0 #[.val (.int p0)] []))
  obtain ⟨T1, X1, e1, st1⟩ := getS2 X0 hx hZ hown (host := "") (Or.inl (hw _ (List.mem_of_getElem? (i := 7) rfl))) Via.refl e0 SC (g := (mkF m 0 #[.val (.int p0)] [])) rfl (hb hby d1_0)
  refine gs (fun t k => st1 _ k) ?_
  show G (T1.setTop (mkF m 3 #[.val (.int p0)] [(.int cs)]))
  refine gs (fun t k => XS.ifNo X1.here hx rfl (hb hby d1_3) rfl ((if0 _ _).trans (feq hcs).1) k) ?_
  show G (T1.setTop (mkF m 6 #[.val (.int p0)] []))
  refine gs (fun t k => XS.iloadN X1.here hx rfl (hb hby d1_6) rfl k) ?_
  show G (T1.setTop (mkF m 7 #[.val (.int p0)] [(.int p0)]))
  obtain ⟨_, _, ⟨T2, L2, k2, n2⟩, -, X2, ⟨Lc2, hQ2, l2, y2, z2⟩, st2⟩ := Jvm.LawKit.callS X1 hx (y := (⟨"java/lang/StringLatin1", "canEncode", "(C)Z"⟩ : MethodName)) hown (mvT hZ (hw _ (List.mem_of_getElem? (i := 8) rfl))) (mvT hZ (hw _ (List.mem_of_getElem? (i := 9) rfl))) (mvT hZ (hw _ (List.mem_of_getElem? (i := 10) rfl))) (mvT hZ (hw _ (List.mem_of_getElem? (i := 11) rfl))) (by decide) (backOf (W := 0) (rm2 l Z a0 hw [] p0 h0 n0 (Nat.le_trans Z0 K0.1) hp) hZ (hw _ (List.mem_of_getElem? (i := 11) rfl)) (hw _ (List.mem_of_getElem? (i := 10) rfl)) (by decide) (by decide)) (g := (mkF m 7 #[.val (.int p0)] [(.int p0)])) rfl (by rw [hml]; rfl) (argsL := [(.int p0)]) (rest := []) (lenOf pd_0 rfl) rfl (by show 2 * 0 + _ ≤ _; exact Nat.le_of_eq rfl) (hb hby d1_7) (fun _ _ => ⟨rfl, e1, (by decide : 0 + 0 ≤ _), (by decide : 0 + 0 ≤ _)⟩)
  dsimp only [Pt.U, Pt.locs, Pt.cells, Pt.slots] at X2 l2 y2 z2 st2 hQ2
  subst y2 z2
  obtain ⟨rfl, N2q, e2⟩ := hQ2
  have N2 : Fr n0 L2 := by rw [l2]; exact Fr.app N0 N2q
  refine gs (fun t k => st2 _ k) ?_
  show G (T2.setTop (mkF m 10 #[.val (.int p0)] [(.int (1 : Int32))]))
  refine gs (fun t k => XS.ifNo X2.here hx rfl (hb hby d1_10) rfl ((if0 _ _).trans (feq (by decide : ¬ ((1 : Int32) = (0 : Int32)))).1) k) ?_
  show G (T2.setTop (mkF m 13 #[.val (.int p0)] []))
  obtain ⟨T3, h3, X3, e3, E3, A3, D3, -, st3⟩ := newO X2 hx hZ hown (hw _ (List.mem_of_getElem? (i := 12) rfl)) (hw _ (List.mem_of_getElem? (i := 13) rfl)) (hw _ (List.mem_of_getElem? (i := 5) rfl)) e2 (g := (mkF m 13 #[.val (.int p0)] [])) rfl (hb hby d1_13) (by decide) (by decide)
  obtain ⟨b3, g3⟩ : ∃ z, z = h0.size := ⟨_, rfl⟩
  rw [← g3] at A3 D3 st3
  have sz_b3 : h0.size ≤ b3 := Nat.le_trans K0.1 (Nat.le_of_eq g3.symm)
  have g_b3 : n0 ≤ b3 := Nat.le_trans Z0 sz_b3
  have SC_q4 := SC.ext E3
  have K5 := K0.ext E3
  have E_b3 := A3
  have F_value_b3 : Fld Z h3 b3 "java/lang/String" "value" "[B" .null := D3 (Or.inr (hw _ (List.mem_of_getElem? (i := 26) rfl))) (ty := (.array .byte)) (by decide)
  have F_coder_b3 : Fld Z h3 b3 "java/lang/String" "coder" "B" (.int (0 : Int32)) := D3 (Or.inr (hw _ (List.mem_of_getElem? (i := 28) rfl))) (ty := .byte) (by decide)
  refine gs (fun t k => st3 _ k) ?_
  show G (T3.setTop (mkF m 16 #[.val (.int p0)] [(.ref b3)]))
  refine gs (fun t k => XS.dup X3.here hx rfl (hb hby d1_16) rfl rfl k) ?_
  show G (T3.setTop (mkF m 17 #[.val (.int p0)] [(.ref b3), (.ref b3)]))
  refine gs (fun t k => XS.iloadN X3.here hx rfl (hb hby d1_17) rfl k) ?_
  show G (T3.setTop (mkF m 18 #[.val (.int p0)] [(.int p0), (.ref b3), (.ref b3)]))
  obtain ⟨_, _, ⟨T6, L6, k6, n6⟩, -, X6, ⟨Lc6, hQ6, l6, y6, z6⟩, st6⟩ := Jvm.LawKit.callS X3 hx (y := (⟨"java/lang/StringLatin1", "toBytes", "(C)[B"⟩ : MethodName)) hown (mvT hZ (hw _ (List.mem_of_getElem? (i := 14) rfl))) (mvT hZ (hw _ (List.mem_of_getElem? (i := 15) rfl))) (mvT hZ (hw _ (List.mem_of_getElem? (i := 10) rfl))) (mvT hZ (hw _ (List.mem_of_getElem? (i := 16) rfl))) (by decide) (backOf (W := 2) (rm3 l Z a0 hw [] p0 h3 n0 (Nat.le_trans Z0 K5.1)) hZ (hw _ (List.mem_of_getElem? (i := 16) rfl)) (hw _ (List.mem_of_getElem? (i := 10) rfl)) (by decide) (by decide)) (g := (mkF m 18 #[.val (.int p0)] [(.int p0), (.ref b3), (.ref b3)])) rfl (by rw [hml]; rfl) (argsL := [(.int p0)]) (rest := [(.ref b3), (.ref b3)]) (lenOf pd_1 rfl) rfl (by show 2 * 0 + _ ≤ _; exact Nat.le_of_eq rfl) (hb hby d1_18) (fun _ _ => ⟨rfl, e3, (by decide : 1 + 1 ≤ _), (by decide : 4 + 1 ≤ _)⟩)
  dsimp only [Pt.U, Pt.locs, Pt.cells, Pt.slots] at X6 l6 y6 z6 st6 hQ6
  subst y6 z6
  obtain ⟨tb, kb, rfl, N6q, Kc6, VB⟩ := hQ6
  have N6 : Fr n0 L6 := by rw [l6]; exact Fr.app N2 N6q
  refine gs (fun t k => st6 _ k) ?_
  have SC_q7 := own_sta_keep SC_q4 Kc6
  have E_b3_q8 := E_b3.keep Kc6
  have F_value_b3_q9 := F_value_b3.keep Kc6 nin0
  have F_coder_b3_q10 := F_coder_b3.keep Kc6 nin0
  have K11 := K5.trans Kc6 all0
  show G (T6.setTop (mkF m 21 #[.val (.int p0)] [(.ref tb), (.ref b3), (.ref b3)]))
  refine gs (fun t k => XS.iconst X6.here hx rfl (hb hby d1_21) k) ?_
  show G (T6.setTop (mkF m 22 #[.val (.int p0)] [(.int (0 : Int32)), (.ref tb), (.ref b3), (.ref b3)]))
  have ne_tb : tb ≠ b3 := (ne_arr E_b3_q8 (hw _ (List.mem_of_getElem? (i := 13) rfl)) (VB.choose_spec.1)).symm
  obtain ⟨_, _, ⟨T12, L12, k12, n12⟩, -, X12, ⟨Lc12, hQ12, l12, y12, z12⟩, st12⟩ := X6.specialBack hx (y := (⟨"java/lang/String", "<init>", "([BB)V"⟩ : MethodName)) rfl hown (mvT hZ (hw _ (List.mem_of_getElem? (i := 18) rfl))) (mvT hZ (hw _ (List.mem_of_getElem? (i := 19) rfl))) (mvT hZ (hw _ (List.mem_of_getElem? (i := 21) rfl))) (by decide) (backOf (W := 1) (rm4 l Z a0 hw [] b3 tb (0 : Int32) T6.heap n0 (Nat.le_trans Z0 K11.1) E_b3_q8 F_value_b3_q9 F_coder_b3_q10 g_b3) hZ (hw _ (List.mem_of_getElem? (i := 21) rfl)) (hw _ (List.mem_of_getElem? (i := 5) rfl)) (by decide) (by decide)) (g := (mkF m 22 #[.val (.int p0)] [(.int (0 : Int32)), (.ref tb), (.ref b3), (.ref b3)])) rfl (by rw [hml]; rfl) (Steps.refl _) (a := b3) (argsL := [(.ref tb), (.int (0 : Int32))]) (rest := [(.ref b3)]) (lenOf pd_2 rfl) rfl (by show 2 * 0 + _ ≤ _; exact Nat.le_of_eq rfl) (hb hby d1_22) (fun _ _ => ⟨rfl, rfl, (by decide : 2 + 0 ≤ _), (by decide : 5 + 0 ≤ _)⟩)
  dsimp only [Pt.U, Pt.locs, Pt.cells, Pt.slots] at X12 l12 y12 z12 st12 hQ12
  subst y12 z12
  obtain ⟨rfl, N12q, Kc12, Ex12, Fv12, Fc12⟩ := hQ12
  have N12 : Fr n0 L12 := by rw [l12]; exact Fr.app N6 N12q
  refine gs (fun t k => st12.trans k) ?_
  have SC_q13 := own_sta_keepE SC_q7 Kc12 E_b3_q8
  have E_b3_q14 := E_b3_q8.keep Kc12
  have VB_q15 := VB.keep Kc12 (ninS ne_tb nin0)
  have K16 := K11.trans Kc12 (allS (Or.inr sz_b3) all0)
  have FC12 : Fld Z T12.heap b3 "java/lang/String" "coder" "B" (.int (0 : Int32)) := Fc12
  show G (T12.setTop (mkF m 25 #[.val (.int p0)] [(.ref b3)]))
  obtain ⟨fs, hr, hrun, hended, hW, hsame⟩ := X12.leave (v := some (.ref b3)) (fun h => by rw [Bd.returns] at h; cases h)
  refine gl _ ⟨_, _, retOut X12 hx Bd.returns rfl (Or.inr (Or.inr (Or.inr (Or.inr ⟨rfl, rfl, rfl⟩)))) (hb hby d1_25) hr, hrun, hended, _, _, rfl, ?_, ⟨_, rfl⟩, hW, hsame.mono (by decide) (by decide)⟩
  show Q1 Z p0 h0 n0 _ T12.heap _
  exact ⟨_, rfl, N12, K16, (⟨tb, kb, Ex12, Fv12, FC12, VB_q15⟩ : own_Str Z T12.heap b3 (own_b p0))⟩
theorem d7_0 : decode jdk_31_method_10_code 0 = .ok (.aload_n 0, 1) := by decide +kernel
theorem d7_1 : decode jdk_31_method_10_code 1 = .ok (.ifnonnull 11, 3) := by decide +kernel
theorem d7_12 : decode jdk_31_method_10_code 12 = .ok (.aload_n 0, 1) := by decide +kernel
theorem d7_13 : decode jdk_31_method_10_code 13 = .ok (.areturn, 1) := by decide +kernel
theorem pn_java_util_Objects : plainName "java/util/Objects" = true := by first | (simp [plainName, overriddenIn]; done) | decide +kernel
theorem ef_7 (m : MethodId) (a0_ : Addr) : entryFrame m #[(.ref a0_)] 1 = mkF m 0 #[.val (.ref a0_)] [] := by first | (simp [entryFrame, mkF, argsToLocals, Value.category]; done) | rfl
def Q7 (a0_ : Addr) (h0 : Heap) (n0 : Nat) (v : Option Value) (h : Heap) (L : List Loc) : Prop := v = some (.ref a0_) ∧ Fr n0 L ∧ h = h0
set_option maxRecDepth 65536 in
set_option maxHeartbeats 40000000 in
theorem rm7 (l : Launch) (Z : State) (a0 : Array Value) (hw : ∀ d ∈ tables_1, d.before a0 Z = true) (ws : List Jvm.Cond) (a0_ : Addr)  (h0 : Heap) (n0 : Nat) (Z0 : n0 ≤ h0.size)  :
    MetFree l (⟨"java/util/Objects", "requireNonNull", "(Ljava/lang/Object;)Ljava/lang/Object;"⟩ : MethodName) (head1 (Jvm.Cond.code (⟨"java/util/Objects", "requireNonNull", "(Ljava/lang/Object;)Ljava/lang/Object;"⟩ : MethodName) jdk_31_method_10_code 1 (some (.object "java/lang/Object")) :: ws) ({ frames := 0, cells := 0, slots := 0, locals := 0 } : Room)) (fun a U => a = #[(.ref a0_)] ∧ Z.Warmed39 U.vm ∧ U.heap = h0) (fun _ _ _ _ _ => True) (fun _ U o U' => ∃ v L, o = .returned v ∧ Q7 a0_ h0 n0 v U'.heap L ∧ FrameEnd U o U' L ({ frames := 0, cells := 0, slots := 0, locals := 0 } : Room).cells ({ frames := 0, cells := 0, slots := 0, locals := 0 } : Room).slots) := by
  refine MetFree.of_bodySF (plainFor_of_name pn_java_util_Objects) hisR ?_
  intro p e s m args below meth c s₁ Bd hml0 hP hK
  obtain ⟨rfl, hZ, hh⟩ := hP
  have hx := Bd.exec
  have hby := Bd.bytes
  have hml : c.maxLocals = 1 := hml0
  have hown : s.vm.findClass "java/util/Objects" = some m.cls := findClass_of_methodNamed Bd.named
  have hnm := (name_of_methodNamed Bd.named Bd.method).1
  have X0 : Stand p l e ({ frames := 0, cells := 0, slots := 0, locals := 0 } : Room) s m #[(.ref a0_)] below meth c s₁ [] 0 0 := Stand.of_body Bd
  have e0 : s₁.heap = h0 := by rw [← hh, Bd.state]; rfl
  have N0 := Fr.nil n0
  have pre0 : ∀ t, Steps p.tables e below (s₁.setTop (mkF m 0 #[.val (.ref a0_)] [])) t → Steps p.tables e below (s₁.setTop (entryFrame m #[(.ref a0_)] 1)) t := fun t k => castTop (ef_7 m a0_) k
  have K0 := Keep.refl h0 []
  refine own_start pre0 fun G gs gl => ?_
  show G (s₁.setTop (mkF m 0 #[.val (.ref a0_)] []))
  refine gs (fun t k => XS.aloadN X0.here hx rfl (hb hby d7_0) rfl rfl k) ?_
  show G (s₁.setTop (mkF m 1 #[.val (.ref a0_)] [(.ref a0_)]))
  refine gs (fun t k => XS.ifnonnullYes X0.here hx rfl (pc0 := 1) (pc' := 12) rfl (hb hby d7_1) rfl (by decide) (by decide) k) ?_
  show G (s₁.setTop (mkF m 12 #[.val (.ref a0_)] []))
  refine gs (fun t k => XS.aloadN X0.here hx rfl (hb hby d7_12) rfl rfl k) ?_
  show G (s₁.setTop (mkF m 13 #[.val (.ref a0_)] [(.ref a0_)]))
  obtain ⟨fs, hr, hrun, hended, hW, hsame⟩ := X0.leave (v := some (.ref a0_)) (fun h => by rw [Bd.returns] at h; cases h)
  refine gl _ ⟨_, _, retOut X0 hx Bd.returns rfl (Or.inr (Or.inr (Or.inr (Or.inr ⟨rfl, rfl, rfl⟩)))) (hb hby d7_13) hr, hrun, hended, _, _, rfl, ?_, ⟨_, rfl⟩, hW, hsame.mono (by decide) (by decide)⟩
  show Q7 a0_ h0 n0 _ s₁.heap _
  rw [e0]
  exact ⟨rfl, N0, rfl⟩
theorem pd_3 : parseMethodDescriptor "(Ljava/lang/Object;)Ljava/lang/Object;" = some ⟨[(.object "java/lang/Object")], some (.object "java/lang/Object")⟩ := by decide +kernel
theorem d6_0 : decode prog_55_method_1_code 0 = .ok (.aload_n 0, 1) := by decide +kernel
theorem d6_1 : decode prog_55_method_1_code 1 = .ok (.invokespecial 1, 3) := by decide +kernel
theorem d6_4 : decode prog_55_method_1_code 4 = .ok (.aload_n 0, 1) := by decide +kernel
theorem d6_5 : decode prog_55_method_1_code 5 = .ok (.aload_n 1, 1) := by decide +kernel
theorem d6_6 : decode prog_55_method_1_code 6 = .ok (.invokestatic 7, 3) := by decide +kernel
theorem d6_9 : decode prog_55_method_1_code 9 = .ok (.checkcast 13, 3) := by decide +kernel
theorem d6_12 : decode prog_55_method_1_code 12 = .ok (.putfield 15, 3) := by decide +kernel
theorem d6_15 : decode prog_55_method_1_code 15 = .ok (.aload_n 0, 1) := by decide +kernel
theorem d6_16 : decode prog_55_method_1_code 16 = .ok (.aload_n 2, 1) := by decide +kernel
theorem d6_17 : decode prog_55_method_1_code 17 = .ok (.invokestatic 7, 3) := by decide +kernel
theorem d6_20 : decode prog_55_method_1_code 20 = .ok (.checkcast 13, 3) := by decide +kernel
theorem d6_23 : decode prog_55_method_1_code 23 = .ok (.putfield 21, 3) := by decide +kernel
theorem d6_26 : decode prog_55_method_1_code 26 = .ok (.aload_n 0, 1) := by decide +kernel
theorem d6_27 : decode prog_55_method_1_code 27 = .ok (.aload_n 3, 1) := by decide +kernel
theorem d6_28 : decode prog_55_method_1_code 28 = .ok (.invokestatic 7, 3) := by decide +kernel
theorem d6_31 : decode prog_55_method_1_code 31 = .ok (.checkcast 13, 3) := by decide +kernel
theorem d6_34 : decode prog_55_method_1_code 34 = .ok (.putfield 24, 3) := by decide +kernel
theorem d6_37 : decode prog_55_method_1_code 37 = .ok (.aload_n 0, 1) := by decide +kernel
theorem d6_38 : decode prog_55_method_1_code 38 = .ok (.iload 4, 2) := by decide +kernel
theorem d6_40 : decode prog_55_method_1_code 40 = .ok (.putfield 27, 3) := by decide +kernel
theorem d6_43 : decode prog_55_method_1_code 43 = .ok (.return_, 1) := by decide +kernel
theorem pn_com_example_consensus_to_coverage_consensustocoverage_trecfiles_Judgement : plainName "com/example/consensus_to_coverage/consensustocoverage/trecfiles/Judgement" = true := by first | (simp [plainName, overriddenIn]; done) | decide +kernel
theorem ef_6 (m : MethodId) (a0_ : Addr) (a1_ : Addr) (a2_ : Addr) (a3_ : Addr) (p4 : Int32) : entryFrame m #[(.ref a0_), (.ref a1_), (.ref a2_), (.ref a3_), (.int p4)] 5 = mkF m 0 #[.val (.ref a0_), .val (.ref a1_), .val (.ref a2_), .val (.ref a3_), .val (.int p4)] [] := by first | (simp [entryFrame, mkF, argsToLocals, Value.category]; done) | rfl
def Q6 (Z : State) (a0_ a1_ a2_ a3_ : Addr) (p4 : Int32) (h0 : Heap) (n0 : Nat) (v : Option Value) (h : Heap) (L : List Loc) : Prop := v = none ∧ Fr n0 L ∧ Keep h0 h [a0_] ∧ Exa Z h a0_ "com/example/consensus_to_coverage/consensustocoverage/trecfiles/Judgement" ∧ Fld Z h a0_ "com/example/consensus_to_coverage/consensustocoverage/trecfiles/Judgement" "topic" "Ljava/lang/String;" (.ref a1_) ∧ Fld Z h a0_ "com/example/consensus_to_coverage/consensustocoverage/trecfiles/Judgement" "subtopic" "Ljava/lang/String;" (.ref a2_) ∧ Fld Z h a0_ "com/example/consensus_to_coverage/consensustocoverage/trecfiles/Judgement" "docId" "Ljava/lang/String;" (.ref a3_) ∧ Fld Z h a0_ "com/example/consensus_to_coverage/consensustocoverage/trecfiles/Judgement" "grade" "I" (.int p4)
set_option maxRecDepth 65536 in
set_option maxHeartbeats 40000000 in
theorem rm6 (l : Launch) (Z : State) (a0 : Array Value) (hw : ∀ d ∈ tables_1, d.before a0 Z = true) (ws : List Jvm.Cond) (a0_ : Addr) (a1_ : Addr) (a2_ : Addr) (a3_ : Addr) (p4 : Int32)  (h0 : Heap) (n0 : Nat) (Z0 : n0 ≤ h0.size) (E_a : Exa Z h0 a0_ "com/example/consensus_to_coverage/consensustocoverage/trecfiles/Judgement") (F_0 : Fld Z h0 a0_ "com/example/consensus_to_coverage/consensustocoverage/trecfiles/Judgement" "topic" "Ljava/lang/String;" .null) (F_1 : Fld Z h0 a0_ "com/example/consensus_to_coverage/consensustocoverage/trecfiles/Judgement" "subtopic" "Ljava/lang/String;" .null) (F_2 : Fld Z h0 a0_ "com/example/consensus_to_coverage/consensustocoverage/trecfiles/Judgement" "docId" "Ljava/lang/String;" .null) (F_3 : Fld Z h0 a0_ "com/example/consensus_to_coverage/consensustocoverage/trecfiles/Judgement" "grade" "I" (.int (0 : Int32))) (g_a0_ : n0 ≤ a0_) (E_1 : Exa Z h0 a1_ "java/lang/String") (E_2 : Exa Z h0 a2_ "java/lang/String") (E_3 : Exa Z h0 a3_ "java/lang/String") :
    MetFree l (⟨"com/example/consensus_to_coverage/consensustocoverage/trecfiles/Judgement", "<init>", "(Ljava/lang/String;Ljava/lang/String;Ljava/lang/String;I)V"⟩ : MethodName) (head1 (Jvm.Cond.code (⟨"com/example/consensus_to_coverage/consensustocoverage/trecfiles/Judgement", "<init>", "(Ljava/lang/String;Ljava/lang/String;Ljava/lang/String;I)V"⟩ : MethodName) prog_55_method_1_code 5 none :: ws) ({ frames := 1, cells := 0, slots := 0, locals := 13 } : Room)) (fun a U => a = #[(.ref a0_), (.ref a1_), (.ref a2_), (.ref a3_), (.int p4)] ∧ Z.Warmed39 U.vm ∧ U.heap = h0) (fun _ _ _ _ _ => True) (fun _ U o U' => ∃ v L, o = .returned v ∧ Q6 Z a0_ a1_ a2_ a3_ p4 h0 n0 v U'.heap L ∧ FrameEnd U o U' L ({ frames := 1, cells := 0, slots := 0, locals := 13 } : Room).cells ({ frames := 1, cells := 0, slots := 0, locals := 13 } : Room).slots) := by
  refine MetFree.of_bodySF (plainFor_of_name pn_com_example_consensus_to_coverage_consensustocoverage_trecfiles_Judgement) hisR ?_
  intro p e s m args below meth c s₁ Bd hml0 hP hK
  obtain ⟨rfl, hZ, hh⟩ := hP
  have hx := Bd.exec
  have hby := Bd.bytes
  have hml : c.maxLocals = 5 := hml0
  have hown : s.vm.findClass "com/example/consensus_to_coverage/consensustocoverage/trecfiles/Judgement" = some m.cls := findClass_of_methodNamed Bd.named
  have hnm := (name_of_methodNamed Bd.named Bd.method).1
  have X0 : Stand p l e ({ frames := 1, cells := 0, slots := 0, locals := 13 } : Room) s m #[(.ref a0_), (.ref a1_), (.ref a2_), (.ref a3_), (.int p4)] below meth c s₁ [] 0 0 := Stand.of_body Bd
  have e0 : s₁.heap = h0 := by rw [← hh, Bd.state]; rfl
  have N0 := Fr.nil n0
  have pre0 : ∀ t, Steps p.tables e below (s₁.setTop (mkF m 0 #[.val (.ref a0_), .val (.ref a1_), .val (.ref a2_), .val (.ref a3_), .val (.int p4)] [])) t → Steps p.tables e below (s₁.setTop (entryFrame m #[(.ref a0_), (.ref a1_), (.ref a2_), (.ref a3_), (.int p4)] 5)) t := fun t k => castTop (ef_6 m a0_ a1_ a2_ a3_ p4) k
  have K0 := Keep.refl h0 [a0_]
  refine own_start pre0 fun G gs gl => ?_
  show G (s₁.setTop (mkF m 0 #[.val (.ref a0_), .val (.ref a1_), .val (.ref a2_), .val (.ref a3_), .val (.int p4)] []))
  refine gs (fun t k => XS.aloadN X0.here hx rfl (hb hby d6_0) rfl rfl k) ?_
  show G (s₁.setTop (mkF m 1 #[.val (.ref a0_), .val (.ref a1_), .val (.ref a2_), .val (.ref a3_), .val (.int p4)] [(.ref a0_)]))
  obtain ⟨T1, X1, e1, st1⟩ := initO X0 hx hZ hown (hw _ (List.mem_of_getElem? (i := 32) rfl)) (hw _ (List.mem_of_getElem? (i := 23) rfl)) (hw _ (List.mem_of_getElem? (i := 24) rfl)) e0 (g := (mkF m 1 #[.val (.ref a0_), .val (.ref a1_), .val (.ref a2_), .val (.ref a3_), .val (.int p4)] [(.ref a0_)])) rfl (by rw [hml]; rfl) rfl (hb hby d6_1) (by decide) (W := 0) (by show 2 * 0 + _ ≤ _; exact Nat.le_of_eq rfl) (by decide)
  refine gs (fun t k => st1 _ k) ?_
  show G (T1.setTop (mkF m 4 #[.val (.ref a0_), .val (.ref a1_), .val (.ref a2_), .val (.ref a3_), .val (.int p4)] []))
  refine gs (fun t k => XS.aloadN X1.here hx rfl (hb hby d6_4) rfl rfl k) ?_
  show G (T1.setTop (mkF m 5 #[.val (.ref a0_), .val (.ref a1_), .val (.ref a2_), .val (.ref a3_), .val (.int p4)] [(.ref a0_)]))
  refine gs (fun t k => XS.aloadN X1.here hx rfl (hb hby d6_5) rfl rfl k) ?_
  show G (T1.setTop (mkF m 6 #[.val (.ref a0_), .val (.ref a1_), .val (.ref a2_), .val (.ref a3_), .val (.int p4)] [(.ref a1_), (.ref a0_)]))
  obtain ⟨_, _, ⟨T2, L2, k2, n2⟩, -, X2, ⟨Lc2, hQ2, l2, y2, z2⟩, st2⟩ := Jvm.LawKit.callS X1 hx (y := (⟨"java/util/Objects", "requireNonNull", "(Ljava/lang/Object;)Ljava/lang/Object;"⟩ : MethodName)) hown (mvT hZ (hw _ (List.mem_of_getElem? (i := 33) rfl))) (mvT hZ (hw _ (List.mem_of_getElem? (i := 34) rfl))) (mvT hZ (hw _ (List.mem_of_getElem? (i := 35) rfl))) (mvT hZ (hw _ (List.mem_of_getElem? (i := 36) rfl))) (by decide) (backOf (W := 1) (rm7 l Z a0 hw [] a1_ h0 n0 (Nat.le_trans Z0 K0.1)) hZ (hw _ (List.mem_of_getElem? (i := 36) rfl)) (hw _ (List.mem_of_getElem? (i := 35) rfl)) (by decide) (by decide)) (g := (mkF m 6 #[.val (.ref a0_), .val (.ref a1_), .val (.ref a2_), .val (.ref a3_), .val (.int p4)] [(.ref a1_), (.ref a0_)])) rfl (by rw [hml]; rfl) (argsL := [(.ref a1_)]) (rest := [(.ref a0_)]) (lenOf pd_3 rfl) rfl (by show 2 * 0 + _ ≤ _; exact Nat.le_of_eq rfl) (hb hby d6_6) (fun _ _ => ⟨rfl, e1, (by decide : 0 + 0 ≤ _), (by decide : 0 + 0 ≤ _)⟩)
  dsimp only [Pt.U, Pt.locs, Pt.cells, Pt.slots] at X2 l2 y2 z2 st2 hQ2
  subst y2 z2
  obtain ⟨rfl, N2q, e2⟩ := hQ2
  have N2 : Fr n0 L2 := by rw [l2]; exact Fr.app N0 N2q
  refine gs (fun t k => st2 _ k) ?_
  show G (T2.setTop (mkF m 9 #[.val (.ref a0_), .val (.ref a1_), .val (.ref a2_), .val (.ref a3_), .val (.int p4)] [(.ref a1_), (.ref a0_)]))
  obtain ⟨T3, X3, e3, st3⟩ := castY X2 hx hZ hown (hw _ (List.mem_of_getElem? (i := 37) rfl)) e2 (Ins.self E_1) (g := (mkF m 9 #[.val (.ref a0_), .val (.ref a1_), .val (.ref a2_), .val (.ref a3_), .val (.int p4)] [(.ref a1_), (.ref a0_)])) rfl rfl (hb hby d6_9)
  refine gs (fun t k => st3 _ k) ?_
  show G (T3.setTop (mkF m 12 #[.val (.ref a0_), .val (.ref a1_), .val (.ref a2_), .val (.ref a3_), .val (.int p4)] [(.ref a1_), (.ref a0_)]))
  obtain ⟨T4, h4, X4, e4, W4, st4⟩ := putF X3 hx hZ hown (host := "") (Or.inl (hw _ (List.mem_of_getElem? (i := 38) rfl))) Via.refl e3 F_0 E_a (Or.inr ⟨(hw _ (List.mem_of_getElem? (i := 39) rfl)), rfl, hnm⟩) (hw _ (List.mem_of_getElem? (i := 1) rfl)) (ty := (.object "java/lang/String")) (by decide) rfl rfl (g := (mkF m 12 #[.val (.ref a0_), .val (.ref a1_), .val (.ref a2_), .val (.ref a3_), .val (.int p4)] [(.ref a1_), (.ref a0_)])) rfl rfl (hb hby d6_12)
  have E_a_q5 := E_a.wr W4
  have F_0_q6 := F_0.same W4
  have F_1_q7 := F_1.other W4 (Or.inr (slot_ne (Or.inr (hw _ (List.mem_of_getElem? (i := 41) rfl))) (Or.inr (hw _ (List.mem_of_getElem? (i := 39) rfl))) (by decide) (t := (.object "java/lang/String")) (t' := (.object "java/lang/String")) (by decide) (by decide)))
  have F_2_q8 := F_2.other W4 (Or.inr (slot_ne (Or.inr (hw _ (List.mem_of_getElem? (i := 43) rfl))) (Or.inr (hw _ (List.mem_of_getElem? (i := 39) rfl))) (by decide) (t := (.object "java/lang/String")) (t' := (.object "java/lang/String")) (by decide) (by decide)))
  have F_3_q9 := F_3.other W4 (Or.inr (slot_ne (Or.inr (hw _ (List.mem_of_getElem? (i := 45) rfl))) (Or.inr (hw _ (List.mem_of_getElem? (i := 39) rfl))) (by decide) (t := .int) (t' := (.object "java/lang/String")) (by decide) (by decide)))
  have E_1_q10 := E_1.wr W4
  have E_2_q11 := E_2.wr W4
  have E_3_q12 := E_3.wr W4
  have K13 := K0.wr W4 (Or.inl (List.mem_of_getElem? (i := 0) rfl))
  have N4 := Fr.snoc X4 N2 g_a0_
  refine gs (fun t k => st4 _ k) ?_
  show G (T4.setTop (mkF m 15 #[.val (.ref a0_), .val (.ref a1_), .val (.ref a2_), .val (.ref a3_), .val (.int p4)] []))
  refine gs (fun t k => XS.aloadN X4.here hx rfl (hb hby d6_15) rfl rfl k) ?_
  show G (T4.setTop (mkF m 16 #[.val (.ref a0_), .val (.ref a1_), .val (.ref a2_), .val (.ref a3_), .val (.int p4)] [(.ref a0_)]))
  refine gs (fun t k => XS.aloadN X4.here hx rfl (hb hby d6_16) rfl rfl k) ?_
  show G (T4.setTop (mkF m 17 #[.val (.ref a0_), .val (.ref a1_), .val (.ref a2_), .val (.ref a3_), .val (.int p4)] [(.ref a2_), (.ref a0_)]))
  obtain ⟨_, _, ⟨T14, L14, k14, n14⟩, -, X14, ⟨Lc14, hQ14, l14, y14, z14⟩, st14⟩ := Jvm.LawKit.callS X4 hx (y := (⟨"java/util/Objects", "requireNonNull", "(Ljava/lang/Object;)Ljava/lang/Object;"⟩ : MethodName)) hown (mvT hZ (hw _ (List.mem_of_getElem? (i := 33) rfl))) (mvT hZ (hw _ (List.mem_of_getElem? (i := 34) rfl))) (mvT hZ (hw _ (List.mem_of_getElem? (i := 35) rfl))) (mvT hZ (hw _ (List.mem_of_getElem? (i := 36) rfl))) (by decide) (backOf (W := 1) (rm7 l Z a0 hw [] a2_ h4 n0 (Nat.le_trans Z0 K13.1)) hZ (hw _ (List.mem_of_getElem? (i := 36) rfl)) (hw _ (List.mem_of_getElem? (i := 35) rfl)) (by decide) (by decide)) (g := (mkF m 17 #[.val (.ref a0_), .val (.ref a1_), .val (.ref a2_), .val (.ref a3_), .val (.int p4)] [(.ref a2_), (.ref a0_)])) rfl (by rw [hml]; rfl) (argsL := [(.ref a2_)]) (rest := [(.ref a0_)]) (lenOf pd_3 rfl) rfl (by show 2 * 0 + _ ≤ _; exact Nat.le_of_eq rfl) (hb hby d6_17) (fun _ _ => ⟨rfl, e4, (by decide : 0 + 0 ≤ _), (by decide : 0 + 0 ≤ _)⟩)
  dsimp only [Pt.U, Pt.locs, Pt.cells, Pt.slots] at X14 l14 y14 z14 st14 hQ14
  subst y14 z14
  obtain ⟨rfl, N14q, e14⟩ := hQ14
  have N14 : Fr n0 L14 := by rw [l14]; exact Fr.app N4 N14q
  refine gs (fun t k => st14 _ k) ?_
  show G (T14.setTop (mkF m 20 #[.val (.ref a0_), .val (.ref a1_), .val (.ref a2_), .val (.ref a3_), .val (.int p4)] [(.ref a2_), (.ref a0_)]))
  obtain ⟨T15, X15, e15, st15⟩ := castY X14 hx hZ hown (hw _ (List.mem_of_getElem? (i := 37) rfl)) e14 (Ins.self E_2_q11) (g := (mkF m 20 #[.val (.ref a0_), .val (.ref a1_), .val (.ref a2_), .val (.ref a3_), .val (.int p4)] [(.ref a2_), (.ref a0_)])) rfl rfl (hb hby d6_20)
  refine gs (fun t k => st15 _ k) ?_
  show G (T15.setTop (mkF m 23 #[.val (.ref a0_), .val (.ref a1_), .val (.ref a2_), .val (.ref a3_), .val (.int p4)] [(.ref a2_), (.ref a0_)]))
  obtain ⟨T16, h16, X16, e16, W16, st16⟩ := putF X15 hx hZ hown (host := "") (Or.inl (hw _ (List.mem_of_getElem? (i := 40) rfl))) Via.refl e15 F_1_q7 E_a_q5 (Or.inr ⟨(hw _ (List.mem_of_getElem? (i := 41) rfl)), rfl, hnm⟩) (hw _ (List.mem_of_getElem? (i := 1) rfl)) (ty := (.object "java/lang/String")) (by decide) rfl rfl (g := (mkF m 23 #[.val (.ref a0_), .val (.ref a1_), .val (.ref a2_), .val (.ref a3_), .val (.int p4)] [(.ref a2_), (.ref a0_)])) rfl rfl (hb hby d6_23)
  have E_a_q17 := E_a_q5.wr W16
  have F_0_q18 := F_0_q6.other W16 (Or.inr (slot_ne (Or.inr (hw _ (List.mem_of_getElem? (i := 39) rfl))) (Or.inr (hw _ (List.mem_of_getElem? (i := 41) rfl))) (by decide) (t := (.object "java/lang/String")) (t' := (.object "java/lang/String")) (by decide) (by decide)))
  have F_1_q19 := F_1_q7.same W16
  have F_2_q20 := F_2_q8.other W16 (Or.inr (slot_ne (Or.inr (hw _ (List.mem_of_getElem? (i := 43) rfl))) (Or.inr (hw _ (List.mem_of_getElem? (i := 41) rfl))) (by decide) (t := (.object "java/lang/String")) (t' := (.object "java/lang/String")) (by decide) (by decide)))
  have F_3_q21 := F_3_q9.other W16 (Or.inr (slot_ne (Or.inr (hw _ (List.mem_of_getElem? (i := 45) rfl))) (Or.inr (hw _ (List.mem_of_getElem? (i := 41) rfl))) (by decide) (t := .int) (t' := (.object "java/lang/String")) (by decide) (by decide)))
  have E_1_q22 := E_1_q10.wr W16
  have E_2_q23 := E_2_q11.wr W16
  have E_3_q24 := E_3_q12.wr W16
  have K25 := K13.wr W16 (Or.inl (List.mem_of_getElem? (i := 0) rfl))
  have N16 := Fr.snoc X16 N14 g_a0_
  refine gs (fun t k => st16 _ k) ?_
  show G (T16.setTop (mkF m 26 #[.val (.ref a0_), .val (.ref a1_), .val (.ref a2_), .val (.ref a3_), .val (.int p4)] []))
  refine gs (fun t k => XS.aloadN X16.here hx rfl (hb hby d6_26) rfl rfl k) ?_
  show G (T16.setTop (mkF m 27 #[.val (.ref a0_), .val (.ref a1_), .val (.ref a2_), .val (.ref a3_), .val (.int p4)] [(.ref a0_)]))
  refine gs (fun t k => XS.aloadN X16.here hx rfl (hb hby d6_27) rfl rfl k) ?_
  show G (T16.setTop (mkF m 28 #[.val (.ref a0_), .val (.ref a1_), .val (.ref a2_), .val (.ref a3_), .val (.int p4)] [(.ref a3_), (.ref a0_)]))
  obtain ⟨_, _, ⟨T26, L26, k26, n26⟩, -, X26, ⟨Lc26, hQ26, l26, y26, z26⟩, st26⟩ := Jvm.LawKit.callS X16 hx (y := (⟨"java/util/Objects", "requireNonNull", "(Ljava/lang/Object;)Ljava/lang/Object;"⟩ : MethodName)) hown (mvT hZ (hw _ (List.mem_of_getElem? (i := 33) rfl))) (mvT hZ (hw _ (List.mem_of_getElem? (i := 34) rfl))) (mvT hZ (hw _ (List.mem_of_getElem? (i := 35) rfl))) (mvT hZ (hw _ (List.mem_of_getElem? (i := 36) rfl))) (by decide) (backOf (W := 1) (rm7 l Z a0 hw [] a3_ h16 n0 (Nat.le_trans Z0 K25.1)) hZ (hw _ (List.mem_of_getElem? (i := 36) rfl)) (hw _ (List.mem_of_getElem? (i := 35) rfl)) (by decide) (by decide)) (g := (mkF m 28 #[.val (.ref a0_), .val (.ref a1_), .val (.ref a2_), .val (.ref a3_), .val (.int p4)] [(.ref a3_), (.ref a0_)])) rfl (by rw [hml]; rfl) (argsL := [(.ref a3_)]) (rest := [(.ref a0_)]) (lenOf pd_3 rfl) rfl (by show 2 * 0 + _ ≤ _; exact Nat.le_of_eq rfl) (hb hby d6_28) (fun _ _ => ⟨rfl, e16, (by decide : 0 + 0 ≤ _), (by decide : 0 + 0 ≤ _)⟩)
  dsimp only [Pt.U, Pt.locs, Pt.cells, Pt.slots] at X26 l26 y26 z26 st26 hQ26
  subst y26 z26
  obtain ⟨rfl, N26q, e26⟩ := hQ26
  have N26 : Fr n0 L26 := by rw [l26]; exact Fr.app N16 N26q
  refine gs (fun t k => st26 _ k) ?_
  show G (T26.setTop (mkF m 31 #[.val (.ref a0_), .val (.ref a1_), .val (.ref a2_), .val (.ref a3_), .val (.int p4)] [(.ref a3_), (.ref a0_)]))
  obtain ⟨T27, X27, e27, st27⟩ := castY X26 hx hZ hown (hw _ (List.mem_of_getElem? (i := 37) rfl)) e26 (Ins.self E_3_q24) (g := (mkF m 31 #[.val (.ref a0_), .val (.ref a1_), .val (.ref a2_), .val (.ref a3_), .val (.int p4)] [(.ref a3_), (.ref a0_)])) rfl rfl (hb hby d6_31)
  refine gs (fun t k => st27 _ k) ?_
  show G (T27.setTop (mkF m 34 #[.val (.ref a0_), .val (.ref a1_), .val (.ref a2_), .val (.ref a3_), .val (.int p4)] [(.ref a3_), (.ref a0_)]))
  obtain ⟨T28, h28, X28, e28, W28, st28⟩ := putF X27 hx hZ hown (host := "") (Or.inl (hw _ (List.mem_of_getElem? (i := 42) rfl))) Via.refl e27 F_2_q20 E_a_q17 (Or.inr ⟨(hw _ (List.mem_of_getElem? (i := 43) rfl)), rfl, hnm⟩) (hw _ (List.mem_of_getElem? (i := 1) rfl)) (ty := (.object "java/lang/String")) (by decide) rfl rfl (g := (mkF m 34 #[.val (.ref a0_), .val (.ref a1_), .val (.ref a2_), .val (.ref a3_), .val (.int p4)] [(.ref a3_), (.ref a0_)])) rfl rfl (hb hby d6_34)
  have E_a_q29 := E_a_q17.wr W28
  have F_0_q30 := F_0_q18.other W28 (Or.inr (slot_ne (Or.inr (hw _ (List.mem_of_getElem? (i := 39) rfl))) (Or.inr (hw _ (List.mem_of_getElem? (i := 43) rfl))) (by decide) (t := (.object "java/lang/String")) (t' := (.object "java/lang/String")) (by decide) (by decide)))
  have F_1_q31 := F_1_q19.other W28 (Or.inr (slot_ne (Or.inr (hw _ (List.mem_of_getElem? (i := 41) rfl))) (Or.inr (hw _ (List.mem_of_getElem? (i := 43) rfl))) (by decide) (t := (.object "java/lang/String")) (t' := (.object "java/lang/String")) (by decide) (by decide)))
  have F_2_q32 := F_2_q20.same W28
  have F_3_q33 := F_3_q21.other W28 (Or.inr (slot_ne (Or.inr (hw _ (List.mem_of_getElem? (i := 45) rfl))) (Or.inr (hw _ (List.mem_of_getElem? (i := 43) rfl))) (by decide) (t := .int) (t' := (.object "java/lang/String")) (by decide) (by decide)))
  have E_1_q34 := E_1_q22.wr W28
  have E_2_q35 := E_2_q23.wr W28
  have E_3_q36 := E_3_q24.wr W28
  have K37 := K25.wr W28 (Or.inl (List.mem_of_getElem? (i := 0) rfl))
  have N28 := Fr.snoc X28 N26 g_a0_
  refine gs (fun t k => st28 _ k) ?_
  show G (T28.setTop (mkF m 37 #[.val (.ref a0_), .val (.ref a1_), .val (.ref a2_), .val (.ref a3_), .val (.int p4)] []))
  refine gs (fun t k => XS.aloadN X28.here hx rfl (hb hby d6_37) rfl rfl k) ?_
  show G (T28.setTop (mkF m 38 #[.val (.ref a0_), .val (.ref a1_), .val (.ref a2_), .val (.ref a3_), .val (.int p4)] [(.ref a0_)]))
  refine gs (fun t k => XS.iload X28.here hx rfl (hb hby d6_38) rfl k) ?_
  show G (T28.setTop (mkF m 40 #[.val (.ref a0_), .val (.ref a1_), .val (.ref a2_), .val (.ref a3_), .val (.int p4)] [(.int p4), (.ref a0_)]))
  obtain ⟨T38, h38, X38, e38, W38, st38⟩ := putF X28 hx hZ hown (host := "") (Or.inl (hw _ (List.mem_of_getElem? (i := 44) rfl))) Via.refl e28 F_3_q33 E_a_q29 (Or.inr ⟨(hw _ (List.mem_of_getElem? (i := 45) rfl)), rfl, hnm⟩) (hw _ (List.mem_of_getElem? (i := 1) rfl)) (ty := .int) (by decide) rfl rfl (g := (mkF m 40 #[.val (.ref a0_), .val (.ref a1_), .val (.ref a2_), .val (.ref a3_), .val (.int p4)] [(.int p4), (.ref a0_)])) rfl rfl (hb hby d6_40)
  have E_a_q39 := E_a_q29.wr W38
  have F_0_q40 := F_0_q30.other W38 (Or.inr (slot_ne (Or.inr (hw _ (List.mem_of_getElem? (i := 39) rfl))) (Or.inr (hw _ (List.mem_of_getElem? (i := 45) rfl))) (by decide) (t := (.object "java/lang/String")) (t' := .int) (by decide) (by decide)))
  have F_1_q41 := F_1_q31.other W38 (Or.inr (slot_ne (Or.inr (hw _ (List.mem_of_getElem? (i := 41) rfl))) (Or.inr (hw _ (List.mem_of_getElem? (i := 45) rfl))) (by decide) (t := (.object "java/lang/String")) (t' := .int) (by decide) (by decide)))
  have F_2_q42 := F_2_q32.other W38 (Or.inr (slot_ne (Or.inr (hw _ (List.mem_of_getElem? (i := 43) rfl))) (Or.inr (hw _ (List.mem_of_getElem? (i := 45) rfl))) (by decide) (t := (.object "java/lang/String")) (t' := .int) (by decide) (by decide)))
  have F_3_q43 := F_3_q33.same W38
  have E_1_q44 := E_1_q34.wr W38
  have E_2_q45 := E_2_q35.wr W38
  have E_3_q46 := E_3_q36.wr W38
  have K47 := K37.wr W38 (Or.inl (List.mem_of_getElem? (i := 0) rfl))
  have N38 := Fr.snoc X38 N28 g_a0_
  refine gs (fun t k => st38 _ k) ?_
  show G (T38.setTop (mkF m 43 #[.val (.ref a0_), .val (.ref a1_), .val (.ref a2_), .val (.ref a3_), .val (.int p4)] []))
  obtain ⟨fs, hr, hrun, hended, hW, hsame⟩ := X38.leave (v := none) (fun _ => rfl)
  refine gl _ ⟨_, _, X38.returnOut hx Bd.returns (hb hby d6_43) hr, hrun, hended, _, _, rfl, ?_, ⟨_, rfl⟩, hW, hsame.mono (by decide) (by decide)⟩
  show Q6 Z a0_ a1_ a2_ a3_ p4 h0 n0 _ T38.heap _
  rw [e38]
  exact ⟨rfl, N38, K47, E_a_q39, F_0_q40, F_1_q41, F_2_q42, F_3_q43⟩
theorem d10_0 : decode jdk_43_method_13_code 0 = .ok (.aload_n 0, 1) := by decide +kernel
theorem d10_1 : decode jdk_43_method_13_code 1 = .ok (.arraylength, 1) := by decide +kernel
theorem d10_2 : decode jdk_43_method_13_code 2 = .ok (.aload_n 1, 1) := by decide +kernel
theorem d10_3 : decode jdk_43_method_13_code 3 = .ok (.arraylength, 1) := by decide +kernel
theorem d10_4 : decode jdk_43_method_13_code 4 = .ok (.if_icmp .ne 30, 3) := by decide +kernel
theorem d10_7 : decode jdk_43_method_13_code 7 = .ok (.iconst 0, 1) := by decide +kernel
theorem d10_8 : decode jdk_43_method_13_code 8 = .ok (.istore_n 2, 1) := by decide +kernel
theorem d10_9 : decode jdk_43_method_13_code 9 = .ok (.iload_n 2, 1) := by decide +kernel
theorem d10_10 : decode jdk_43_method_13_code 10 = .ok (.aload_n 0, 1) := by decide +kernel
theorem d10_11 : decode jdk_43_method_13_code 11 = .ok (.arraylength, 1) := by decide +kernel
theorem d10_12 : decode jdk_43_method_13_code 12 = .ok (.if_icmp .ge 20, 3) := by decide +kernel
theorem d10_15 : decode jdk_43_method_13_code 15 = .ok (.aload_n 0, 1) := by decide +kernel
theorem d10_16 : decode jdk_43_method_13_code 16 = .ok (.iload_n 2, 1) := by decide +kernel
theorem d10_17 : decode jdk_43_method_13_code 17 = .ok (.baload, 1) := by decide +kernel
theorem d10_18 : decode jdk_43_method_13_code 18 = .ok (.aload_n 1, 1) := by decide +kernel
theorem d10_19 : decode jdk_43_method_13_code 19 = .ok (.iload_n 2, 1) := by decide +kernel
theorem d10_20 : decode jdk_43_method_13_code 20 = .ok (.baload, 1) := by decide +kernel
theorem d10_21 : decode jdk_43_method_13_code 21 = .ok (.if_icmp .eq 5, 3) := by decide +kernel
theorem d10_24 : decode jdk_43_method_13_code 24 = .ok (.iconst 0, 1) := by decide +kernel
theorem d10_25 : decode jdk_43_method_13_code 25 = .ok (.ireturn, 1) := by decide +kernel
theorem d10_26 : decode jdk_43_method_13_code 26 = .ok (.iinc 2 1, 3) := by decide +kernel
theorem d10_29 : decode jdk_43_method_13_code 29 = .ok (.goto (-20), 3) := by decide +kernel
theorem d10_32 : decode jdk_43_method_13_code 32 = .ok (.iconst 1, 1) := by decide +kernel
theorem d10_33 : decode jdk_43_method_13_code 33 = .ok (.ireturn, 1) := by decide +kernel
theorem ef_10 (m : MethodId) (a0_ : Addr) (a1_ : Addr) : entryFrame m #[(.ref a0_), (.ref a1_)] 3 = mkF m 0 #[.val (.ref a0_), .val (.ref a1_), .unset] [] := by first | (simp [entryFrame, mkF, argsToLocals, Value.category]; done) | rfl
def Q10 (x y : Int32) (h0 : Heap) (n0 : Nat) (v : Option Value) (h : Heap) (L : List Loc) : Prop := v = some (.int (own_eq x y)) ∧ Fr n0 L ∧ h = h0
set_option maxRecDepth 65536 in
set_option maxHeartbeats 40000000 in
theorem rm10 (l : Launch) (Z : State) (a0 : Array Value) (hw : ∀ d ∈ tables_1, d.before a0 Z = true) (ws : List Jvm.Cond) (a0_ : Addr) (a1_ : Addr) (x y : Int32) (k1 k2 : ClassId) (h0 : Heap) (n0 : Nat) (Z0 : n0 ≤ h0.size) (V1 : Arv Z h0 a0_ k1 .byte (1 : Int32) [.int x] (.int (0 : Int32))) (V2 : Arv Z h0 a1_ k2 .byte (1 : Int32) [.int y] (.int (0 : Int32))) :
    MetFree l (⟨"java/lang/StringLatin1", "equals", "([B[B)Z"⟩ : MethodName) (head1 (Jvm.Cond.code (⟨"java/lang/StringLatin1", "equals", "([B[B)Z"⟩ : MethodName) jdk_43_method_13_code 3 (some .boolean) :: ws) ({ frames := 0, cells := 0, slots := 0, locals := 0 } : Room)) (fun a U => a = #[(.ref a0_), (.ref a1_)] ∧ Z.Warmed39 U.vm ∧ U.heap = h0) (fun _ _ _ _ _ => True) (fun _ U o U' => ∃ v L, o = .returned v ∧ Q10 x y h0 n0 v U'.heap L ∧ FrameEnd U o U' L ({ frames := 0, cells := 0, slots := 0, locals := 0 } : Room).cells ({ frames := 0, cells := 0, slots := 0, locals := 0 } : Room).slots) := by
  refine MetFree.of_bodySF (plainFor_of_name pn_java_lang_StringLatin1) hisR ?_
  intro p e s m args below meth c s₁ Bd hml0 hP hK
  obtain ⟨rfl, hZ, hh⟩ := hP
  have hx := Bd.exec
  have hby := Bd.bytes
  have hml : c.maxLocals = 3 := hml0
  have hown : s.vm.findClass "java/lang/StringLatin1" = some m.cls := findClass_of_methodNamed Bd.named
  have hnm := (name_of_methodNamed Bd.named Bd.method).1
  have X0 : Stand p l e ({ frames := 0, cells := 0, slots := 0, locals := 0 } : Room) s m #[(.ref a0_), (.ref a1_)] below meth c s₁ [] 0 0 := Stand.of_body Bd
  have e0 : s₁.heap = h0 := by rw [← hh, Bd.state]; rfl
  have N0 := Fr.nil n0
  have pre0 : ∀ t, Steps p.tables e below (s₁.setTop (mkF m 0 #[.val (.ref a0_), .val (.ref a1_), .unset] [])) t → Steps p.tables e below (s₁.setTop (entryFrame m #[(.ref a0_), (.ref a1_)] 3)) t := fun t k => castTop (ef_10 m a0_ a1_) k
  have K0 := Keep.refl h0 []
  refine own_start pre0 fun G gs gl => ?_
  show G (s₁.setTop (mkF m 0 #[.val (.ref a0_), .val (.ref a1_), .unset] []))
  obtain ⟨c1, A1, -, S1, M1, H1, -⟩ := V1
  have hin1 : ¬ ((0 : Int32) < 0 ∨ c1.slots.size ≤ ((0 : Int32)).toNatClampNeg) := inb_of S1 ⟨by decide, by decide⟩
  have hat1 : c1.slots[((0 : Int32)).toNatClampNeg]? = some (.int x) := H1 0 (by rw [S1]; decide)
  obtain ⟨c2, A2, -, S2, M2, H2, -⟩ := V2
  have hin2 : ¬ ((0 : Int32) < 0 ∨ c2.slots.size ≤ ((0 : Int32)).toNatClampNeg) := inb_of S2 ⟨by decide, by decide⟩
  have hat2 : c2.slots[((0 : Int32)).toNatClampNeg]? = some (.int y) := H2 0 (by rw [S2]; decide)
  refine gs (fun t k => XS.aloadN X0.here hx rfl (hb hby d10_0) rfl rfl k) ?_
  show G (s₁.setTop (mkF m 1 #[.val (.ref a0_), .val (.ref a1_), .unset] [(.ref a0_)]))
  refine gs (fun t k => X0.arraylength hx (by rw [e0]; exact A1.1) (State.isArrayOf_alike hZ.alike A1.2.1) (g := (mkF m 1 #[.val (.ref a0_), .val (.ref a1_), .unset] [(.ref a0_)])) rfl rfl (hb hby d10_1) _ k) ?_
  rw [len_of S1 M1]
  show G (s₁.setTop (mkF m 2 #[.val (.ref a0_), .val (.ref a1_), .unset] [(.int (1 : Int32))]))
  refine gs (fun t k => XS.aloadN X0.here hx rfl (hb hby d10_2) rfl rfl k) ?_
  show G (s₁.setTop (mkF m 3 #[.val (.ref a0_), .val (.ref a1_), .unset] [(.ref a1_), (.int (1 : Int32))]))
  refine gs (fun t k => X0.arraylength hx (by rw [e0]; exact A2.1) (State.isArrayOf_alike hZ.alike A2.2.1) (g := (mkF m 3 #[.val (.ref a0_), .val (.ref a1_), .unset] [(.ref a1_), (.int (1 : Int32))])) rfl rfl (hb hby d10_3) _ k) ?_
  rw [len_of S2 M2]
  show G (s₁.setTop (mkF m 4 #[.val (.ref a0_), .val (.ref a1_), .unset] [(.int (1 : Int32)), (.int (1 : Int32))]))
  refine gs (fun t k => XS.icmpNo X0.here hx rfl (hb hby d10_4) rfl (teq (by decide : (1 : Int32) = (1 : Int32))).2 k) ?_
  show G (s₁.setTop (mkF m 7 #[.val (.ref a0_), .val (.ref a1_), .unset] []))
  refine gs (fun t k => XS.iconst X0.here hx rfl (hb hby d10_7) k) ?_
  show G (s₁.setTop (mkF m 8 #[.val (.ref a0_), .val (.ref a1_), .unset] [(.int (0 : Int32))]))
  refine gs (fun t k => XS.istoreN X0.here hx rfl (hb hby d10_8) rfl (l' := #[.val (.ref a0_), .val (.ref a1_), .val (.int (0 : Int32))]) rfl k) ?_
  show G (s₁.setTop (mkF m 9 #[.val (.ref a0_), .val (.ref a1_), .val (.int (0 : Int32))] []))
  refine gs (fun t k => XS.iloadN X0.here hx rfl (hb hby d10_9) rfl k) ?_
  show G (s₁.setTop (mkF m 10 #[.val (.ref a0_), .val (.ref a1_), .val (.int (0 : Int32))] [(.int (0 : Int32))]))
  refine gs (fun t k => XS.aloadN X0.here hx rfl (hb hby d10_10) rfl rfl k) ?_
  show G (s₁.setTop (mkF m 11 #[.val (.ref a0_), .val (.ref a1_), .val (.int (0 : Int32))] [(.ref a0_), (.int (0 : Int32))]))
  refine gs (fun t k => X0.arraylength hx (by rw [e0]; exact A1.1) (State.isArrayOf_alike hZ.alike A1.2.1) (g := (mkF m 11 #[.val (.ref a0_), .val (.ref a1_), .val (.int (0 : Int32))] [(.ref a0_), (.int (0 : Int32))])) rfl rfl (hb hby d10_11) _ k) ?_
  rw [len_of S1 M1]
  show G (s₁.setTop (mkF m 12 #[.val (.ref a0_), .val (.ref a1_), .val (.int (0 : Int32))] [(.int (1 : Int32)), (.int (0 : Int32))]))
  refine gs (fun t k => XS.icmpNo X0.here hx rfl (hb hby d10_12) rfl (tlt (by decide : (0 : Int32) < (1 : Int32))).2.1 k) ?_
  show G (s₁.setTop (mkF m 15 #[.val (.ref a0_), .val (.ref a1_), .val (.int (0 : Int32))] []))
  refine gs (fun t k => XS.aloadN X0.here hx rfl (hb hby d10_15) rfl rfl k) ?_
  show G (s₁.setTop (mkF m 16 #[.val (.ref a0_), .val (.ref a1_), .val (.int (0 : Int32))] [(.ref a0_)]))
  refine gs (fun t k => XS.iloadN X0.here hx rfl (hb hby d10_16) rfl k) ?_
  show G (s₁.setTop (mkF m 17 #[.val (.ref a0_), .val (.ref a1_), .val (.int (0 : Int32))] [(.int (0 : Int32)), (.ref a0_)]))
  refine gs (fun t k => X0.baloadBytes hx (j := (0 : Int32)) (v := (.int x)) (by rw [e0]; exact A1.1) (State.isArrayOf_alike hZ.alike A1.2.1) A1.2.2 hin1 hat1 (g := (mkF m 17 #[.val (.ref a0_), .val (.ref a1_), .val (.int (0 : Int32))] [(.int (0 : Int32)), (.ref a0_)])) rfl rfl (hb hby d10_17) _ k) ?_
  show G (s₁.setTop (mkF m 18 #[.val (.ref a0_), .val (.ref a1_), .val (.int (0 : Int32))] [(.int x)]))
  refine gs (fun t k => XS.aloadN X0.here hx rfl (hb hby d10_18) rfl rfl k) ?_
  show G (s₁.setTop (mkF m 19 #[.val (.ref a0_), .val (.ref a1_), .val (.int (0 : Int32))] [(.ref a1_), (.int x)]))
  refine gs (fun t k => XS.iloadN X0.here hx rfl (hb hby d10_19) rfl k) ?_
  show G (s₁.setTop (mkF m 20 #[.val (.ref a0_), .val (.ref a1_), .val (.int (0 : Int32))] [(.int (0 : Int32)), (.ref a1_), (.int x)]))
  refine gs (fun t k => X0.baloadBytes hx (j := (0 : Int32)) (v := (.int y)) (by rw [e0]; exact A2.1) (State.isArrayOf_alike hZ.alike A2.2.1) A2.2.2 hin2 hat2 (g := (mkF m 20 #[.val (.ref a0_), .val (.ref a1_), .val (.int (0 : Int32))] [(.int (0 : Int32)), (.ref a1_), (.int x)])) rfl rfl (hb hby d10_20) _ k) ?_
  show G (s₁.setTop (mkF m 21 #[.val (.ref a0_), .val (.ref a1_), .val (.int (0 : Int32))] [(.int y), (.int x)]))
  by_cases hc21 : x = y
  · refine gs (fun t k => XS.icmpYes X0.here hx rfl (pc0 := 21) (pc' := 26) rfl (hb hby d10_21) rfl (teq hc21).1 (by decide) (by decide) k) ?_
    show G (s₁.setTop (mkF m 26 #[.val (.ref a0_), .val (.ref a1_), .val (.int (0 : Int32))] []))
    refine gs (fun t k => XS.iinc X0.here hx rfl (hb hby d10_26) rfl (l' := #[.val (.ref a0_), .val (.ref a1_), .val (.int (1 : Int32))]) rfl k) ?_
    show G (s₁.setTop (mkF m 29 #[.val (.ref a0_), .val (.ref a1_), .val (.int (1 : Int32))] []))
    refine gs (fun t k => XS.goto X0.here hx rfl (pc0 := 29) (pc' := 9) rfl (hb hby d10_29) (by decide) (by decide) k) ?_
    show G (s₁.setTop (mkF m 9 #[.val (.ref a0_), .val (.ref a1_), .val (.int (1 : Int32))] []))
    refine gs (fun t k => XS.iloadN X0.here hx rfl (hb hby d10_9) rfl k) ?_
    show G (s₁.setTop (mkF m 10 #[.val (.ref a0_), .val (.ref a1_), .val (.int (1 : Int32))] [(.int (1 : Int32))]))
    refine gs (fun t k => XS.aloadN X0.here hx rfl (hb hby d10_10) rfl rfl k) ?_
    show G (s₁.setTop (mkF m 11 #[.val (.ref a0_), .val (.ref a1_), .val (.int (1 : Int32))] [(.ref a0_), (.int (1 : Int32))]))
    refine gs (fun t k => X0.arraylength hx (by rw [e0]; exact A1.1) (State.isArrayOf_alike hZ.alike A1.2.1) (g := (mkF m 11 #[.val (.ref a0_), .val (.ref a1_), .val (.int (1 : Int32))] [(.ref a0_), (.int (1 : Int32))])) rfl rfl (hb hby d10_11) _ k) ?_
    rw [len_of S1 M1]
    show G (s₁.setTop (mkF m 12 #[.val (.ref a0_), .val (.ref a1_), .val (.int (1 : Int32))] [(.int (1 : Int32)), (.int (1 : Int32))]))
    refine gs (fun t k => XS.icmpYes X0.here hx rfl (pc0 := 12) (pc' := 32) rfl (hb hby d10_12) rfl (flt (by decide : ¬ ((1 : Int32) < (1 : Int32)))).2.1 (by decide) (by decide) k) ?_
    show G (s₁.setTop (mkF m 32 #[.val (.ref a0_), .val (.ref a1_), .val (.int (1 : Int32))] []))
    refine gs (fun t k => XS.iconst X0.here hx rfl (hb hby d10_32) k) ?_
    show G (s₁.setTop (mkF m 33 #[.val (.ref a0_), .val (.ref a1_), .val (.int (1 : Int32))] [(.int (1 : Int32))]))
    obtain ⟨fs, hr, hrun, hended, hW, hsame⟩ := X0.leave (v := some (.int (1 : Int32))) (fun h => by rw [Bd.returns] at h; cases h)
    refine gl _ ⟨_, _, retN X0 hx (t := .boolean) Bd.returns (by simp) (hb hby d10_33) hr, hrun, hended, _, _, rfl, ?_, ⟨_, rfl⟩, hW, hsame.mono (by decide) (by decide)⟩
    show Q10 x y h0 n0 _ s₁.heap _
    rw [e0]
    exact ⟨congrArg (fun z => some (Value.int z)) (by simp [own_eq, hc21]), N0, rfl⟩
  · refine gs (fun t k => XS.icmpNo X0.here hx rfl (hb hby d10_21) rfl (feq hc21).1 k) ?_
    show G (s₁.setTop (mkF m 24 #[.val (.ref a0_), .val (.ref a1_), .val (.int (0 : Int32))] []))
    refine gs (fun t k => XS.iconst X0.here hx rfl (hb hby d10_24) k) ?_
    show G (s₁.setTop (mkF m 25 #[.val (.ref a0_), .val (.ref a1_), .val (.int (0 : Int32))] [(.int (0 : Int32))]))
    obtain ⟨fs, hr, hrun, hended, hW, hsame⟩ := X0.leave (v := some (.int (0 : Int32))) (fun h => by rw [Bd.returns] at h; cases h)
    refine gl _ ⟨_, _, retN X0 hx (t := .boolean) Bd.returns (by simp) (hb hby d10_25) hr, hrun, hended, _, _, rfl, ?_, ⟨_, rfl⟩, hW, hsame.mono (by decide) (by decide)⟩
    show Q10 x y h0 n0 _ s₁.heap _
    rw [e0]
    exact ⟨congrArg (fun z => some (Value.int z)) (by simp [own_eq, hc21]), N0, rfl⟩
theorem pd_4 : parseMethodDescriptor "([B[B)Z" = some ⟨[(.array .byte), (.array .byte)], some .boolean⟩ := by decide +kernel
theorem d9_0 : decode jdk_42_method_66_code 0 = .ok (.aload_n 0, 1) := by decide +kernel
theorem d9_1 : decode jdk_42_method_66_code 1 = .ok (.aload_n 1, 1) := by decide +kernel
theorem d9_2 : decode jdk_42_method_66_code 2 = .ok (.if_acmp .ne 5, 3) := by decide +kernel
theorem d9_5 : decode jdk_42_method_66_code 5 = .ok (.iconst 1, 1) := by decide +kernel
theorem d9_6 : decode jdk_42_method_66_code 6 = .ok (.ireturn, 1) := by decide +kernel
theorem d9_7 : decode jdk_42_method_66_code 7 = .ok (.aload_n 1, 1) := by decide +kernel
theorem d9_8 : decode jdk_42_method_66_code 8 = .ok (.instanceof 10, 3) := by decide +kernel
theorem d9_11 : decode jdk_42_method_66_code 11 = .ok (.ifCond .eq 43, 3) := by decide +kernel
theorem d9_14 : decode jdk_42_method_66_code 14 = .ok (.aload_n 1, 1) := by decide +kernel
theorem d9_15 : decode jdk_42_method_66_code 15 = .ok (.checkcast 10, 3) := by decide +kernel
theorem d9_18 : decode jdk_42_method_66_code 18 = .ok (.astore_n 2, 1) := by decide +kernel
theorem d9_19 : decode jdk_42_method_66_code 19 = .ok (.getstatic 38, 3) := by decide +kernel
theorem d9_22 : decode jdk_42_method_66_code 22 = .ok (.ifCond .eq 14, 3) := by decide +kernel
theorem d9_25 : decode jdk_42_method_66_code 25 = .ok (.aload_n 0, 1) := by decide +kernel
theorem d9_26 : decode jdk_42_method_66_code 26 = .ok (.getfield 15, 3) := by decide +kernel
theorem d9_29 : decode jdk_42_method_66_code 29 = .ok (.aload_n 2, 1) := by decide +kernel
theorem d9_30 : decode jdk_42_method_66_code 30 = .ok (.getfield 15, 3) := by decide +kernel
theorem d9_33 : decode jdk_42_method_66_code 33 = .ok (.if_icmp .ne 21, 3) := by decide +kernel
theorem d9_36 : decode jdk_42_method_66_code 36 = .ok (.aload_n 0, 1) := by decide +kernel
theorem d9_37 : decode jdk_42_method_66_code 37 = .ok (.getfield 9, 3) := by decide +kernel
theorem d9_40 : decode jdk_42_method_66_code 40 = .ok (.aload_n 2, 1) := by decide +kernel
theorem d9_41 : decode jdk_42_method_66_code 41 = .ok (.getfield 9, 3) := by decide +kernel
theorem d9_44 : decode jdk_42_method_66_code 44 = .ok (.invokestatic 541, 3) := by decide +kernel
theorem d9_47 : decode jdk_42_method_66_code 47 = .ok (.ifCond .eq 7, 3) := by decide +kernel
theorem d9_50 : decode jdk_42_method_66_code 50 = .ok (.iconst 1, 1) := by decide +kernel
theorem d9_51 : decode jdk_42_method_66_code 51 = .ok (.goto 4, 3) := by decide +kernel
theorem d9_54 : decode jdk_42_method_66_code 54 = .ok (.iconst 0, 1) := by decide +kernel
theorem d9_55 : decode jdk_42_method_66_code 55 = .ok (.ireturn, 1) := by decide +kernel
theorem ef_9 (m : MethodId) (a0_ : Addr) (a1_ : Addr) : entryFrame m #[(.ref a0_), (.ref a1_)] 3 = mkF m 0 #[.val (.ref a0_), .val (.ref a1_), .unset] [] := by first | (simp [entryFrame, mkF, argsToLocals, Value.category]; done) | rfl
def Q9 (x y : Int32) (h0 : Heap) (n0 : Nat) (v : Option Value) (h : Heap) (L : List Loc) : Prop := v = some (.int (own_eq x y)) ∧ Fr n0 L ∧ h = h0
set_option maxRecDepth 65536 in
set_option maxHeartbeats 40000000 in
theorem rm9 (l : Launch) (Z : State) (a0 : Array Value) (hw : ∀ d ∈ tables_1, d.before a0 Z = true) (ws : List Jvm.Cond) (a0_ : Addr) (a1_ : Addr) (x y cs : Int32) (h0 : Heap) (n0 : Nat) (Z0 : n0 ≤ h0.size) (SC : Sta Z h0 "java/lang/String" "COMPACT_STRINGS" "Z" (.int cs)) (hcs : ¬ cs = (0 : Int32)) (U1 : own_Str Z h0 a0_ x) (U2 : own_Str Z h0 a1_ y) :
    MetFree l (⟨"java/lang/String", "equals", "(Ljava/lang/Object;)Z"⟩ : MethodName) (head1 (Jvm.Cond.code (⟨"java/lang/String", "equals", "(Ljava/lang/Object;)Z"⟩ : MethodName) jdk_42_method_66_code 3 (some .boolean) :: ws) ({ frames := 1, cells := 0, slots := 0, locals := 14 } : Room)) (fun a U => a = #[(.ref a0_), (.ref a1_)] ∧ Z.Warmed39 U.vm ∧ U.heap = h0) (fun _ _ _ _ _ => True) (fun _ U o U' => ∃ v L, o = .returned v ∧ Q9 x y h0 n0 v U'.heap L ∧ FrameEnd U o U' L ({ frames := 1, cells := 0, slots := 0, locals := 14 } : Room).cells ({ frames := 1, cells := 0, slots := 0, locals := 14 } : Room).slots) := by
  refine MetFree.of_bodySF (plainFor_of_name pn_java_lang_String) hisR ?_
  intro p e s m args below meth c s₁ Bd hml0 hP hK
  obtain ⟨rfl, hZ, hh⟩ := hP
  have hx := Bd.exec
  have hby := Bd.bytes
  have hml : c.maxLocals = 3 := hml0
  have hown : s.vm.findClass "java/lang/String" = some m.cls := findClass_of_methodNamed Bd.named
  have hnm := (name_of_methodNamed Bd.named Bd.method).1
  have X0 : Stand p l e ({ frames := 1, cells := 0, slots := 0, locals := 14 } : Room) s m #[(.ref a0_), (.ref a1_)] below meth c s₁ [] 0 0 := Stand.of_body Bd
  have e0 : s₁.heap = h0 := by rw [← hh, Bd.state]; rfl
  have N0 := Fr.nil n0
  have pre0 : ∀ t, Steps p.tables e below (s₁.setTop (mkF m 0 #[.val (.ref a0_), .val (.ref a1_), .unset] [])) t → Steps p.tables e below (s₁.setTop (entryFrame m #[(.ref a0_), (.ref a1_)] 3)) t := fun t k => castTop (ef_9 m a0_ a1_) k
  have K0 := Keep.refl h0 []
  refine own_start pre0 fun G gs gl => ?_
  show G (s₁.setTop (mkF m 0 #[.val (.ref a0_), .val (.ref a1_), .unset] []))
  have U1' := U1
  obtain ⟨t1, k1, E1, Fv1, Fc1, V1⟩ := U1'
  have U2' := U2
  obtain ⟨t2, k2, E2, Fv2, Fc2, V2⟩ := U2'
  show G (s₁.setTop (mkF m 0 #[.val (.ref a0_), .val (.ref a1_), .unset] []))
  refine gs (fun t k => XS.aloadN X0.here hx rfl (hb hby d9_0) rfl rfl k) ?_
  show G (s₁.setTop (mkF m 1 #[.val (.ref a0_), .val (.ref a1_), .unset] [(.ref a0_)]))
  refine gs (fun t k => XS.aloadN X0.here hx rfl (hb hby d9_1) rfl rfl k) ?_
  show G (s₁.setTop (mkF m 2 #[.val (.ref a0_), .val (.ref a1_), .unset] [(.ref a1_), (.ref a0_)]))
  by_cases ha2 : a0_ = a1_
  · refine gs (fun t k => Jvm.RoadKit.acmp (g := (mkF m 2 #[.val (.ref a0_), .val (.ref a1_), .unset] [(.ref a1_), (.ref a0_)])) X0 hx rfl rfl rfl (pc0 := 2) (pc' := 5) (same := true) rfl (hb hby d9_2) rfl (decide_eq_true (congrArg Value.ref ha2)) (by decide) (by decide) k) ?_
    show G (s₁.setTop (mkF m 5 #[.val (.ref a0_), .val (.ref a1_), .unset] []))
    refine gs (fun t k => XS.iconst X0.here hx rfl (hb hby d9_5) k) ?_
    show G (s₁.setTop (mkF m 6 #[.val (.ref a0_), .val (.ref a1_), .unset] [(.int (1 : Int32))]))
    obtain ⟨fs, hr, hrun, hended, hW, hsame⟩ := X0.leave (v := some (.int (1 : Int32))) (fun h => by rw [Bd.returns] at h; cases h)
    refine gl _ ⟨_, _, retN X0 hx (t := .boolean) Bd.returns (by simp) (hb hby d9_6) hr, hrun, hended, _, _, rfl, ?_, ⟨_, rfl⟩, hW, hsame.mono (by decide) (by decide)⟩
    show Q9 x y h0 n0 _ s₁.heap _
    rw [e0]
    subst ha2
    exact ⟨congrArg (fun z => some (Value.int z)) (by simp [own_eq, own_str_fun U1 U2]), N0, rfl⟩
  · refine gs (fun t k => Jvm.RoadKit.acmp (g := (mkF m 2 #[.val (.ref a0_), .val (.ref a1_), .unset] [(.ref a1_), (.ref a0_)])) X0 hx rfl rfl rfl (pc0 := 2) (pc' := 7) (same := false) rfl (hb hby d9_2) rfl (decide_eq_false fun q => ha2 (Value.ref.inj q)) (by decide) (by decide) k) ?_
    show G (s₁.setTop (mkF m 7 #[.val (.ref a0_), .val (.ref a1_), .unset] []))
    refine gs (fun t k => XS.aloadN X0.here hx rfl (hb hby d9_7) rfl rfl k) ?_
    show G (s₁.setTop (mkF m 8 #[.val (.ref a0_), .val (.ref a1_), .unset] [(.ref a1_)]))
    obtain ⟨T1, X1, e1, st1⟩ := instY X0 hx hZ hown (hw _ (List.mem_of_getElem? (i := 12) rfl)) e0 (Ins.self E2) (g := (mkF m 8 #[.val (.ref a0_), .val (.ref a1_), .unset] [(.ref a1_)])) rfl rfl (hb hby d9_8)
    refine gs (fun t k => st1 _ k) ?_
    show G (T1.setTop (mkF m 11 #[.val (.ref a0_), .val (.ref a1_), .unset] [(.int (1 : Int32))]))
    refine gs (fun t k => XS.ifNo X1.here hx rfl (hb hby d9_11) rfl ((if0 _ _).trans (feq (by decide : ¬ ((1 : Int32) = (0 : Int32)))).1) k) ?_
    show G (T1.setTop (mkF m 14 #[.val (.ref a0_), .val (.ref a1_), .unset] []))
    refine gs (fun t k => XS.aloadN X1.here hx rfl (hb hby d9_14) rfl rfl k) ?_
    show G (T1.setTop (mkF m 15 #[.val (.ref a0_), .val (.ref a1_), .unset] [(.ref a1_)]))
    obtain ⟨T2, X2, e2, st2⟩ := castY X1 hx hZ hown (hw _ (List.mem_of_getElem? (i := 12) rfl)) e1 (Ins.self E2) (g := (mkF m 15 #[.val (.ref a0_), .val (.ref a1_), .unset] [(.ref a1_)])) rfl rfl (hb hby d9_15)
    refine gs (fun t k => st2 _ k) ?_
    show G (T2.setTop (mkF m 18 #[.val (.ref a0_), .val (.ref a1_), .unset] [(.ref a1_)]))
    refine gs (fun t k => XS.astoreN X2.here hx rfl (hb hby d9_18) rfl rfl (l' := #[.val (.ref a0_), .val (.ref a1_), .val (.ref a1_)]) rfl k) ?_
    show G (T2.setTop (mkF m 19 #[.val (.ref a0_), .val (.ref a1_), .val (.ref a1_)] []))
    obtain ⟨T3, X3, e3, st3⟩ := getS2 X2 hx hZ hown (host := "") (Or.inl (hw _ (List.mem_of_getElem? (i := 7) rfl))) Via.refl e2 SC (g := (mkF m 19 #[.val (.ref a0_), .val (.ref a1_), .val (.ref a1_)] [])) rfl (hb hby d9_19)
    refine gs (fun t k => st3 _ k) ?_
    show G (T3.setTop (mkF m 22 #[.val (.ref a0_), .val (.ref a1_), .val (.ref a1_)] [(.int cs)]))
    refine gs (fun t k => XS.ifNo X3.here hx rfl (hb hby d9_22) rfl ((if0 _ _).trans (feq hcs).1) k) ?_
    show G (T3.setTop (mkF m 25 #[.val (.ref a0_), .val (.ref a1_), .val (.ref a1_)] []))
    refine gs (fun t k => XS.aloadN X3.here hx rfl (hb hby d9_25) rfl rfl k) ?_
    show G (T3.setTop (mkF m 26 #[.val (.ref a0_), .val (.ref a1_), .val (.ref a1_)] [(.ref a0_)]))
    obtain ⟨T4, X4, e4, st4⟩ := getF X3 hx hZ hown (host := "") (Or.inl (hw _ (List.mem_of_getElem? (i := 27) rfl))) Via.refl e3 Fc1 (g := (mkF m 26 #[.val (.ref a0_), .val (.ref a1_), .val (.ref a1_)] [(.ref a0_)])) rfl rfl (hb hby d9_26)
    refine gs (fun t k => st4 _ k) ?_
    show G (T4.setTop (mkF m 29 #[.val (.ref a0_), .val (.ref a1_), .val (.ref a1_)] [(.int (0 : Int32))]))
    refine gs (fun t k => XS.aloadN X4.here hx rfl (hb hby d9_29) rfl rfl k) ?_
    show G (T4.setTop (mkF m 30 #[.val (.ref a0_), .val (.ref a1_), .val (.ref a1_)] [(.ref a1_), (.int (0 : Int32))]))
    obtain ⟨T5, X5, e5, st5⟩ := getF X4 hx hZ hown (host := "") (Or.inl (hw _ (List.mem_of_getElem? (i := 27) rfl))) Via.refl e4 Fc2 (g := (mkF m 30 #[.val (.ref a0_), .val (.ref a1_), .val (.ref a1_)] [(.ref a1_), (.int (0 : Int32))])) rfl rfl (hb hby d9_30)
    refine gs (fun t k => st5 _ k) ?_
    show G (T5.setTop (mkF m 33 #[.val (.ref a0_), .val (.ref a1_), .val (.ref a1_)] [(.int (0 : Int32)), (.int (0 : Int32))]))
    refine gs (fun t k => XS.icmpNo X5.here hx rfl (hb hby d9_33) rfl (teq (by decide : (0 : Int32) = (0 : Int32))).2 k) ?_
    show G (T5.setTop (mkF m 36 #[.val (.ref a0_), .val (.ref a1_), .val (.ref a1_)] []))
    refine gs (fun t k => XS.aloadN X5.here hx rfl (hb hby d9_36) rfl rfl k) ?_
    show G (T5.setTop (mkF m 37 #[.val (.ref a0_), .val (.ref a1_), .val (.ref a1_)] [(.ref a0_)]))
    obtain ⟨T6, X6, e6, st6⟩ := getF X5 hx hZ hown (host := "") (Or.inl (hw _ (List.mem_of_getElem? (i := 25) rfl))) Via.refl e5 Fv1 (g := (mkF m 37 #[.val (.ref a0_), .val (.ref a1_), .val (.ref a1_)] [(.ref a0_)])) rfl rfl (hb hby d9_37)
    refine gs (fun t k => st6 _ k) ?_
    show G (T6.setTop (mkF m 40 #[.val (.ref a0_), .val (.ref a1_), .val (.ref a1_)] [(.ref t1)]))
    refine gs (fun t k => XS.aloadN X6.here hx rfl (hb hby d9_40) rfl rfl k) ?_
    show G (T6.setTop (mkF m 41 #[.val (.ref a0_), .val (.ref a1_), .val (.ref a1_)] [(.ref a1_), (.ref t1)]))
    obtain ⟨T7, X7, e7, st7⟩ := getF X6 hx hZ hown (host := "") (Or.inl (hw _ (List.mem_of_getElem? (i := 25) rfl))) Via.refl e6 Fv2 (g := (mkF m 41 #[.val (.ref a0_), .val (.ref a1_), .val (.ref a1_)] [(.ref a1_), (.ref t1)])) rfl rfl (hb hby d9_41)
    refine gs (fun t k => st7 _ k) ?_
    show G (T7.setTop (mkF m 44 #[.val (.ref a0_), .val (.ref a1_), .val (.ref a1_)] [(.ref t2), (.ref t1)]))
    obtain ⟨_, _, ⟨T8, L8, k8, n8⟩, -, X8, ⟨Lc8, hQ8, l8, y8, z8⟩, st8⟩ := Jvm.LawKit.callS X7 hx (y := (⟨"java/lang/StringLatin1", "equals", "([B[B)Z"⟩ : MethodName)) hown (mvT hZ (hw _ (List.mem_of_getElem? (i := 58) rfl))) (mvT hZ (hw _ (List.mem_of_getElem? (i := 59) rfl))) (mvT hZ (hw _ (List.mem_of_getElem? (i := 10) rfl))) (mvT hZ (hw _ (List.mem_of_getElem? (i := 60) rfl))) (by decide) (backOf (W := 0) (rm10 l Z a0 hw [] t1 t2 x y k1 k2 h0 n0 Z0 V1 V2) hZ (hw _ (List.mem_of_getElem? (i := 60) rfl)) (hw _ (List.mem_of_getElem? (i := 10) rfl)) (by decide) (by decide)) (g := (mkF m 44 #[.val (.ref a0_), .val (.ref a1_), .val (.ref a1_)] [(.ref t2), (.ref t1)])) rfl (by rw [hml]; rfl) (argsL := [(.ref t1), (.ref t2)]) (rest := []) (lenOf pd_4 rfl) rfl (by show 2 * 0 + _ ≤ _; exact Nat.le_of_eq rfl) (hb hby d9_44) (fun _ _ => ⟨rfl, e7, (by decide : 0 + 0 ≤ _), (by decide : 0 + 0 ≤ _)⟩)
    dsimp only [Pt.U, Pt.locs, Pt.cells, Pt.slots] at X8 l8 y8 z8 st8 hQ8
    subst y8 z8
    obtain ⟨rfl, N8q, e8⟩ := hQ8
    have N8 : Fr n0 L8 := by rw [l8]; exact Fr.app N0 N8q
    refine gs (fun t k => st8 _ k) ?_
    show G (T8.setTop (mkF m 47 #[.val (.ref a0_), .val (.ref a1_), .val (.ref a1_)] [(.int (own_eq x y))]))
    by_cases hc47 : (own_eq x y) = (0 : Int32)
    · refine gs (fun t k => XS.ifYes X8.here hx rfl (pc0 := 47) (pc' := 54) rfl (hb hby d9_47) rfl ((if0 _ _).trans (teq hc47).1) (by decide) (by decide) k) ?_
      show G (T8.setTop (mkF m 54 #[.val (.ref a0_), .val (.ref a1_), .val (.ref a1_)] []))
      refine gs (fun t k => XS.iconst X8.here hx rfl (hb hby d9_54) k) ?_
      show G (T8.setTop (mkF m 55 #[.val (.ref a0_), .val (.ref a1_), .val (.ref a1_)] [(.int (0 : Int32))]))
      obtain ⟨fs, hr, hrun, hended, hW, hsame⟩ := X8.leave (v := some (.int (0 : Int32))) (fun h => by rw [Bd.returns] at h; cases h)
      refine gl _ ⟨_, _, retN X8 hx (t := .boolean) Bd.returns (by simp) (hb hby d9_55) hr, hrun, hended, _, _, rfl, ?_, ⟨_, rfl⟩, hW, hsame.mono (by decide) (by decide)⟩
      show Q9 x y h0 n0 _ T8.heap _
      rw [e8]
      have f0 := own_eq0.mp hc47
      exact ⟨congrArg (fun z => some (Value.int z)) (by simp [own_eq, f0]), N8, rfl⟩
    · refine gs (fun t k => XS.ifNo X8.here hx rfl (hb hby d9_47) rfl ((if0 _ _).trans (feq hc47).1) k) ?_
      show G (T8.setTop (mkF m 50 #[.val (.ref a0_), .val (.ref a1_), .val (.ref a1_)] []))
      refine gs (fun t k => XS.iconst X8.here hx rfl (hb hby d9_50) k) ?_
      show G (T8.setTop (mkF m 51 #[.val (.ref a0_), .val (.ref a1_), .val (.ref a1_)] [(.int (1 : Int32))]))
      refine gs (fun t k => XS.goto X8.here hx rfl (pc0 := 51) (pc' := 55) rfl (hb hby d9_51) (by decide) (by decide) k) ?_
      show G (T8.setTop (mkF m 55 #[.val (.ref a0_), .val (.ref a1_), .val (.ref a1_)] [(.int (1 : Int32))]))
      obtain ⟨fs, hr, hrun, hended, hW, hsame⟩ := X8.leave (v := some (.int (1 : Int32))) (fun h => by rw [Bd.returns] at h; cases h)
      refine gl _ ⟨_, _, retN X8 hx (t := .boolean) Bd.returns (by simp) (hb hby d9_55) hr, hrun, hended, _, _, rfl, ?_, ⟨_, rfl⟩, hW, hsame.mono (by decide) (by decide)⟩
      show Q9 x y h0 n0 _ T8.heap _
      rw [e8]
      have f0 := own_eq1.mp hc47
      exact ⟨congrArg (fun z => some (Value.int z)) (by simp [own_eq, f0]), N8, rfl⟩
theorem pd_5 : parseMethodDescriptor "(Ljava/lang/Object;)Z" = some ⟨[(.object "java/lang/Object")], some .boolean⟩ := by decide +kernel
theorem d8_0 : decode prog_55_method_9_code 0 = .ok (.aload_n 1, 1) := by decide +kernel
theorem d8_1 : decode prog_55_method_9_code 1 = .ok (.instanceof 16, 3) := by decide +kernel
theorem d8_4 : decode prog_55_method_9_code 4 = .ok (.ifCond .eq 65, 3) := by decide +kernel
theorem d8_7 : decode prog_55_method_9_code 7 = .ok (.aload_n 1, 1) := by decide +kernel
theorem d8_8 : decode prog_55_method_9_code 8 = .ok (.checkcast 16, 3) := by decide +kernel
theorem d8_11 : decode prog_55_method_9_code 11 = .ok (.astore_n 2, 1) := by decide +kernel
theorem d8_12 : decode prog_55_method_9_code 12 = .ok (.aload_n 0, 1) := by decide +kernel
theorem d8_13 : decode prog_55_method_9_code 13 = .ok (.getfield 15, 3) := by decide +kernel
theorem d8_16 : decode prog_55_method_9_code 16 = .ok (.aload_n 2, 1) := by decide +kernel
theorem d8_17 : decode prog_55_method_9_code 17 = .ok (.getfield 15, 3) := by decide +kernel
theorem d8_20 : decode prog_55_method_9_code 20 = .ok (.invokevirtual 76, 3) := by decide +kernel
theorem d8_23 : decode prog_55_method_9_code 23 = .ok (.ifCond .eq 46, 3) := by decide +kernel
theorem d8_26 : decode prog_55_method_9_code 26 = .ok (.aload_n 0, 1) := by decide +kernel
theorem d8_27 : decode prog_55_method_9_code 27 = .ok (.getfield 21, 3) := by decide +kernel
theorem d8_30 : decode prog_55_method_9_code 30 = .ok (.aload_n 2, 1) := by decide +kernel
theorem d8_31 : decode prog_55_method_9_code 31 = .ok (.getfield 21, 3) := by decide +kernel
theorem d8_34 : decode prog_55_method_9_code 34 = .ok (.invokevirtual 76, 3) := by decide +kernel
theorem d8_37 : decode prog_55_method_9_code 37 = .ok (.ifCond .eq 32, 3) := by decide +kernel
theorem d8_40 : decode prog_55_method_9_code 40 = .ok (.aload_n 0, 1) := by decide +kernel
theorem d8_41 : decode prog_55_method_9_code 41 = .ok (.getfield 24, 3) := by decide +kernel
theorem d8_44 : decode prog_55_method_9_code 44 = .ok (.aload_n 2, 1) := by decide +kernel
theorem d8_45 : decode prog_55_method_9_code 45 = .ok (.getfield 24, 3) := by decide +kernel
theorem d8_48 : decode prog_55_method_9_code 48 = .ok (.invokevirtual 76, 3) := by decide +kernel
theorem d8_51 : decode prog_55_method_9_code 51 = .ok (.ifCond .eq 18, 3) := by decide +kernel
theorem d8_54 : decode prog_55_method_9_code 54 = .ok (.aload_n 0, 1) := by decide +kernel
theorem d8_55 : decode prog_55_method_9_code 55 = .ok (.getfield 27, 3) := by decide +kernel
theorem d8_58 : decode prog_55_method_9_code 58 = .ok (.aload_n 2, 1) := by decide +kernel
theorem d8_59 : decode prog_55_method_9_code 59 = .ok (.getfield 27, 3) := by decide +kernel
theorem d8_62 : decode prog_55_method_9_code 62 = .ok (.if_icmp .ne 7, 3) := by decide +kernel
theorem d8_65 : decode prog_55_method_9_code 65 = .ok (.iconst 1, 1) := by decide +kernel
theorem d8_66 : decode prog_55_method_9_code 66 = .ok (.goto 4, 3) := by decide +kernel
theorem d8_69 : decode prog_55_method_9_code 69 = .ok (.iconst 0, 1) := by decide +kernel
theorem d8_70 : decode prog_55_method_9_code 70 = .ok (.ireturn, 1) := by decide +kernel
theorem ef_8 (m : MethodId) (a0_ : Addr) (a1_ : Addr) : entryFrame m #[(.ref a0_), (.ref a1_)] 3 = mkF m 0 #[.val (.ref a0_), .val (.ref a1_), .unset] [] := by first | (simp [entryFrame, mkF, argsToLocals, Value.category]; done) | rfl
def Q8 (r : Int32) (h0 : Heap) (n0 : Nat) (v : Option Value) (h : Heap) (L : List Loc) : Prop := v = some (.int r) ∧ Fr n0 L ∧ h = h0
set_option maxRecDepth 65536 in
set_option maxHeartbeats 40000000 in
theorem rm8 (l : Launch) (Z : State) (a0 : Array Value) (hw : ∀ d ∈ tables_1, d.before a0 Z = true) (ws : List Jvm.Cond) (a0_ : Addr) (a1_ : Addr) (x1 x2 x3 g y1 y2 y3 g' cs : Int32) (h0 : Heap) (n0 : Nat) (Z0 : n0 ≤ h0.size) (SC : Sta Z h0 "java/lang/String" "COMPACT_STRINGS" "Z" (.int cs)) (hcs : ¬ cs = (0 : Int32)) (J1 : own_Jud Z h0 a0_ x1 x2 x3 g) (J2 : own_Jud Z h0 a1_ y1 y2 y3 g') :
    MetFree l (⟨"com/example/consensus_to_coverage/consensustocoverage/trecfiles/Judgement", "equals", "(Ljava/lang/Object;)Z"⟩ : MethodName) (head1 (Jvm.Cond.code (⟨"com/example/consensus_to_coverage/consensustocoverage/trecfiles/Judgement", "equals", "(Ljava/lang/Object;)Z"⟩ : MethodName) prog_55_method_9_code 3 (some .boolean) :: ws) ({ frames := 2, cells := 0, slots := 0, locals := 28 } : Room)) (fun a U => a = #[(.ref a0_), (.ref a1_)] ∧ Z.Warmed39 U.vm ∧ U.heap = h0) (fun _ _ _ _ _ => True) (fun _ U o U' => ∃ v L, o = .returned v ∧ Q8 (own_jeq x1 x2 x3 g y1 y2 y3 g') h0 n0 v U'.heap L ∧ FrameEnd U o U' L ({ frames := 2, cells := 0, slots := 0, locals := 28 } : Room).cells ({ frames := 2, cells := 0, slots := 0, locals := 28 } : Room).slots) := by
  refine MetFree.of_bodySF (plainFor_of_name pn_com_example_consensus_to_coverage_consensustocoverage_trecfiles_Judgement) hisR ?_
  intro p e s m args below meth c s₁ Bd hml0 hP hK
  obtain ⟨rfl, hZ, hh⟩ := hP
  have hx := Bd.exec
  have hby := Bd.bytes
  have hml : c.maxLocals = 3 := hml0
  have hown : s.vm.findClass "com/example/consensus_to_coverage/consensustocoverage/trecfiles/Judgement" = some m.cls := findClass_of_methodNamed Bd.named
  have hnm := (name_of_methodNamed Bd.named Bd.method).1
  have X0 : Stand p l e ({ frames := 2, cells := 0, slots := 0, locals := 28 } : Room) s m #[(.ref a0_), (.ref a1_)] below meth c s₁ [] 0 0 := Stand.of_body Bd
  have e0 : s₁.heap = h0 := by rw [← hh, Bd.state]; rfl
  have N0 := Fr.nil n0
  have pre0 : ∀ t, Steps p.tables e below (s₁.setTop (mkF m 0 #[.val (.ref a0_), .val (.ref a1_), .unset] [])) t → Steps p.tables e below (s₁.setTop (entryFrame m #[(.ref a0_), (.ref a1_)] 3)) t := fun t k => castTop (ef_8 m a0_ a1_) k
  have K0 := Keep.refl h0 []
  refine own_start pre0 fun G gs gl => ?_
  show G (s₁.setTop (mkF m 0 #[.val (.ref a0_), .val (.ref a1_), .unset] []))
  obtain ⟨s1, s2, s3, E1, F11, F12, F13, F14, U11, U12, U13⟩ := J1
  obtain ⟨tt11, kk11, EE11, -⟩ := id U11
  obtain ⟨tt12, kk12, EE12, -⟩ := id U12
  obtain ⟨tt13, kk13, EE13, -⟩ := id U13
  obtain ⟨r1, r2, r3, E2, F21, F22, F23, F24, U21, U22, U23⟩ := J2
  obtain ⟨tt21, kk21, EE21, -⟩ := id U21
  obtain ⟨tt22, kk22, EE22, -⟩ := id U22
  obtain ⟨tt23, kk23, EE23, -⟩ := id U23
  show G (s₁.setTop (mkF m 0 #[.val (.ref a0_), .val (.ref a1_), .unset] []))
  refine gs (fun t k => XS.aloadN X0.here hx rfl (hb hby d8_0) rfl rfl k) ?_
  show G (s₁.setTop (mkF m 1 #[.val (.ref a0_), .val (.ref a1_), .unset] [(.ref a1_)]))
  obtain ⟨T1, X1, e1, st1⟩ := instY X0 hx hZ hown (hw _ (List.mem_of_getElem? (i := 51) rfl)) e0 (Ins.self E2) (g := (mkF m 1 #[.val (.ref a0_), .val (.ref a1_), .unset] [(.ref a1_)])) rfl rfl (hb hby d8_1)
  refine gs (fun t k => st1 _ k) ?_
  show G (T1.setTop (mkF m 4 #[.val (.ref a0_), .val (.ref a1_), .unset] [(.int (1 : Int32))]))
  refine gs (fun t k => XS.ifNo X1.here hx rfl (hb hby d8_4) rfl ((if0 _ _).trans (feq (by decide : ¬ ((1 : Int32) = (0 : Int32)))).1) k) ?_
  show G (T1.setTop (mkF m 7 #[.val (.ref a0_), .val (.ref a1_), .unset] []))
  refine gs (fun t k => XS.aloadN X1.here hx rfl (hb hby d8_7) rfl rfl k) ?_
  show G (T1.setTop (mkF m 8 #[.val (.ref a0_), .val (.ref a1_), .unset] [(.ref a1_)]))
  obtain ⟨T2, X2, e2, st2⟩ := castY X1 hx hZ hown (hw _ (List.mem_of_getElem? (i := 51) rfl)) e1 (Ins.self E2) (g := (mkF m 8 #[.val (.ref a0_), .val (.ref a1_), .unset] [(.ref a1_)])) rfl rfl (hb hby d8_8)
  refine gs (fun t k => st2 _ k) ?_
  show G (T2.setTop (mkF m 11 #[.val (.ref a0_), .val (.ref a1_), .unset] [(.ref a1_)]))
  refine gs (fun t k => XS.astoreN X2.here hx rfl (hb hby d8_11) rfl rfl (l' := #[.val (.ref a0_), .val (.ref a1_), .val (.ref a1_)]) rfl k) ?_
  show G (T2.setTop (mkF m 12 #[.val (.ref a0_), .val (.ref a1_), .val (.ref a1_)] []))
  refine gs (fun t k => XS.aloadN X2.here hx rfl (hb hby d8_12) rfl rfl k) ?_
  show G (T2.setTop (mkF m 13 #[.val (.ref a0_), .val (.ref a1_), .val (.ref a1_)] [(.ref a0_)]))
  obtain ⟨T3, X3, e3, st3⟩ := getF X2 hx hZ hown (host := "") (Or.inl (hw _ (List.mem_of_getElem? (i := 38) rfl))) Via.refl e2 F11 (g := (mkF m 13 #[.val (.ref a0_), .val (.ref a1_), .val (.ref a1_)] [(.ref a0_)])) rfl rfl (hb hby d8_13)
  refine gs (fun t k => st3 _ k) ?_
  show G (T3.setTop (mkF m 16 #[.val (.ref a0_), .val (.ref a1_), .val (.ref a1_)] [(.ref s1)]))
  refine gs (fun t k => XS.aloadN X3.here hx rfl (hb hby d8_16) rfl rfl k) ?_
  show G (T3.setTop (mkF m 17 #[.val (.ref a0_), .val (.ref a1_), .val (.ref a1_)] [(.ref a1_), (.ref s1)]))
  obtain ⟨T4, X4, e4, st4⟩ := getF X3 hx hZ hown (host := "") (Or.inl (hw _ (List.mem_of_getElem? (i := 38) rfl))) Via.refl e3 F21 (g := (mkF m 17 #[.val (.ref a0_), .val (.ref a1_), .val (.ref a1_)] [(.ref a1_), (.ref s1)])) rfl rfl (hb hby d8_17)
  refine gs (fun t k => st4 _ k) ?_
  show G (T4.setTop (mkF m 20 #[.val (.ref a0_), .val (.ref a1_), .val (.ref a1_)] [(.ref r1), (.ref s1)]))
  obtain ⟨cq5, kq5, q5a, q5b, q5c⟩ := isOf hZ e4 EE11
  obtain ⟨_, _, ⟨T5, L5, k5, n5⟩, -, X5, ⟨Lc5, hQ5, l5, y5, z5⟩, st5⟩ := X4.virtualBack hx (y := (⟨"java/lang/String", "equals", "(Ljava/lang/Object;)Z"⟩ : MethodName)) (z := (⟨"java/lang/String", "equals", "(Ljava/lang/Object;)Z"⟩ : MethodName)) hown (mvT hZ (hw _ (List.mem_of_getElem? (i := 53) rfl))) (mvT hZ (hw _ (List.mem_of_getElem? (i := 54) rfl))) (notFace_of_selects (args := #[]) (mvT hZ (hw _ (List.mem_of_getElem? (i := 56) rfl)))) (mvT hZ (hw _ (List.mem_of_getElem? (i := 56) rfl))) (mvT hZ (hw _ (List.mem_of_getElem? (i := 55) rfl))) (by decide) (backOf (W := 0) (rm9 l Z a0 hw [] s1 r1 x1 y1 cs h0 n0 Z0 SC hcs U11 U21) hZ (hw _ (List.mem_of_getElem? (i := 57) rfl)) (hw _ (List.mem_of_getElem? (i := 5) rfl)) (by decide) (by decide)) q5a q5c (g := (mkF m 20 #[.val (.ref a0_), .val (.ref a1_), .val (.ref a1_)] [(.ref r1), (.ref s1)])) rfl (by rw [hml]; rfl) (Steps.refl _) (argsL := [(.ref r1)]) (rest := []) (lenOf pd_5 rfl) rfl (by show 2 * 0 + _ ≤ _; exact Nat.le_of_eq rfl) (hb hby d8_20) (fun _ _ => ⟨rfl, e4, (by decide : 0 + 0 ≤ _), (by decide : 0 + 0 ≤ _)⟩)
  dsimp only [Pt.U, Pt.locs, Pt.cells, Pt.slots] at X5 l5 y5 z5 st5 hQ5
  subst y5 z5
  obtain ⟨rfl, N5q, e5⟩ := hQ5
  have N5 : Fr n0 L5 := by rw [l5]; exact Fr.app N0 N5q
  refine gs (fun t k => st5.trans k) ?_
  show G (T5.setTop (mkF m 23 #[.val (.ref a0_), .val (.ref a1_), .val (.ref a1_)] [(.int (own_eq x1 y1))]))
  by_cases hc23 : (own_eq x1 y1) = (0 : Int32)
  · refine gs (fun t k => XS.ifYes X5.here hx rfl (pc0 := 23) (pc' := 69) rfl (hb hby d8_23) rfl ((if0 _ _).trans (teq hc23).1) (by decide) (by decide) k) ?_
    show G (T5.setTop (mkF m 69 #[.val (.ref a0_), .val (.ref a1_), .val (.ref a1_)] []))
    refine gs (fun t k => XS.iconst X5.here hx rfl (hb hby d8_69) k) ?_
    show G (T5.setTop (mkF m 70 #[.val (.ref a0_), .val (.ref a1_), .val (.ref a1_)] [(.int (0 : Int32))]))
    obtain ⟨fs, hr, hrun, hended, hW, hsame⟩ := X5.leave (v := some (.int (0 : Int32))) (fun h => by rw [Bd.returns] at h; cases h)
    refine gl _ ⟨_, _, retN X5 hx (t := .boolean) Bd.returns (by simp) (hb hby d8_70) hr, hrun, hended, _, _, rfl, ?_, ⟨_, rfl⟩, hW, hsame.mono (by decide) (by decide)⟩
    show Q8 (own_jeq x1 x2 x3 g y1 y2 y3 g') h0 n0 _ T5.heap _
    rw [e5]
    have f_hc23 := own_eq0.mp hc23
    exact ⟨congrArg (fun z => some (Value.int z)) (by simp [own_jeq, f_hc23]), N5, rfl⟩
  · refine gs (fun t k => XS.ifNo X5.here hx rfl (hb hby d8_23) rfl ((if0 _ _).trans (feq hc23).1) k) ?_
    show G (T5.setTop (mkF m 26 #[.val (.ref a0_), .val (.ref a1_), .val (.ref a1_)] []))
    refine gs (fun t k => XS.aloadN X5.here hx rfl (hb hby d8_26) rfl rfl k) ?_
    show G (T5.setTop (mkF m 27 #[.val (.ref a0_), .val (.ref a1_), .val (.ref a1_)] [(.ref a0_)]))
    obtain ⟨T6, X6, e6, st6⟩ := getF X5 hx hZ hown (host := "") (Or.inl (hw _ (List.mem_of_getElem? (i := 40) rfl))) Via.refl e5 F12 (g := (mkF m 27 #[.val (.ref a0_), .val (.ref a1_), .val (.ref a1_)] [(.ref a0_)])) rfl rfl (hb hby d8_27)
    refine gs (fun t k => st6 _ k) ?_
    show G (T6.setTop (mkF m 30 #[.val (.ref a0_), .val (.ref a1_), .val (.ref a1_)] [(.ref s2)]))
    refine gs (fun t k => XS.aloadN X6.here hx rfl (hb hby d8_30) rfl rfl k) ?_
    show G (T6.setTop (mkF m 31 #[.val (.ref a0_), .val (.ref a1_), .val (.ref a1_)] [(.ref a1_), (.ref s2)]))
    obtain ⟨T7, X7, e7, st7⟩ := getF X6 hx hZ hown (host := "") (Or.inl (hw _ (List.mem_of_getElem? (i := 40) rfl))) Via.refl e6 F22 (g := (mkF m 31 #[.val (.ref a0_), .val (.ref a1_), .val (.ref a1_)] [(.ref a1_), (.ref s2)])) rfl rfl (hb hby d8_31)
    refine gs (fun t k => st7 _ k) ?_
    show G (T7.setTop (mkF m 34 #[.val (.ref a0_), .val (.ref a1_), .val (.ref a1_)] [(.ref r2), (.ref s2)]))
    obtain ⟨cq8, kq8, q8a, q8b, q8c⟩ := isOf hZ e7 EE12
    obtain ⟨_, _, ⟨T8, L8, k8, n8⟩, -, X8, ⟨Lc8, hQ8, l8, y8, z8⟩, st8⟩ := X7.virtualBack hx (y := (⟨"java/lang/String", "equals", "(Ljava/lang/Object;)Z"⟩ : MethodName)) (z := (⟨"java/lang/String", "equals", "(Ljava/lang/Object;)Z"⟩ : MethodName)) hown (mvT hZ (hw _ (List.mem_of_getElem? (i := 53) rfl))) (mvT hZ (hw _ (List.mem_of_getElem? (i := 54) rfl))) (notFace_of_selects (args := #[]) (mvT hZ (hw _ (List.mem_of_getElem? (i := 56) rfl)))) (mvT hZ (hw _ (List.mem_of_getElem? (i := 56) rfl))) (mvT hZ (hw _ (List.mem_of_getElem? (i := 55) rfl))) (by decide) (backOf (W := 0) (rm9 l Z a0 hw [] s2 r2 x2 y2 cs h0 n0 Z0 SC hcs U12 U22) hZ (hw _ (List.mem_of_getElem? (i := 57) rfl)) (hw _ (List.mem_of_getElem? (i := 5) rfl)) (by decide) (by decide)) q8a q8c (g := (mkF m 34 #[.val (.ref a0_), .val (.ref a1_), .val (.ref a1_)] [(.ref r2), (.ref s2)])) rfl (by rw [hml]; rfl) (Steps.refl _) (argsL := [(.ref r2)]) (rest := []) (lenOf pd_5 rfl) rfl (by show 2 * 0 + _ ≤ _; exact Nat.le_of_eq rfl) (hb hby d8_34) (fun _ _ => ⟨rfl, e7, (by decide : 0 + 0 ≤ _), (by decide : 0 + 0 ≤ _)⟩)
    dsimp only [Pt.U, Pt.locs, Pt.cells, Pt.slots] at X8 l8 y8 z8 st8 hQ8
    subst y8 z8
    obtain ⟨rfl, N8q, e8⟩ := hQ8
    have N8 : Fr n0 L8 := by rw [l8]; exact Fr.app N5 N8q
    refine gs (fun t k => st8.trans k) ?_
    show G (T8.setTop (mkF m 37 #[.val (.ref a0_), .val (.ref a1_), .val (.ref a1_)] [(.int (own_eq x2 y2))]))
    by_cases hc37 : (own_eq x2 y2) = (0 : Int32)
    · refine gs (fun t k => XS.ifYes X8.here hx rfl (pc0 := 37) (pc' := 69) rfl (hb hby d8_37) rfl ((if0 _ _).trans (teq hc37).1) (by decide) (by decide) k) ?_
      show G (T8.setTop (mkF m 69 #[.val (.ref a0_), .val (.ref a1_), .val (.ref a1_)] []))
      refine gs (fun t k => XS.iconst X8.here hx rfl (hb hby d8_69) k) ?_
      show G (T8.setTop (mkF m 70 #[.val (.ref a0_), .val (.ref a1_), .val (.ref a1_)] [(.int (0 : Int32))]))
      obtain ⟨fs, hr, hrun, hended, hW, hsame⟩ := X8.leave (v := some (.int (0 : Int32))) (fun h => by rw [Bd.returns] at h; cases h)
      refine gl _ ⟨_, _, retN X8 hx (t := .boolean) Bd.returns (by simp) (hb hby d8_70) hr, hrun, hended, _, _, rfl, ?_, ⟨_, rfl⟩, hW, hsame.mono (by decide) (by decide)⟩
      show Q8 (own_jeq x1 x2 x3 g y1 y2 y3 g') h0 n0 _ T8.heap _
      rw [e8]
      have f_hc23 := own_eq1.mp hc23
      have f_hc37 := own_eq0.mp hc37
      exact ⟨congrArg (fun z => some (Value.int z)) (by simp [own_jeq, f_hc23, f_hc37]), N8, rfl⟩
    · refine gs (fun t k => XS.ifNo X8.here hx rfl (hb hby d8_37) rfl ((if0 _ _).trans (feq hc37).1) k) ?_
      show G (T8.setTop (mkF m 40 #[.val (.ref a0_), .val (.ref a1_), .val (.ref a1_)] []))
      refine gs (fun t k => XS.aloadN X8.here hx rfl (hb hby d8_40) rfl rfl k) ?_
      show G (T8.setTop (mkF m 41 #[.val (.ref a0_), .val (.ref a1_), .val (.ref a1_)] [(.ref a0_)]))
      obtain ⟨T9, X9, e9, st9⟩ := getF X8 hx hZ hown (host := "") (Or.inl (hw _ (List.mem_of_getElem? (i := 42) rfl))) Via.refl e8 F13 (g := (mkF m 41 #[.val (.ref a0_), .val (.ref a1_), .val (.ref a1_)] [(.ref a0_)])) rfl rfl (hb hby d8_41)
      refine gs (fun t k => st9 _ k) ?_
      show G (T9.setTop (mkF m 44 #[.val (.ref a0_), .val (.ref a1_), .val (.ref a1_)] [(.ref s3)]))
      refine gs (fun t k => XS.aloadN X9.here hx rfl (hb hby d8_44) rfl rfl k) ?_
      show G (T9.setTop (mkF m 45 #[.val (.ref a0_), .val (.ref a1_), .val (.ref a1_)] [(.ref a1_), (.ref s3)]))
      obtain ⟨T10, X10, e10, st10⟩ := getF X9 hx hZ hown (host := "") (Or.inl (hw _ (List.mem_of_getElem? (i := 42) rfl))) Via.refl e9 F23 (g := (mkF m 45 #[.val (.ref a0_), .val (.ref a1_), .val (.ref a1_)] [(.ref a1_), (.ref s3)])) rfl rfl (hb hby d8_45)
      refine gs (fun t k => st10 _ k) ?_
      show G (T10.setTop (mkF m 48 #[.val (.ref a0_), .val (.ref a1_), .val (.ref a1_)] [(.ref r3), (.ref s3)]))
      obtain ⟨cq11, kq11, q11a, q11b, q11c⟩ := isOf hZ e10 EE13
      obtain ⟨_, _, ⟨T11, L11, k11, n11⟩, -, X11, ⟨Lc11, hQ11, l11, y11, z11⟩, st11⟩ := X10.virtualBack hx (y := (⟨"java/lang/String", "equals", "(Ljava/lang/Object;)Z"⟩ : MethodName)) (z := (⟨"java/lang/String", "equals", "(Ljava/lang/Object;)Z"⟩ : MethodName)) hown (mvT hZ (hw _ (List.mem_of_getElem? (i := 53) rfl))) (mvT hZ (hw _ (List.mem_of_getElem? (i := 54) rfl))) (notFace_of_selects (args := #[]) (mvT hZ (hw _ (List.mem_of_getElem? (i := 56) rfl)))) (mvT hZ (hw _ (List.mem_of_getElem? (i := 56) rfl))) (mvT hZ (hw _ (List.mem_of_getElem? (i := 55) rfl))) (by decide) (backOf (W := 0) (rm9 l Z a0 hw [] s3 r3 x3 y3 cs h0 n0 Z0 SC hcs U13 U23) hZ (hw _ (List.mem_of_getElem? (i := 57) rfl)) (hw _ (List.mem_of_getElem? (i := 5) rfl)) (by decide) (by decide)) q11a q11c (g := (mkF m 48 #[.val (.ref a0_), .val (.ref a1_), .val (.ref a1_)] [(.ref r3), (.ref s3)])) rfl (by rw [hml]; rfl) (Steps.refl _) (argsL := [(.ref r3)]) (rest := []) (lenOf pd_5 rfl) rfl (by show 2 * 0 + _ ≤ _; exact Nat.le_of_eq rfl) (hb hby d8_48) (fun _ _ => ⟨rfl, e10, (by decide : 0 + 0 ≤ _), (by decide : 0 + 0 ≤ _)⟩)
      dsimp only [Pt.U, Pt.locs, Pt.cells, Pt.slots] at X11 l11 y11 z11 st11 hQ11
      subst y11 z11
      obtain ⟨rfl, N11q, e11⟩ := hQ11
      have N11 : Fr n0 L11 := by rw [l11]; exact Fr.app N8 N11q
      refine gs (fun t k => st11.trans k) ?_
      show G (T11.setTop (mkF m 51 #[.val (.ref a0_), .val (.ref a1_), .val (.ref a1_)] [(.int (own_eq x3 y3))]))
      by_cases hc51 : (own_eq x3 y3) = (0 : Int32)
      · refine gs (fun t k => XS.ifYes X11.here hx rfl (pc0 := 51) (pc' := 69) rfl (hb hby d8_51) rfl ((if0 _ _).trans (teq hc51).1) (by decide) (by decide) k) ?_
        show G (T11.setTop (mkF m 69 #[.val (.ref a0_), .val (.ref a1_), .val (.ref a1_)] []))
        refine gs (fun t k => XS.iconst X11.here hx rfl (hb hby d8_69) k) ?_
        show G (T11.setTop (mkF m 70 #[.val (.ref a0_), .val (.ref a1_), .val (.ref a1_)] [(.int (0 : Int32))]))
        obtain ⟨fs, hr, hrun, hended, hW, hsame⟩ := X11.leave (v := some (.int (0 : Int32))) (fun h => by rw [Bd.returns] at h; cases h)
        refine gl _ ⟨_, _, retN X11 hx (t := .boolean) Bd.returns (by simp) (hb hby d8_70) hr, hrun, hended, _, _, rfl, ?_, ⟨_, rfl⟩, hW, hsame.mono (by decide) (by decide)⟩
        show Q8 (own_jeq x1 x2 x3 g y1 y2 y3 g') h0 n0 _ T11.heap _
        rw [e11]
        have f_hc23 := own_eq1.mp hc23
        have f_hc37 := own_eq1.mp hc37
        have f_hc51 := own_eq0.mp hc51
        exact ⟨congrArg (fun z => some (Value.int z)) (by simp [own_jeq, f_hc23, f_hc37, f_hc51]), N11, rfl⟩
      · refine gs (fun t k => XS.ifNo X11.here hx rfl (hb hby d8_51) rfl ((if0 _ _).trans (feq hc51).1) k) ?_
        show G (T11.setTop (mkF m 54 #[.val (.ref a0_), .val (.ref a1_), .val (.ref a1_)] []))
        refine gs (fun t k => XS.aloadN X11.here hx rfl (hb hby d8_54) rfl rfl k) ?_
        show G (T11.setTop (mkF m 55 #[.val (.ref a0_), .val (.ref a1_), .val (.ref a1_)] [(.ref a0_)]))
        obtain ⟨T12, X12, e12, st12⟩ := getF X11 hx hZ hown (host := "") (Or.inl (hw _ (List.mem_of_getElem? (i := 44) rfl))) Via.refl e11 F14 (g := (mkF m 55 #[.val (.ref a0_), .val (.ref a1_), .val (.ref a1_)] [(.ref a0_)])) rfl rfl (hb hby d8_55)
        refine gs (fun t k => st12 _ k) ?_
        show G (T12.setTop (mkF m 58 #[.val (.ref a0_), .val (.ref a1_), .val (.ref a1_)] [(.int g)]))
        refine gs (fun t k => XS.aloadN X12.here hx rfl (hb hby d8_58) rfl rfl k) ?_
        show G (T12.setTop (mkF m 59 #[.val (.ref a0_), .val (.ref a1_), .val (.ref a1_)] [(.ref a1_), (.int g)]))
        obtain ⟨T13, X13, e13, st13⟩ := getF X12 hx hZ hown (host := "") (Or.inl (hw _ (List.mem_of_getElem? (i := 44) rfl))) Via.refl e12 F24 (g := (mkF m 59 #[.val (.ref a0_), .val (.ref a1_), .val (.ref a1_)] [(.ref a1_), (.int g)])) rfl rfl (hb hby d8_59)
        refine gs (fun t k => st13 _ k) ?_
        show G (T13.setTop (mkF m 62 #[.val (.ref a0_), .val (.ref a1_), .val (.ref a1_)] [(.int g'), (.int g)]))
        by_cases hc62 : g = g'
        · refine gs (fun t k => XS.icmpNo X13.here hx rfl (hb hby d8_62) rfl (teq hc62).2 k) ?_
          show G (T13.setTop (mkF m 65 #[.val (.ref a0_), .val (.ref a1_), .val (.ref a1_)] []))
          refine gs (fun t k => XS.iconst X13.here hx rfl (hb hby d8_65) k) ?_
          show G (T13.setTop (mkF m 66 #[.val (.ref a0_), .val (.ref a1_), .val (.ref a1_)] [(.int (1 : Int32))]))
          refine gs (fun t k => XS.goto X13.here hx rfl (pc0 := 66) (pc' := 70) rfl (hb hby d8_66) (by decide) (by decide) k) ?_
          show G (T13.setTop (mkF m 70 #[.val (.ref a0_), .val (.ref a1_), .val (.ref a1_)] [(.int (1 : Int32))]))
          obtain ⟨fs, hr, hrun, hended, hW, hsame⟩ := X13.leave (v := some (.int (1 : Int32))) (fun h => by rw [Bd.returns] at h; cases h)
          refine gl _ ⟨_, _, retN X13 hx (t := .boolean) Bd.returns (by simp) (hb hby d8_70) hr, hrun, hended, _, _, rfl, ?_, ⟨_, rfl⟩, hW, hsame.mono (by decide) (by decide)⟩
          show Q8 (own_jeq x1 x2 x3 g y1 y2 y3 g') h0 n0 _ T13.heap _
          rw [e13]
          have f_hc23 := own_eq1.mp hc23
          have f_hc37 := own_eq1.mp hc37
          have f_hc51 := own_eq1.mp hc51
          exact ⟨congrArg (fun z => some (Value.int z)) (by simp [own_jeq, f_hc23, f_hc37, f_hc51, hc62]), N11, rfl⟩
        · refine gs (fun t k => XS.icmpYes X13.here hx rfl (pc0 := 62) (pc' := 69) rfl (hb hby d8_62) rfl (feq hc62).2 (by decide) (by decide) k) ?_
          show G (T13.setTop (mkF m 69 #[.val (.ref a0_), .val (.ref a1_), .val (.ref a1_)] []))
          refine gs (fun t k => XS.iconst X13.here hx rfl (hb hby d8_69) k) ?_
          show G (T13.setTop (mkF m 70 #[.val (.ref a0_), .val (.ref a1_), .val (.ref a1_)] [(.int (0 : Int32))]))
          obtain ⟨fs, hr, hrun, hended, hW, hsame⟩ := X13.leave (v := some (.int (0 : Int32))) (fun h => by rw [Bd.returns] at h; cases h)
          refine gl _ ⟨_, _, retN X13 hx (t := .boolean) Bd.returns (by simp) (hb hby d8_70) hr, hrun, hended, _, _, rfl, ?_, ⟨_, rfl⟩, hW, hsame.mono (by decide) (by decide)⟩
          show Q8 (own_jeq x1 x2 x3 g y1 y2 y3 g') h0 n0 _ T13.heap _
          rw [e13]
          have f_hc23 := own_eq1.mp hc23
          have f_hc37 := own_eq1.mp hc37
          have f_hc51 := own_eq1.mp hc51
          exact ⟨congrArg (fun z => some (Value.int z)) (by simp [own_jeq, f_hc23, f_hc37, f_hc51, hc62]), N11, rfl⟩
theorem ef_8n (m : MethodId) (a0_ : Addr) : entryFrame m #[(.ref a0_), .null] 3 = mkF m 0 #[.val (.ref a0_), .val .null, .unset] [] := by first | (simp [entryFrame, mkF, argsToLocals, Value.category]; done) | rfl
set_option maxRecDepth 65536 in
set_option maxHeartbeats 40000000 in
theorem rm8n (l : Launch) (Z : State) (a0 : Array Value) (hw : ∀ d ∈ tables_1, d.before a0 Z = true) (ws : List Jvm.Cond) (a0_ : Addr)  (h0 : Heap) (n0 : Nat) (Z0 : n0 ≤ h0.size)  :
    MetFree l (⟨"com/example/consensus_to_coverage/consensustocoverage/trecfiles/Judgement", "equals", "(Ljava/lang/Object;)Z"⟩ : MethodName) (head1 (Jvm.Cond.code (⟨"com/example/consensus_to_coverage/consensustocoverage/trecfiles/Judgement", "equals", "(Ljava/lang/Object;)Z"⟩ : MethodName) prog_55_method_9_code 3 (some .boolean) :: ws) ({ frames := 2, cells := 0, slots := 0, locals := 28 } : Room)) (fun a U => a = #[(.ref a0_), .null] ∧ Z.Warmed39 U.vm ∧ U.heap = h0) (fun _ _ _ _ _ => True) (fun _ U o U' => ∃ v L, o = .returned v ∧ Q8 (0 : Int32) h0 n0 v U'.heap L ∧ FrameEnd U o U' L ({ frames := 2, cells := 0, slots := 0, locals := 28 } : Room).cells ({ frames := 2, cells := 0, slots := 0, locals := 28 } : Room).slots) := by
  refine MetFree.of_bodySF (plainFor_of_name pn_com_example_consensus_to_coverage_consensustocoverage_trecfiles_Judgement) hisR ?_
  intro p e s m args below meth c s₁ Bd hml0 hP hK
  obtain ⟨rfl, hZ, hh⟩ := hP
  have hx := Bd.exec
  have hby := Bd.bytes
  have hml : c.maxLocals = 3 := hml0
  have hown : s.vm.findClass "com/example/consensus_to_coverage/consensustocoverage/trecfiles/Judgement" = some m.cls := findClass_of_methodNamed Bd.named
  have hnm := (name_of_methodNamed Bd.named Bd.method).1
  have X0 : Stand p l e ({ frames := 2, cells := 0, slots := 0, locals := 28 } : Room) s m #[(.ref a0_), .null] below meth c s₁ [] 0 0 := Stand.of_body Bd
  have e0 : s₁.heap = h0 := by rw [← hh, Bd.state]; rfl
  have N0 := Fr.nil n0
  have pre0 : ∀ t, Steps p.tables e below (s₁.setTop (mkF m 0 #[.val (.ref a0_), .val .null, .unset] [])) t → Steps p.tables e below (s₁.setTop (entryFrame m #[(.ref a0_), .null] 3)) t := fun t k => castTop (ef_8n m a0_) k
  have K0 := Keep.refl h0 []
  refine own_start pre0 fun G gs gl => ?_
  show G (s₁.setTop (mkF m 0 #[.val (.ref a0_), .val .null, .unset] []))
  refine gs (fun t k => XS.aloadN X0.here hx rfl (hb hby d8_0) rfl rfl k) ?_
  show G (s₁.setTop (mkF m 1 #[.val (.ref a0_), .val .null, .unset] [.null]))
  refine gs (fun t k => X0.instanceofNull hx (g := (mkF m 1 #[.val (.ref a0_), .val .null, .unset] [.null])) rfl rfl (hb hby d8_1) _ k) ?_
  show G (s₁.setTop (mkF m 4 #[.val (.ref a0_), .val .null, .unset] [(.int (0 : Int32))]))
  refine gs (fun t k => XS.ifYes X0.here hx rfl (pc0 := 4) (pc' := 69) rfl (hb hby d8_4) rfl ((if0 _ _).trans (teq (by decide : (0 : Int32) = (0 : Int32))).1) (by decide) (by decide) k) ?_
  show G (s₁.setTop (mkF m 69 #[.val (.ref a0_), .val .null, .unset] []))
  refine gs (fun t k => XS.iconst X0.here hx rfl (hb hby d8_69) k) ?_
  show G (s₁.setTop (mkF m 70 #[.val (.ref a0_), .val .null, .unset] [(.int (0 : Int32))]))
  obtain ⟨fs, hr, hrun, hended, hW, hsame⟩ := X0.leave (v := some (.int (0 : Int32))) (fun h => by rw [Bd.returns] at h; cases h)
  refine gl _ ⟨_, _, retN X0 hx (t := .boolean) Bd.returns (by simp) (hb hby d8_70) hr, hrun, hended, _, _, rfl, ?_, ⟨_, rfl⟩, hW, hsame.mono (by decide) (by decide)⟩
  show Q8 (0 : Int32) h0 n0 _ s₁.heap _
  rw [e0]
  exact ⟨rfl, N0, rfl⟩
theorem ef_8s (m : MethodId) (a0_ : Addr) (a1_ : Addr) : entryFrame m #[(.ref a0_), (.ref a1_)] 3 = mkF m 0 #[.val (.ref a0_), .val (.ref a1_), .unset] [] := by first | (simp [entryFrame, mkF, argsToLocals, Value.category]; done) | rfl
set_option maxRecDepth 65536 in
set_option maxHeartbeats 40000000 in
theorem rm8s (l : Launch) (Z : State) (a0 : Array Value) (hw : ∀ d ∈ tables_1, d.before a0 Z = true) (ws : List Jvm.Cond) (a0_ : Addr) (a1_ : Addr)  (h0 : Heap) (n0 : Nat) (Z0 : n0 ≤ h0.size) (E1 : Exa Z h0 a1_ "java/lang/String") :
    MetFree l (⟨"com/example/consensus_to_coverage/consensustocoverage/trecfiles/Judgement", "equals", "(Ljava/lang/Object;)Z"⟩ : MethodName) (head1 (Jvm.Cond.code (⟨"com/example/consensus_to_coverage/consensustocoverage/trecfiles/Judgement", "equals", "(Ljava/lang/Object;)Z"⟩ : MethodName) prog_55_method_9_code 3 (some .boolean) :: ws) ({ frames := 2, cells := 0, slots := 0, locals := 28 } : Room)) (fun a U => a = #[(.ref a0_), (.ref a1_)] ∧ Z.Warmed39 U.vm ∧ U.heap = h0) (fun _ _ _ _ _ => True) (fun _ U o U' => ∃ v L, o = .returned v ∧ Q8 (0 : Int32) h0 n0 v U'.heap L ∧ FrameEnd U o U' L ({ frames := 2, cells := 0, slots := 0, locals := 28 } : Room).cells ({ frames := 2, cells := 0, slots := 0, locals := 28 } : Room).slots) := by
  refine MetFree.of_bodySF (plainFor_of_name pn_com_example_consensus_to_coverage_consensustocoverage_trecfiles_Judgement) hisR ?_
  intro p e s m args below meth c s₁ Bd hml0 hP hK
  obtain ⟨rfl, hZ, hh⟩ := hP
  have hx := Bd.exec
  have hby := Bd.bytes
  have hml : c.maxLocals = 3 := hml0
  have hown : s.vm.findClass "com/example/consensus_to_coverage/consensustocoverage/trecfiles/Judgement" = some m.cls := findClass_of_methodNamed Bd.named
  have hnm := (name_of_methodNamed Bd.named Bd.method).1
  have X0 : Stand p l e ({ frames := 2, cells := 0, slots := 0, locals := 28 } : Room) s m #[(.ref a0_), (.ref a1_)] below meth c s₁ [] 0 0 := Stand.of_body Bd
  have e0 : s₁.heap = h0 := by rw [← hh, Bd.state]; rfl
  have N0 := Fr.nil n0
  have pre0 : ∀ t, Steps p.tables e below (s₁.setTop (mkF m 0 #[.val (.ref a0_), .val (.ref a1_), .unset] [])) t → Steps p.tables e below (s₁.setTop (entryFrame m #[(.ref a0_), (.ref a1_)] 3)) t := fun t k => castTop (ef_8s m a0_ a1_) k
  have K0 := Keep.refl h0 []
  refine own_start pre0 fun G gs gl => ?_
  show G (s₁.setTop (mkF m 0 #[.val (.ref a0_), .val (.ref a1_), .unset] []))
  refine gs (fun t k => XS.aloadN X0.here hx rfl (hb hby d8_0) rfl rfl k) ?_
  show G (s₁.setTop (mkF m 1 #[.val (.ref a0_), .val (.ref a1_), .unset] [(.ref a1_)]))
  obtain ⟨T1, X1, e1, st1⟩ := instNo X0 hx hZ hown (hw _ (List.mem_of_getElem? (i := 51) rfl)) e0 E1 (own_noJ (hw _ (List.mem_of_getElem? (i := 61) rfl)) (hw _ (List.mem_of_getElem? (i := 62) rfl)) (hw _ (List.mem_of_getElem? (i := 1) rfl))) (g := (mkF m 1 #[.val (.ref a0_), .val (.ref a1_), .unset] [(.ref a1_)])) rfl rfl (hb hby d8_1)
  refine gs (fun t k => st1 _ k) ?_
  show G (T1.setTop (mkF m 4 #[.val (.ref a0_), .val (.ref a1_), .unset] [(.int (0 : Int32))]))
  refine gs (fun t k => XS.ifYes X1.here hx rfl (pc0 := 4) (pc' := 69) rfl (hb hby d8_4) rfl ((if0 _ _).trans (teq (by decide : (0 : Int32) = (0 : Int32))).1) (by decide) (by decide) k) ?_
  show G (T1.setTop (mkF m 69 #[.val (.ref a0_), .val (.ref a1_), .unset] []))
  refine gs (fun t k => XS.iconst X1.here hx rfl (hb hby d8_69) k) ?_
  show G (T1.setTop (mkF m 70 #[.val (.ref a0_), .val (.ref a1_), .unset] [(.int (0 : Int32))]))
  obtain ⟨fs, hr, hrun, hended, hW, hsame⟩ := X1.leave (v := some (.int (0 : Int32))) (fun h => by rw [Bd.returns] at h; cases h)
  refine gl _ ⟨_, _, retN X1 hx (t := .boolean) Bd.returns (by simp) (hb hby d8_70) hr, hrun, hended, _, _, rfl, ?_, ⟨_, rfl⟩, hW, hsame.mono (by decide) (by decide)⟩
  show Q8 (0 : Int32) h0 n0 _ T1.heap _
  rw [e1]
  exact ⟨rfl, N0, rfl⟩
theorem pd_6 : parseMethodDescriptor "(C)Ljava/lang/String;" = some ⟨[.char], some (.object "java/lang/String")⟩ := by decide +kernel
theorem pd_7 : parseMethodDescriptor "(Ljava/lang/String;Ljava/lang/String;Ljava/lang/String;I)V" = some ⟨[(.object "java/lang/String"), (.object "java/lang/String"), (.object "java/lang/String"), .int], none⟩ := by decide +kernel
theorem pn_com_example_consensus_to_coverage_consensustocoverage_trecfiles_JudgementEqualsPinLaw : plainName "com/example/consensus_to_coverage/consensustocoverage/trecfiles/JudgementEqualsPinLaw" = true := by first | (simp [plainName, overriddenIn]; done) | decide +kernel
theorem ef_0 (m : MethodId) (p0 : Int32) (p1 : Int32) (p2 : Int32) (p3 : Int32) (p4 : Int32) : entryFrame m #[(.int p0), (.int p1), (.int p2), (.int p3), (.int p4)] maxLocals = mkF m 0 #[.val (.int p0), .val (.int p1), .val (.int p2), .val (.int p3), .val (.int p4), .unset, .unset, .unset, .unset, .unset, .unset, .unset, .unset, .unset, .unset, .unset, .unset, .unset] [] := by first | (simp [entryFrame, mkF, argsToLocals, Value.category, maxLocals]; done) | rfl
theorem own_n255 {v : Int32} (h : 0 ≤ v.toInt ∧ v.toInt ≤ 255) : ¬ (255 : Int32) < v := by
  have e : (255 : Int32).toInt = 255 := by decide
  rw [Int32.lt_iff_toInt_lt]; omega
def Q0 (h0 : Heap) (n0 : Nat) (v : Option Value) (h : Heap) (L : List Loc) : Prop := v = some (.int 1) ∧ Fr n0 L
set_option maxRecDepth 65536 in
set_option maxHeartbeats 40000000 in
theorem rm0 (l : Launch) (Z : State) (a0 : Array Value) (hw : ∀ d ∈ tables_1, d.before a0 Z = true) (ws : List Jvm.Cond) (p0 : Int32) (p1 : Int32) (p2 : Int32) (p3 : Int32) (p4 : Int32) (cs : Int32) (h0 : Heap) (n0 : Nat) (Z0 : n0 ≤ h0.size) (SC : Sta Z h0 "java/lang/String" "COMPACT_STRINGS" "Z" (.int cs)) (hcs : ¬ cs = (0 : Int32)) :
    MetFree l x (head1 (Jvm.Cond.code x code maxLocals ret :: ws) room_1) (fun a U => a = #[(.int p0), (.int p1), (.int p2), (.int p3), (.int p4)] ∧ Z.Warmed39 U.vm ∧ U.heap = h0) (fun _ _ _ _ _ => True) (fun _ U o U' => ∃ v L, o = .returned v ∧ Q0 h0 n0 v U'.heap L ∧ FrameEnd U o U' L room_1.cells room_1.slots) := by
  refine MetFree.of_bodySF (plainFor_of_name pn_com_example_consensus_to_coverage_consensustocoverage_trecfiles_JudgementEqualsPinLaw) hisR ?_
  intro p e s m args below meth c s₁ Bd hml0 hP hK
  obtain ⟨rfl, hZ, hh⟩ := hP
  have hx := Bd.exec
  have hby := Bd.bytes
  have hml : c.maxLocals = 18 := hml0
  have hown : s.vm.findClass "com/example/consensus_to_coverage/consensustocoverage/trecfiles/JudgementEqualsPinLaw" = some m.cls := findClass_of_methodNamed Bd.named
  have hnm := (name_of_methodNamed Bd.named Bd.method).1
  have X0 : Stand p l e room_1 s m #[(.int p0), (.int p1), (.int p2), (.int p3), (.int p4)] below meth c s₁ [] 0 0 := Stand.of_body Bd
  have e0 : s₁.heap = h0 := by rw [← hh, Bd.state]; rfl
  have N0 := Fr.nil n0
  have pre0 : ∀ t, Steps p.tables e below (s₁.setTop (mkF m 0 #[.val (.int p0), .val (.int p1), .val (.int p2), .val (.int p3), .val (.int p4), .unset, .unset, .unset, .unset, .unset, .unset, .unset, .unset, .unset, .unset, .unset, .unset, .unset] [])) t → Steps p.tables e below (s₁.setTop (entryFrame m #[(.int p0), (.int p1), (.int p2), (.int p3), (.int p4)] maxLocals)) t := fun t k => castTop (ef_0 m p0 p1 p2 p3 p4) k
  have K0 := Keep.refl h0 []
  refine own_start pre0 fun G gs gl => ?_
  show G (s₁.setTop (mkF m 0 #[.val (.int p0), .val (.int p1), .val (.int p2), .val (.int p3), .val (.int p4), .unset, .unset, .unset, .unset, .unset, .unset, .unset, .unset, .unset, .unset, .unset, .unset, .unset] []))
  refine gs (fun t k => XS.iloadN X0.here hx rfl (hb hby at_0) rfl k) ?_
  show G (s₁.setTop (mkF m 1 #[.val (.int p0), .val (.int p1), .val (.int p2), .val (.int p3), .val (.int p4), .unset, .unset, .unset, .unset, .unset, .unset, .unset, .unset, .unset, .unset, .unset, .unset, .unset] [(.int p0)]))
  refine gs (fun t k => XS.sipush X0.here hx rfl (hb hby at_1) k) ?_
  show G (s₁.setTop (mkF m 4 #[.val (.int p0), .val (.int p1), .val (.int p2), .val (.int p3), .val (.int p4), .unset, .unset, .unset, .unset, .unset, .unset, .unset, .unset, .unset, .unset, .unset, .unset, .unset] [(.int (255 : Int32)), (.int p0)]))
  refine gs (fun t k => XS.iand X0.here hx rfl (hb hby at_4) rfl k) ?_
  show G (s₁.setTop (mkF m 5 #[.val (.int p0), .val (.int p1), .val (.int p2), .val (.int p3), .val (.int p4), .unset, .unset, .unset, .unset, .unset, .unset, .unset, .unset, .unset, .unset, .unset, .unset, .unset] [(.int (p0 &&& (255 : Int32)))]))
  refine gs (fun t k => XS.i2c X0.here hx rfl (hb hby at_5) rfl k) ?_
  show G (s₁.setTop (mkF m 6 #[.val (.int p0), .val (.int p1), .val (.int p2), .val (.int p3), .val (.int p4), .unset, .unset, .unset, .unset, .unset, .unset, .unset, .unset, .unset, .unset, .unset, .unset, .unset] [(.int ((p0 &&& (255 : Int32)).toUInt32.toUInt16.toUInt32.toInt32))]))
  obtain ⟨v1, hv1⟩ : ∃ z : Int32, z = ((p0 &&& (255 : Int32)).toUInt32.toUInt16.toUInt32.toInt32) := ⟨_, rfl⟩
  rw [← hv1]
  show G (s₁.setTop (mkF m 6 #[.val (.int p0), .val (.int p1), .val (.int p2), .val (.int p3), .val (.int p4), .unset, .unset, .unset, .unset, .unset, .unset, .unset, .unset, .unset, .unset, .unset, .unset, .unset] [(.int v1)]))
  have r1 := own_chr hv1
  refine gs (fun t k => XS.istore X0.here hx rfl (hb hby at_6) rfl (l' := #[.val (.int p0), .val (.int p1), .val (.int p2), .val (.int p3), .val (.int p4), .val (.int v1), .unset, .unset, .unset, .unset, .unset, .unset, .unset, .unset, .unset, .unset, .unset, .unset]) rfl k) ?_
  show G (s₁.setTop (mkF m 8 #[.val (.int p0), .val (.int p1), .val (.int p2), .val (.int p3), .val (.int p4), .val (.int v1), .unset, .unset, .unset, .unset, .unset, .unset, .unset, .unset, .unset, .unset, .unset, .unset] []))
  refine gs (fun t k => XS.iloadN X0.here hx rfl (hb hby at_8) rfl k) ?_
  show G (s₁.setTop (mkF m 9 #[.val (.int p0), .val (.int p1), .val (.int p2), .val (.int p3), .val (.int p4), .val (.int v1), .unset, .unset, .unset, .unset, .unset, .unset, .unset, .unset, .unset, .unset, .unset, .unset] [(.int p0)]))
  refine gs (fun t k => XS.bipush X0.here hx rfl (hb hby at_9) k) ?_
  show G (s₁.setTop (mkF m 11 #[.val (.int p0), .val (.int p1), .val (.int p2), .val (.int p3), .val (.int p4), .val (.int v1), .unset, .unset, .unset, .unset, .unset, .unset, .unset, .unset, .unset, .unset, .unset, .unset] [(.int (8 : Int32)), (.int p0)]))
  refine gs (fun t k => XS.iushr X0.here hx rfl (hb hby at_11) rfl k) ?_
  show G (s₁.setTop (mkF m 12 #[.val (.int p0), .val (.int p1), .val (.int p2), .val (.int p3), .val (.int p4), .val (.int v1), .unset, .unset, .unset, .unset, .unset, .unset, .unset, .unset, .unset, .unset, .unset, .unset] [(.int ((p0.toUInt32 >>> ((8 : Int32) &&& 31).toUInt32).toInt32))]))
  refine gs (fun t k => XS.sipush X0.here hx rfl (hb hby at_12) k) ?_
  show G (s₁.setTop (mkF m 15 #[.val (.int p0), .val (.int p1), .val (.int p2), .val (.int p3), .val (.int p4), .val (.int v1), .unset, .unset, .unset, .unset, .unset, .unset, .unset, .unset, .unset, .unset, .unset, .unset] [(.int (255 : Int32)), (.int ((p0.toUInt32 >>> ((8 : Int32) &&& 31).toUInt32).toInt32))]))
  refine gs (fun t k => XS.iand X0.here hx rfl (hb hby at_15) rfl k) ?_
  show G (s₁.setTop (mkF m 16 #[.val (.int p0), .val (.int p1), .val (.int p2), .val (.int p3), .val (.int p4), .val (.int v1), .unset, .unset, .unset, .unset, .unset, .unset, .unset, .unset, .unset, .unset, .unset, .unset] [(.int (((p0.toUInt32 >>> ((8 : Int32) &&& 31).toUInt32).toInt32) &&& (255 : Int32)))]))
  refine gs (fun t k => XS.i2c X0.here hx rfl (hb hby at_16) rfl k) ?_
  show G (s₁.setTop (mkF m 17 #[.val (.int p0), .val (.int p1), .val (.int p2), .val (.int p3), .val (.int p4), .val (.int v1), .unset, .unset, .unset, .unset, .unset, .unset, .unset, .unset, .unset, .unset, .unset, .unset] [(.int ((((p0.toUInt32 >>> ((8 : Int32) &&& 31).toUInt32).toInt32) &&& (255 : Int32)).toUInt32.toUInt16.toUInt32.toInt32))]))
  obtain ⟨v2, hv2⟩ : ∃ z : Int32, z = ((((p0.toUInt32 >>> ((8 : Int32) &&& 31).toUInt32).toInt32) &&& (255 : Int32)).toUInt32.toUInt16.toUInt32.toInt32) := ⟨_, rfl⟩
  rw [← hv2]
  show G (s₁.setTop (mkF m 17 #[.val (.int p0), .val (.int p1), .val (.int p2), .val (.int p3), .val (.int p4), .val (.int v1), .unset, .unset, .unset, .unset, .unset, .unset, .unset, .unset, .unset, .unset, .unset, .unset] [(.int v2)]))
  have r2 := own_chr hv2
  refine gs (fun t k => XS.istore X0.here hx rfl (hb hby at_17) rfl (l' := #[.val (.int p0), .val (.int p1), .val (.int p2), .val (.int p3), .val (.int p4), .val (.int v1), .val (.int v2), .unset, .unset, .unset, .unset, .unset, .unset, .unset, .unset, .unset, .unset, .unset]) rfl k) ?_
  show G (s₁.setTop (mkF m 19 #[.val (.int p0), .val (.int p1), .val (.int p2), .val (.int p3), .val (.int p4), .val (.int v1), .val (.int v2), .unset, .unset, .unset, .unset, .unset, .unset, .unset, .unset, .unset, .unset, .unset] []))
  refine gs (fun t k => XS.iloadN X0.here hx rfl (hb hby at_19) rfl k) ?_
  show G (s₁.setTop (mkF m 20 #[.val (.int p0), .val (.int p1), .val (.int p2), .val (.int p3), .val (.int p4), .val (.int v1), .val (.int v2), .unset, .unset, .unset, .unset, .unset, .unset, .unset, .unset, .unset, .unset, .unset] [(.int p0)]))
  refine gs (fun t k => XS.bipush X0.here hx rfl (hb hby at_20) k) ?_
  show G (s₁.setTop (mkF m 22 #[.val (.int p0), .val (.int p1), .val (.int p2), .val (.int p3), .val (.int p4), .val (.int v1), .val (.int v2), .unset, .unset, .unset, .unset, .unset, .unset, .unset, .unset, .unset, .unset, .unset] [(.int (16 : Int32)), (.int p0)]))
  refine gs (fun t k => XS.iushr X0.here hx rfl (hb hby at_22) rfl k) ?_
  show G (s₁.setTop (mkF m 23 #[.val (.int p0), .val (.int p1), .val (.int p2), .val (.int p3), .val (.int p4), .val (.int v1), .val (.int v2), .unset, .unset, .unset, .unset, .unset, .unset, .unset, .unset, .unset, .unset, .unset] [(.int ((p0.toUInt32 >>> ((16 : Int32) &&& 31).toUInt32).toInt32))]))
  refine gs (fun t k => XS.sipush X0.here hx rfl (hb hby at_23) k) ?_
  show G (s₁.setTop (mkF m 26 #[.val (.int p0), .val (.int p1), .val (.int p2), .val (.int p3), .val (.int p4), .val (.int v1), .val (.int v2), .unset, .unset, .unset, .unset, .unset, .unset, .unset, .unset, .unset, .unset, .unset] [(.int (255 : Int32)), (.int ((p0.toUInt32 >>> ((16 : Int32) &&& 31).toUInt32).toInt32))]))
  refine gs (fun t k => XS.iand X0.here hx rfl (hb hby at_26) rfl k) ?_
  show G (s₁.setTop (mkF m 27 #[.val (.int p0), .val (.int p1), .val (.int p2), .val (.int p3), .val (.int p4), .val (.int v1), .val (.int v2), .unset, .unset, .unset, .unset, .unset, .unset, .unset, .unset, .unset, .unset, .unset] [(.int (((p0.toUInt32 >>> ((16 : Int32) &&& 31).toUInt32).toInt32) &&& (255 : Int32)))]))
  refine gs (fun t k => XS.i2c X0.here hx rfl (hb hby at_27) rfl k) ?_
  show G (s₁.setTop (mkF m 28 #[.val (.int p0), .val (.int p1), .val (.int p2), .val (.int p3), .val (.int p4), .val (.int v1), .val (.int v2), .unset, .unset, .unset, .unset, .unset, .unset, .unset, .unset, .unset, .unset, .unset] [(.int ((((p0.toUInt32 >>> ((16 : Int32) &&& 31).toUInt32).toInt32) &&& (255 : Int32)).toUInt32.toUInt16.toUInt32.toInt32))]))
  obtain ⟨v3, hv3⟩ : ∃ z : Int32, z = ((((p0.toUInt32 >>> ((16 : Int32) &&& 31).toUInt32).toInt32) &&& (255 : Int32)).toUInt32.toUInt16.toUInt32.toInt32) := ⟨_, rfl⟩
  rw [← hv3]
  show G (s₁.setTop (mkF m 28 #[.val (.int p0), .val (.int p1), .val (.int p2), .val (.int p3), .val (.int p4), .val (.int v1), .val (.int v2), .unset, .unset, .unset, .unset, .unset, .unset, .unset, .unset, .unset, .unset, .unset] [(.int v3)]))
  have r3 := own_chr hv3
  refine gs (fun t k => XS.istore X0.here hx rfl (hb hby at_28) rfl (l' := #[.val (.int p0), .val (.int p1), .val (.int p2), .val (.int p3), .val (.int p4), .val (.int v1), .val (.int v2), .val (.int v3), .unset, .unset, .unset, .unset, .unset, .unset, .unset, .unset, .unset, .unset]) rfl k) ?_
  show G (s₁.setTop (mkF m 30 #[.val (.int p0), .val (.int p1), .val (.int p2), .val (.int p3), .val (.int p4), .val (.int v1), .val (.int v2), .val (.int v3), .unset, .unset, .unset, .unset, .unset, .unset, .unset, .unset, .unset, .unset] []))
  refine gs (fun t k => XS.iloadN X0.here hx rfl (hb hby at_30) rfl k) ?_
  show G (s₁.setTop (mkF m 31 #[.val (.int p0), .val (.int p1), .val (.int p2), .val (.int p3), .val (.int p4), .val (.int v1), .val (.int v2), .val (.int v3), .unset, .unset, .unset, .unset, .unset, .unset, .unset, .unset, .unset, .unset] [(.int p2)]))
  refine gs (fun t k => XS.iconst X0.here hx rfl (hb hby at_31) k) ?_
  show G (s₁.setTop (mkF m 32 #[.val (.int p0), .val (.int p1), .val (.int p2), .val (.int p3), .val (.int p4), .val (.int v1), .val (.int v2), .val (.int v3), .unset, .unset, .unset, .unset, .unset, .unset, .unset, .unset, .unset, .unset] [(.int (1 : Int32)), (.int p2)]))
  refine gs (fun t k => XS.iand X0.here hx rfl (hb hby at_32) rfl k) ?_
  show G (s₁.setTop (mkF m 33 #[.val (.int p0), .val (.int p1), .val (.int p2), .val (.int p3), .val (.int p4), .val (.int v1), .val (.int v2), .val (.int v3), .unset, .unset, .unset, .unset, .unset, .unset, .unset, .unset, .unset, .unset] [(.int (p2 &&& (1 : Int32)))]))
  have J33 : ∀ (u1 : Int32), u1 = (if (p2 &&& (1 : Int32)) = (0 : Int32) then ((p1 &&& (255 : Int32)).toUInt32.toUInt16.toUInt32.toInt32) else v1) → G (s₁.setTop (mkF m 47 #[.val (.int p0), .val (.int p1), .val (.int p2), .val (.int p3), .val (.int p4), .val (.int v1), .val (.int v2), .val (.int v3), .unset, .unset, .unset, .unset, .unset, .unset, .unset, .unset, .unset, .unset] [(.int u1)])) := by
    intro u1 hu1
    have t1 := own_chr2 hu1 r1
    refine gs (fun t k => XS.istore X0.here hx rfl (hb hby at_47) rfl (l' := #[.val (.int p0), .val (.int p1), .val (.int p2), .val (.int p3), .val (.int p4), .val (.int v1), .val (.int v2), .val (.int v3), .val (.int u1), .unset, .unset, .unset, .unset, .unset, .unset, .unset, .unset, .unset]) rfl k) ?_
    show G (s₁.setTop (mkF m 49 #[.val (.int p0), .val (.int p1), .val (.int p2), .val (.int p3), .val (.int p4), .val (.int v1), .val (.int v2), .val (.int v3), .val (.int u1), .unset, .unset, .unset, .unset, .unset, .unset, .unset, .unset, .unset] []))
    refine gs (fun t k => XS.iloadN X0.here hx rfl (hb hby at_49) rfl k) ?_
    show G (s₁.setTop (mkF m 50 #[.val (.int p0), .val (.int p1), .val (.int p2), .val (.int p3), .val (.int p4), .val (.int v1), .val (.int v2), .val (.int v3), .val (.int u1), .unset, .unset, .unset, .unset, .unset, .unset, .unset, .unset, .unset] [(.int p2)]))
    refine gs (fun t k => XS.iconst X0.here hx rfl (hb hby at_50) k) ?_
    show G (s₁.setTop (mkF m 51 #[.val (.int p0), .val (.int p1), .val (.int p2), .val (.int p3), .val (.int p4), .val (.int v1), .val (.int v2), .val (.int v3), .val (.int u1), .unset, .unset, .unset, .unset, .unset, .unset, .unset, .unset, .unset] [(.int (2 : Int32)), (.int p2)]))
    refine gs (fun t k => XS.iand X0.here hx rfl (hb hby at_51) rfl k) ?_
    show G (s₁.setTop (mkF m 52 #[.val (.int p0), .val (.int p1), .val (.int p2), .val (.int p3), .val (.int p4), .val (.int v1), .val (.int v2), .val (.int v3), .val (.int u1), .unset, .unset, .unset, .unset, .unset, .unset, .unset, .unset, .unset] [(.int (p2 &&& (2 : Int32)))]))
    have J52 : ∀ (u2 : Int32), u2 = (if (p2 &&& (2 : Int32)) = (0 : Int32) then ((((p1.toUInt32 >>> ((8 : Int32) &&& 31).toUInt32).toInt32) &&& (255 : Int32)).toUInt32.toUInt16.toUInt32.toInt32) else v2) → G (s₁.setTop (mkF m 69 #[.val (.int p0), .val (.int p1), .val (.int p2), .val (.int p3), .val (.int p4), .val (.int v1), .val (.int v2), .val (.int v3), .val (.int u1), .unset, .unset, .unset, .unset, .unset, .unset, .unset, .unset, .unset] [(.int u2)])) := by
      intro u2 hu2
      have t2 := own_chr2 hu2 r2
      refine gs (fun t k => XS.istore X0.here hx rfl (hb hby at_69) rfl (l' := #[.val (.int p0), .val (.int p1), .val (.int p2), .val (.int p3), .val (.int p4), .val (.int v1), .val (.int v2), .val (.int v3), .val (.int u1), .val (.int u2), .unset, .unset, .unset, .unset, .unset, .unset, .unset, .unset]) rfl k) ?_
      show G (s₁.setTop (mkF m 71 #[.val (.int p0), .val (.int p1), .val (.int p2), .val (.int p3), .val (.int p4), .val (.int v1), .val (.int v2), .val (.int v3), .val (.int u1), .val (.int u2), .unset, .unset, .unset, .unset, .unset, .unset, .unset, .unset] []))
      refine gs (fun t k => XS.iloadN X0.here hx rfl (hb hby at_71) rfl k) ?_
      show G (s₁.setTop (mkF m 72 #[.val (.int p0), .val (.int p1), .val (.int p2), .val (.int p3), .val (.int p4), .val (.int v1), .val (.int v2), .val (.int v3), .val (.int u1), .val (.int u2), .unset, .unset, .unset, .unset, .unset, .unset, .unset, .unset] [(.int p2)]))
      refine gs (fun t k => XS.iconst X0.here hx rfl (hb hby at_72) k) ?_
      show G (s₁.setTop (mkF m 73 #[.val (.int p0), .val (.int p1), .val (.int p2), .val (.int p3), .val (.int p4), .val (.int v1), .val (.int v2), .val (.int v3), .val (.int u1), .val (.int u2), .unset, .unset, .unset, .unset, .unset, .unset, .unset, .unset] [(.int (4 : Int32)), (.int p2)]))
      refine gs (fun t k => XS.iand X0.here hx rfl (hb hby at_73) rfl k) ?_
      show G (s₁.setTop (mkF m 74 #[.val (.int p0), .val (.int p1), .val (.int p2), .val (.int p3), .val (.int p4), .val (.int v1), .val (.int v2), .val (.int v3), .val (.int u1), .val (.int u2), .unset, .unset, .unset, .unset, .unset, .unset, .unset, .unset] [(.int (p2 &&& (4 : Int32)))]))
      have J74 : ∀ (u3 : Int32), u3 = (if (p2 &&& (4 : Int32)) = (0 : Int32) then ((((p1.toUInt32 >>> ((16 : Int32) &&& 31).toUInt32).toInt32) &&& (255 : Int32)).toUInt32.toUInt16.toUInt32.toInt32) else v3) → G (s₁.setTop (mkF m 91 #[.val (.int p0), .val (.int p1), .val (.int p2), .val (.int p3), .val (.int p4), .val (.int v1), .val (.int v2), .val (.int v3), .val (.int u1), .val (.int u2), .unset, .unset, .unset, .unset, .unset, .unset, .unset, .unset] [(.int u3)])) := by
        intro u3 hu3
        have t3 := own_chr2 hu3 r3
        refine gs (fun t k => XS.istore X0.here hx rfl (hb hby at_91) rfl (l' := #[.val (.int p0), .val (.int p1), .val (.int p2), .val (.int p3), .val (.int p4), .val (.int v1), .val (.int v2), .val (.int v3), .val (.int u1), .val (.int u2), .val (.int u3), .unset, .unset, .unset, .unset, .unset, .unset, .unset]) rfl k) ?_
        show G (s₁.setTop (mkF m 93 #[.val (.int p0), .val (.int p1), .val (.int p2), .val (.int p3), .val (.int p4), .val (.int v1), .val (.int v2), .val (.int v3), .val (.int u1), .val (.int u2), .val (.int u3), .unset, .unset, .unset, .unset, .unset, .unset, .unset] []))
        refine gs (fun t k => XS.iloadN X0.here hx rfl (hb hby at_93) rfl k) ?_
        show G (s₁.setTop (mkF m 94 #[.val (.int p0), .val (.int p1), .val (.int p2), .val (.int p3), .val (.int p4), .val (.int v1), .val (.int v2), .val (.int v3), .val (.int u1), .val (.int u2), .val (.int u3), .unset, .unset, .unset, .unset, .unset, .unset, .unset] [(.int p3)]))
        refine gs (fun t k => XS.istore X0.here hx rfl (hb hby at_94) rfl (l' := #[.val (.int p0), .val (.int p1), .val (.int p2), .val (.int p3), .val (.int p4), .val (.int v1), .val (.int v2), .val (.int v3), .val (.int u1), .val (.int u2), .val (.int u3), .val (.int p3), .unset, .unset, .unset, .unset, .unset, .unset]) rfl k) ?_
        show G (s₁.setTop (mkF m 96 #[.val (.int p0), .val (.int p1), .val (.int p2), .val (.int p3), .val (.int p4), .val (.int v1), .val (.int v2), .val (.int v3), .val (.int u1), .val (.int u2), .val (.int u3), .val (.int p3), .unset, .unset, .unset, .unset, .unset, .unset] []))
        refine gs (fun t k => XS.iloadN X0.here hx rfl (hb hby at_96) rfl k) ?_
        show G (s₁.setTop (mkF m 97 #[.val (.int p0), .val (.int p1), .val (.int p2), .val (.int p3), .val (.int p4), .val (.int v1), .val (.int v2), .val (.int v3), .val (.int u1), .val (.int u2), .val (.int u3), .val (.int p3), .unset, .unset, .unset, .unset, .unset, .unset] [(.int p2)]))
        refine gs (fun t k => XS.bipush X0.here hx rfl (hb hby at_97) k) ?_
        show G (s₁.setTop (mkF m 99 #[.val (.int p0), .val (.int p1), .val (.int p2), .val (.int p3), .val (.int p4), .val (.int v1), .val (.int v2), .val (.int v3), .val (.int u1), .val (.int u2), .val (.int u3), .val (.int p3), .unset, .unset, .unset, .unset, .unset, .unset] [(.int (8 : Int32)), (.int p2)]))
        refine gs (fun t k => XS.iand X0.here hx rfl (hb hby at_99) rfl k) ?_
        show G (s₁.setTop (mkF m 100 #[.val (.int p0), .val (.int p1), .val (.int p2), .val (.int p3), .val (.int p4), .val (.int v1), .val (.int v2), .val (.int v3), .val (.int u1), .val (.int u2), .val (.int u3), .val (.int p3), .unset, .unset, .unset, .unset, .unset, .unset] [(.int (p2 &&& (8 : Int32)))]))
        have J100 : ∀ (g2 : Int32), g2 = (if (p2 &&& (8 : Int32)) = (0 : Int32) then p4 else p3) → G (s₁.setTop (mkF m 109 #[.val (.int p0), .val (.int p1), .val (.int p2), .val (.int p3), .val (.int p4), .val (.int v1), .val (.int v2), .val (.int v3), .val (.int u1), .val (.int u2), .val (.int u3), .val (.int p3), .unset, .unset, .unset, .unset, .unset, .unset] [(.int g2)])) := by
          intro g2 hg2
          refine gs (fun t k => XS.istore X0.here hx rfl (hb hby at_109) rfl (l' := #[.val (.int p0), .val (.int p1), .val (.int p2), .val (.int p3), .val (.int p4), .val (.int v1), .val (.int v2), .val (.int v3), .val (.int u1), .val (.int u2), .val (.int u3), .val (.int p3), .val (.int g2), .unset, .unset, .unset, .unset, .unset]) rfl k) ?_
          show G (s₁.setTop (mkF m 111 #[.val (.int p0), .val (.int p1), .val (.int p2), .val (.int p3), .val (.int p4), .val (.int v1), .val (.int v2), .val (.int v3), .val (.int u1), .val (.int u2), .val (.int u3), .val (.int p3), .val (.int g2), .unset, .unset, .unset, .unset, .unset] []))
          obtain ⟨T1, h1, X1, e1, E1, A1, D1, -, st1⟩ := newO X0 hx hZ hown (hw _ (List.mem_of_getElem? (i := 0) rfl)) (hw _ (List.mem_of_getElem? (i := 1) rfl)) (hw _ (List.mem_of_getElem? (i := 2) rfl)) e0 (g := (mkF m 111 #[.val (.int p0), .val (.int p1), .val (.int p2), .val (.int p3), .val (.int p4), .val (.int v1), .val (.int v2), .val (.int v3), .val (.int u1), .val (.int u2), .val (.int u3), .val (.int p3), .val (.int g2), .unset, .unset, .unset, .unset, .unset] [])) rfl (hb hby at_111) (by decide) (by decide)
          obtain ⟨b1, g1⟩ : ∃ z, z = h0.size := ⟨_, rfl⟩
          rw [← g1] at A1 D1 st1
          have sz_b1 : h0.size ≤ b1 := Nat.le_trans K0.1 (Nat.le_of_eq g1.symm)
          have g_b1 : n0 ≤ b1 := Nat.le_trans Z0 sz_b1
          have SC_q2 := SC.ext E1
          have K3 := K0.ext E1
          have E_b1 := A1
          have F_topic_b1 : Fld Z h1 b1 "com/example/consensus_to_coverage/consensustocoverage/trecfiles/Judgement" "topic" "Ljava/lang/String;" .null := D1 (Or.inr (hw _ (List.mem_of_getElem? (i := 39) rfl))) (ty := (.object "java/lang/String")) (by decide)
          have F_subtopic_b1 : Fld Z h1 b1 "com/example/consensus_to_coverage/consensustocoverage/trecfiles/Judgement" "subtopic" "Ljava/lang/String;" .null := D1 (Or.inr (hw _ (List.mem_of_getElem? (i := 41) rfl))) (ty := (.object "java/lang/String")) (by decide)
          have F_docId_b1 : Fld Z h1 b1 "com/example/consensus_to_coverage/consensustocoverage/trecfiles/Judgement" "docId" "Ljava/lang/String;" .null := D1 (Or.inr (hw _ (List.mem_of_getElem? (i := 43) rfl))) (ty := (.object "java/lang/String")) (by decide)
          have F_grade_b1 : Fld Z h1 b1 "com/example/consensus_to_coverage/consensustocoverage/trecfiles/Judgement" "grade" "I" (.int (0 : Int32)) := D1 (Or.inr (hw _ (List.mem_of_getElem? (i := 45) rfl))) (ty := .int) (by decide)
          refine gs (fun t k => st1 _ k) ?_
          show G (T1.setTop (mkF m 114 #[.val (.int p0), .val (.int p1), .val (.int p2), .val (.int p3), .val (.int p4), .val (.int v1), .val (.int v2), .val (.int v3), .val (.int u1), .val (.int u2), .val (.int u3), .val (.int p3), .val (.int g2), .unset, .unset, .unset, .unset, .unset] [(.ref b1)]))
          refine gs (fun t k => XS.dup X1.here hx rfl (hb hby at_114) rfl rfl k) ?_
          show G (T1.setTop (mkF m 115 #[.val (.int p0), .val (.int p1), .val (.int p2), .val (.int p3), .val (.int p4), .val (.int v1), .val (.int v2), .val (.int v3), .val (.int u1), .val (.int u2), .val (.int u3), .val (.int p3), .val (.int g2), .unset, .unset, .unset, .unset, .unset] [(.ref b1), (.ref b1)]))
          refine gs (fun t k => XS.iload X1.here hx rfl (hb hby at_115) rfl k) ?_
          show G (T1.setTop (mkF m 117 #[.val (.int p0), .val (.int p1), .val (.int p2), .val (.int p3), .val (.int p4), .val (.int v1), .val (.int v2), .val (.int v3), .val (.int u1), .val (.int u2), .val (.int u3), .val (.int p3), .val (.int g2), .unset, .unset, .unset, .unset, .unset] [(.int v1), (.ref b1), (.ref b1)]))
          obtain ⟨_, _, ⟨T4, L4, k4, n4⟩, -, X4, ⟨Lc4, hQ4, l4, y4, z4⟩, st4⟩ := Jvm.LawKit.callS X1 hx (y := (⟨"java/lang/String", "valueOf", "(C)Ljava/lang/String;"⟩ : MethodName)) hown (mvT hZ (hw _ (List.mem_of_getElem? (i := 3) rfl))) (mvT hZ (hw _ (List.mem_of_getElem? (i := 4) rfl))) (mvT hZ (hw _ (List.mem_of_getElem? (i := 5) rfl))) (mvT hZ (hw _ (List.mem_of_getElem? (i := 6) rfl))) (by decide) (backOf (W := 2) (rm1 l Z a0 hw [] v1 cs h1 n0 (Nat.le_trans Z0 K3.1) SC_q2 hcs (own_n255 r1)) hZ (hw _ (List.mem_of_getElem? (i := 6) rfl)) (hw _ (List.mem_of_getElem? (i := 5) rfl)) (by decide) (by decide)) (g := (mkF m 117 #[.val (.int p0), .val (.int p1), .val (.int p2), .val (.int p3), .val (.int p4), .val (.int v1), .val (.int v2), .val (.int v3), .val (.int u1), .val (.int u2), .val (.int u3), .val (.int p3), .val (.int g2), .unset, .unset, .unset, .unset, .unset] [(.int v1), (.ref b1), (.ref b1)])) rfl (by rw [hml]; rfl) (argsL := [(.int v1)]) (rest := [(.ref b1), (.ref b1)]) (lenOf pd_6 rfl) rfl (by show 2 * 0 + _ ≤ _; exact Nat.le_of_eq rfl) (hb hby at_117) (fun _ _ => ⟨rfl, e1, (by decide : 1 + 2 ≤ _), (by decide : 4 + 5 ≤ _)⟩)
          dsimp only [Pt.U, Pt.locs, Pt.cells, Pt.slots] at X4 l4 y4 z4 st4 hQ4
          subst y4 z4
          obtain ⟨sb4, rfl, N4q, Kc4, US4⟩ := hQ4
          have N4 : Fr n0 L4 := by rw [l4]; exact Fr.app N0 N4q
          refine gs (fun t k => st4 _ k) ?_
          have SC_q5 := own_sta_keep SC_q2 Kc4
          have E_b1_q6 := E_b1.keep Kc4
          have F_topic_b1_q7 := F_topic_b1.keep Kc4 nin0
          have F_subtopic_b1_q8 := F_subtopic_b1.keep Kc4 nin0
          have F_docId_b1_q9 := F_docId_b1.keep Kc4 nin0
          have F_grade_b1_q10 := F_grade_b1.keep Kc4 nin0
          have K11 := K3.trans Kc4 all0
          show G (T4.setTop (mkF m 120 #[.val (.int p0), .val (.int p1), .val (.int p2), .val (.int p3), .val (.int p4), .val (.int v1), .val (.int v2), .val (.int v3), .val (.int u1), .val (.int u2), .val (.int u3), .val (.int p3), .val (.int g2), .unset, .unset, .unset, .unset, .unset] [(.ref sb4), (.ref b1), (.ref b1)]))
          refine gs (fun t k => XS.iload X4.here hx rfl (hb hby at_120) rfl k) ?_
          show G (T4.setTop (mkF m 122 #[.val (.int p0), .val (.int p1), .val (.int p2), .val (.int p3), .val (.int p4), .val (.int v1), .val (.int v2), .val (.int v3), .val (.int u1), .val (.int u2), .val (.int u3), .val (.int p3), .val (.int g2), .unset, .unset, .unset, .unset, .unset] [(.int v2), (.ref sb4), (.ref b1), (.ref b1)]))
          obtain ⟨_, _, ⟨T12, L12, k12, n12⟩, -, X12, ⟨Lc12, hQ12, l12, y12, z12⟩, st12⟩ := Jvm.LawKit.callS X4 hx (y := (⟨"java/lang/String", "valueOf", "(C)Ljava/lang/String;"⟩ : MethodName)) hown (mvT hZ (hw _ (List.mem_of_getElem? (i := 3) rfl))) (mvT hZ (hw _ (List.mem_of_getElem? (i := 4) rfl))) (mvT hZ (hw _ (List.mem_of_getElem? (i := 5) rfl))) (mvT hZ (hw _ (List.mem_of_getElem? (i := 6) rfl))) (by decide) (backOf (W := 3) (rm1 l Z a0 hw [] v2 cs T4.heap n0 (Nat.le_trans Z0 K11.1) SC_q5 hcs (own_n255 r2)) hZ (hw _ (List.mem_of_getElem? (i := 6) rfl)) (hw _ (List.mem_of_getElem? (i := 5) rfl)) (by decide) (by decide)) (g := (mkF m 122 #[.val (.int p0), .val (.int p1), .val (.int p2), .val (.int p3), .val (.int p4), .val (.int v1), .val (.int v2), .val (.int v3), .val (.int u1), .val (.int u2), .val (.int u3), .val (.int p3), .val (.int g2), .unset, .unset, .unset, .unset, .unset] [(.int v2), (.ref sb4), (.ref b1), (.ref b1)])) rfl (by rw [hml]; rfl) (argsL := [(.int v2)]) (rest := [(.ref sb4), (.ref b1), (.ref b1)]) (lenOf pd_6 rfl) rfl (by show 2 * 0 + _ ≤ _; exact Nat.le_of_eq rfl) (hb hby at_122) (fun _ _ => ⟨rfl, rfl, (by decide : 3 + 2 ≤ _), (by decide : 9 + 5 ≤ _)⟩)
          dsimp only [Pt.U, Pt.locs, Pt.cells, Pt.slots] at X12 l12 y12 z12 st12 hQ12
          subst y12 z12
          obtain ⟨sb12, rfl, N12q, Kc12, US12⟩ := hQ12
          have N12 : Fr n0 L12 := by rw [l12]; exact Fr.app N4 N12q
          refine gs (fun t k => st12 _ k) ?_
          have SC_q13 := own_sta_keep SC_q5 Kc12
          have E_b1_q14 := E_b1_q6.keep Kc12
          have F_topic_b1_q15 := F_topic_b1_q7.keep Kc12 nin0
          have F_subtopic_b1_q16 := F_subtopic_b1_q8.keep Kc12 nin0
          have F_docId_b1_q17 := F_docId_b1_q9.keep Kc12 nin0
          have F_grade_b1_q18 := F_grade_b1_q10.keep Kc12 nin0
          have US4_q19 := own_str_keep US4 Kc12
          have K20 := K11.trans Kc12 all0
          show G (T12.setTop (mkF m 125 #[.val (.int p0), .val (.int p1), .val (.int p2), .val (.int p3), .val (.int p4), .val (.int v1), .val (.int v2), .val (.int v3), .val (.int u1), .val (.int u2), .val (.int u3), .val (.int p3), .val (.int g2), .unset, .unset, .unset, .unset, .unset] [(.ref sb12), (.ref sb4), (.ref b1), (.ref b1)]))
          refine gs (fun t k => XS.iload X12.here hx rfl (hb hby at_125) rfl k) ?_
          show G (T12.setTop (mkF m 127 #[.val (.int p0), .val (.int p1), .val (.int p2), .val (.int p3), .val (.int p4), .val (.int v1), .val (.int v2), .val (.int v3), .val (.int u1), .val (.int u2), .val (.int u3), .val (.int p3), .val (.int g2), .unset, .unset, .unset, .unset, .unset] [(.int v3), (.ref sb12), (.ref sb4), (.ref b1), (.ref b1)]))
          obtain ⟨_, _, ⟨T21, L21, k21, n21⟩, -, X21, ⟨Lc21, hQ21, l21, y21, z21⟩, st21⟩ := Jvm.LawKit.callS X12 hx (y := (⟨"java/lang/String", "valueOf", "(C)Ljava/lang/String;"⟩ : MethodName)) hown (mvT hZ (hw _ (List.mem_of_getElem? (i := 3) rfl))) (mvT hZ (hw _ (List.mem_of_getElem? (i := 4) rfl))) (mvT hZ (hw _ (List.mem_of_getElem? (i := 5) rfl))) (mvT hZ (hw _ (List.mem_of_getElem? (i := 6) rfl))) (by decide) (backOf (W := 4) (rm1 l Z a0 hw [] v3 cs T12.heap n0 (Nat.le_trans Z0 K20.1) SC_q13 hcs (own_n255 r3)) hZ (hw _ (List.mem_of_getElem? (i := 6) rfl)) (hw _ (List.mem_of_getElem? (i := 5) rfl)) (by decide) (by decide)) (g := (mkF m 127 #[.val (.int p0), .val (.int p1), .val (.int p2), .val (.int p3), .val (.int p4), .val (.int v1), .val (.int v2), .val (.int v3), .val (.int u1), .val (.int u2), .val (.int u3), .val (.int p3), .val (.int g2), .unset, .unset, .unset, .unset, .unset] [(.int v3), (.ref sb12), (.ref sb4), (.ref b1), (.ref b1)])) rfl (by rw [hml]; rfl) (argsL := [(.int v3)]) (rest := [(.ref sb12), (.ref sb4), (.ref b1), (.ref b1)]) (lenOf pd_6 rfl) rfl (by show 2 * 0 + _ ≤ _; exact Nat.le_of_eq rfl) (hb hby at_127) (fun _ _ => ⟨rfl, rfl, (by decide : 5 + 2 ≤ _), (by decide : 14 + 5 ≤ _)⟩)
          dsimp only [Pt.U, Pt.locs, Pt.cells, Pt.slots] at X21 l21 y21 z21 st21 hQ21
          subst y21 z21
          obtain ⟨sb21, rfl, N21q, Kc21, US21⟩ := hQ21
          have N21 : Fr n0 L21 := by rw [l21]; exact Fr.app N12 N21q
          refine gs (fun t k => st21 _ k) ?_
          have SC_q22 := own_sta_keep SC_q13 Kc21
          have E_b1_q23 := E_b1_q14.keep Kc21
          have F_topic_b1_q24 := F_topic_b1_q15.keep Kc21 nin0
          have F_subtopic_b1_q25 := F_subtopic_b1_q16.keep Kc21 nin0
          have F_docId_b1_q26 := F_docId_b1_q17.keep Kc21 nin0
          have F_grade_b1_q27 := F_grade_b1_q18.keep Kc21 nin0
          have US4_q28 := own_str_keep US4_q19 Kc21
          have US12_q29 := own_str_keep US12 Kc21
          have K30 := K20.trans Kc21 all0
          show G (T21.setTop (mkF m 130 #[.val (.int p0), .val (.int p1), .val (.int p2), .val (.int p3), .val (.int p4), .val (.int v1), .val (.int v2), .val (.int v3), .val (.int u1), .val (.int u2), .val (.int u3), .val (.int p3), .val (.int g2), .unset, .unset, .unset, .unset, .unset] [(.ref sb21), (.ref sb12), (.ref sb4), (.ref b1), (.ref b1)]))
          refine gs (fun t k => XS.iload X21.here hx rfl (hb hby at_130) rfl k) ?_
          show G (T21.setTop (mkF m 132 #[.val (.int p0), .val (.int p1), .val (.int p2), .val (.int p3), .val (.int p4), .val (.int v1), .val (.int v2), .val (.int v3), .val (.int u1), .val (.int u2), .val (.int u3), .val (.int p3), .val (.int g2), .unset, .unset, .unset, .unset, .unset] [(.int p3), (.ref sb21), (.ref sb12), (.ref sb4), (.ref b1), (.ref b1)]))
          obtain ⟨et31_0, ek31_0, EX31_0, -⟩ := id US4_q28
          obtain ⟨et31_1, ek31_1, EX31_1, -⟩ := id US12_q29
          obtain ⟨et31_2, ek31_2, EX31_2, -⟩ := id US21
          obtain ⟨_, _, ⟨T31, L31, k31, n31⟩, -, X31, ⟨Lc31, hQ31, l31, y31, z31⟩, st31⟩ := X21.specialBack hx (y := (⟨"com/example/consensus_to_coverage/consensustocoverage/trecfiles/Judgement", "<init>", "(Ljava/lang/String;Ljava/lang/String;Ljava/lang/String;I)V"⟩ : MethodName)) rfl hown (mvT hZ (hw _ (List.mem_of_getElem? (i := 29) rfl))) (mvT hZ (hw _ (List.mem_of_getElem? (i := 30) rfl))) (mvT hZ (hw _ (List.mem_of_getElem? (i := 31) rfl))) (by decide) (backOf (W := 1) (rm6 l Z a0 hw [] b1 sb4 sb12 sb21 p3 T21.heap n0 (Nat.le_trans Z0 K30.1) E_b1_q23 F_topic_b1_q24 F_subtopic_b1_q25 F_docId_b1_q26 F_grade_b1_q27 g_b1 EX31_0 EX31_1 EX31_2) hZ (hw _ (List.mem_of_getElem? (i := 31) rfl)) (hw _ (List.mem_of_getElem? (i := 2) rfl)) (by decide) (by decide)) (g := (mkF m 132 #[.val (.int p0), .val (.int p1), .val (.int p2), .val (.int p3), .val (.int p4), .val (.int v1), .val (.int v2), .val (.int v3), .val (.int u1), .val (.int u2), .val (.int u3), .val (.int p3), .val (.int g2), .unset, .unset, .unset, .unset, .unset] [(.int p3), (.ref sb21), (.ref sb12), (.ref sb4), (.ref b1), (.ref b1)])) rfl (by rw [hml]; rfl) (Steps.refl _) (a := b1) (argsL := [(.ref sb4), (.ref sb12), (.ref sb21), (.int p3)]) (rest := [(.ref b1)]) (lenOf pd_7 rfl) rfl (by show 2 * 0 + _ ≤ _; exact Nat.le_of_eq rfl) (hb hby at_132) (fun _ _ => ⟨rfl, rfl, (by decide : 7 + 0 ≤ _), (by decide : 19 + 0 ≤ _)⟩)
          dsimp only [Pt.U, Pt.locs, Pt.cells, Pt.slots] at X31 l31 y31 z31 st31 hQ31
          subst y31 z31
          obtain ⟨rfl, N31q, Kc31, Ex31, Fa31, Fb31, Fc31, Fd31⟩ := hQ31
          have N31 : Fr n0 L31 := by rw [l31]; exact Fr.app N21 N31q
          refine gs (fun t k => st31.trans k) ?_
          have SC_q32 := own_sta_keepE SC_q22 Kc31 E_b1_q23
          have E_b1_q33 := E_b1_q23.keep Kc31
          have US4_q34 := own_str_keepE US4_q28 Kc31 E_b1_q23 (by decide) (hw _ (List.mem_of_getElem? (i := 1) rfl))
          have US12_q35 := own_str_keepE US12_q29 Kc31 E_b1_q23 (by decide) (hw _ (List.mem_of_getElem? (i := 1) rfl))
          have US21_q36 := own_str_keepE US21 Kc31 E_b1_q23 (by decide) (hw _ (List.mem_of_getElem? (i := 1) rfl))
          have K37 := K30.trans Kc31 (allS (Or.inr sz_b1) all0)
          have JD31 : own_Jud Z T31.heap b1 (own_b v1) (own_b v2) (own_b v3) p3 := ⟨_, _, _, Ex31, Fa31, Fb31, Fc31, Fd31, US4_q34, US12_q35, US21_q36⟩
          show G (T31.setTop (mkF m 135 #[.val (.int p0), .val (.int p1), .val (.int p2), .val (.int p3), .val (.int p4), .val (.int v1), .val (.int v2), .val (.int v3), .val (.int u1), .val (.int u2), .val (.int u3), .val (.int p3), .val (.int g2), .unset, .unset, .unset, .unset, .unset] [(.ref b1)]))
          refine gs (fun t k => XS.astore X31.here hx rfl (hb hby at_135) rfl rfl (l' := #[.val (.int p0), .val (.int p1), .val (.int p2), .val (.int p3), .val (.int p4), .val (.int v1), .val (.int v2), .val (.int v3), .val (.int u1), .val (.int u2), .val (.int u3), .val (.int p3), .val (.int g2), .val (.ref b1), .unset, .unset, .unset, .unset]) rfl k) ?_
          show G (T31.setTop (mkF m 137 #[.val (.int p0), .val (.int p1), .val (.int p2), .val (.int p3), .val (.int p4), .val (.int v1), .val (.int v2), .val (.int v3), .val (.int u1), .val (.int u2), .val (.int u3), .val (.int p3), .val (.int g2), .val (.ref b1), .unset, .unset, .unset, .unset] []))
          obtain ⟨T38, h38, X38, e38, E38, A38, D38, -, st38⟩ := newO X31 hx hZ hown (hw _ (List.mem_of_getElem? (i := 0) rfl)) (hw _ (List.mem_of_getElem? (i := 1) rfl)) (hw _ (List.mem_of_getElem? (i := 2) rfl)) rfl (g := (mkF m 137 #[.val (.int p0), .val (.int p1), .val (.int p2), .val (.int p3), .val (.int p4), .val (.int v1), .val (.int v2), .val (.int v3), .val (.int u1), .val (.int u2), .val (.int u3), .val (.int p3), .val (.int g2), .val (.ref b1), .unset, .unset, .unset, .unset] [])) rfl (hb hby at_137) (by decide) (by decide)
          obtain ⟨b38, g38⟩ : ∃ z, z = T31.heap.size := ⟨_, rfl⟩
          rw [← g38] at A38 D38 st38
          have sz_b38 : h0.size ≤ b38 := Nat.le_trans K37.1 (Nat.le_of_eq g38.symm)
          have g_b38 : n0 ≤ b38 := Nat.le_trans Z0 sz_b38
          have ne_b1_b38 : b1 ≠ b38 := Nat.ne_of_lt (Nat.lt_of_lt_of_le (own_jud_lt JD31) (Nat.le_of_eq g38.symm))
          have SC_q39 := SC_q32.ext E38
          have JD31_q40 := own_jud_ext JD31 E38
          have K41 := K37.ext E38
          have E_b38 := A38
          have F_topic_b38 : Fld Z h38 b38 "com/example/consensus_to_coverage/consensustocoverage/trecfiles/Judgement" "topic" "Ljava/lang/String;" .null := D38 (Or.inr (hw _ (List.mem_of_getElem? (i := 39) rfl))) (ty := (.object "java/lang/String")) (by decide)
          have F_subtopic_b38 : Fld Z h38 b38 "com/example/consensus_to_coverage/consensustocoverage/trecfiles/Judgement" "subtopic" "Ljava/lang/String;" .null := D38 (Or.inr (hw _ (List.mem_of_getElem? (i := 41) rfl))) (ty := (.object "java/lang/String")) (by decide)
          have F_docId_b38 : Fld Z h38 b38 "com/example/consensus_to_coverage/consensustocoverage/trecfiles/Judgement" "docId" "Ljava/lang/String;" .null := D38 (Or.inr (hw _ (List.mem_of_getElem? (i := 43) rfl))) (ty := (.object "java/lang/String")) (by decide)
          have F_grade_b38 : Fld Z h38 b38 "com/example/consensus_to_coverage/consensustocoverage/trecfiles/Judgement" "grade" "I" (.int (0 : Int32)) := D38 (Or.inr (hw _ (List.mem_of_getElem? (i := 45) rfl))) (ty := .int) (by decide)
          refine gs (fun t k => st38 _ k) ?_
          show G (T38.setTop (mkF m 140 #[.val (.int p0), .val (.int p1), .val (.int p2), .val (.int p3), .val (.int p4), .val (.int v1), .val (.int v2), .val (.int v3), .val (.int u1), .val (.int u2), .val (.int u3), .val (.int p3), .val (.int g2), .val (.ref b1), .unset, .unset, .unset, .unset] [(.ref b38)]))
          refine gs (fun t k => XS.dup X38.here hx rfl (hb hby at_140) rfl rfl k) ?_
          show G (T38.setTop (mkF m 141 #[.val (.int p0), .val (.int p1), .val (.int p2), .val (.int p3), .val (.int p4), .val (.int v1), .val (.int v2), .val (.int v3), .val (.int u1), .val (.int u2), .val (.int u3), .val (.int p3), .val (.int g2), .val (.ref b1), .unset, .unset, .unset, .unset] [(.ref b38), (.ref b38)]))
          refine gs (fun t k => XS.iload X38.here hx rfl (hb hby at_141) rfl k) ?_
          show G (T38.setTop (mkF m 143 #[.val (.int p0), .val (.int p1), .val (.int p2), .val (.int p3), .val (.int p4), .val (.int v1), .val (.int v2), .val (.int v3), .val (.int u1), .val (.int u2), .val (.int u3), .val (.int p3), .val (.int g2), .val (.ref b1), .unset, .unset, .unset, .unset] [(.int u1), (.ref b38), (.ref b38)]))
          obtain ⟨_, _, ⟨T42, L42, k42, n42⟩, -, X42, ⟨Lc42, hQ42, l42, y42, z42⟩, st42⟩ := Jvm.LawKit.callS X38 hx (y := (⟨"java/lang/String", "valueOf", "(C)Ljava/lang/String;"⟩ : MethodName)) hown (mvT hZ (hw _ (List.mem_of_getElem? (i := 3) rfl))) (mvT hZ (hw _ (List.mem_of_getElem? (i := 4) rfl))) (mvT hZ (hw _ (List.mem_of_getElem? (i := 5) rfl))) (mvT hZ (hw _ (List.mem_of_getElem? (i := 6) rfl))) (by decide) (backOf (W := 2) (rm1 l Z a0 hw [] u1 cs h38 n0 (Nat.le_trans Z0 K41.1) SC_q39 hcs (own_n255 t1)) hZ (hw _ (List.mem_of_getElem? (i := 6) rfl)) (hw _ (List.mem_of_getElem? (i := 5) rfl)) (by decide) (by decide)) (g := (mkF m 143 #[.val (.int p0), .val (.int p1), .val (.int p2), .val (.int p3), .val (.int p4), .val (.int v1), .val (.int v2), .val (.int v3), .val (.int u1), .val (.int u2), .val (.int u3), .val (.int p3), .val (.int g2), .val (.ref b1), .unset, .unset, .unset, .unset] [(.int u1), (.ref b38), (.ref b38)])) rfl (by rw [hml]; rfl) (argsL := [(.int u1)]) (rest := [(.ref b38), (.ref b38)]) (lenOf pd_6 rfl) rfl (by show 2 * 0 + _ ≤ _; exact Nat.le_of_eq rfl) (hb hby at_143) (fun _ _ => ⟨rfl, e38, (by decide : 8 + 2 ≤ _), (by decide : 23 + 5 ≤ _)⟩)
          dsimp only [Pt.U, Pt.locs, Pt.cells, Pt.slots] at X42 l42 y42 z42 st42 hQ42
          subst y42 z42
          obtain ⟨sb42, rfl, N42q, Kc42, US42⟩ := hQ42
          have N42 : Fr n0 L42 := by rw [l42]; exact Fr.app N31 N42q
          refine gs (fun t k => st42 _ k) ?_
          have SC_q43 := own_sta_keep SC_q39 Kc42
          have JD31_q44 := own_jud_keep JD31_q40 Kc42
          have E_b38_q45 := E_b38.keep Kc42
          have F_topic_b38_q46 := F_topic_b38.keep Kc42 nin0
          have F_subtopic_b38_q47 := F_subtopic_b38.keep Kc42 nin0
          have F_docId_b38_q48 := F_docId_b38.keep Kc42 nin0
          have F_grade_b38_q49 := F_grade_b38.keep Kc42 nin0
          have K50 := K41.trans Kc42 all0
          show G (T42.setTop (mkF m 146 #[.val (.int p0), .val (.int p1), .val (.int p2), .val (.int p3), .val (.int p4), .val (.int v1), .val (.int v2), .val (.int v3), .val (.int u1), .val (.int u2), .val (.int u3), .val (.int p3), .val (.int g2), .val (.ref b1), .unset, .unset, .unset, .unset] [(.ref sb42), (.ref b38), (.ref b38)]))
          refine gs (fun t k => XS.iload X42.here hx rfl (hb hby at_146) rfl k) ?_
          show G (T42.setTop (mkF m 148 #[.val (.int p0), .val (.int p1), .val (.int p2), .val (.int p3), .val (.int p4), .val (.int v1), .val (.int v2), .val (.int v3), .val (.int u1), .val (.int u2), .val (.int u3), .val (.int p3), .val (.int g2), .val (.ref b1), .unset, .unset, .unset, .unset] [(.int u2), (.ref sb42), (.ref b38), (.ref b38)]))
          obtain ⟨_, _, ⟨T51, L51, k51, n51⟩, -, X51, ⟨Lc51, hQ51, l51, y51, z51⟩, st51⟩ := Jvm.LawKit.callS X42 hx (y := (⟨"java/lang/String", "valueOf", "(C)Ljava/lang/String;"⟩ : MethodName)) hown (mvT hZ (hw _ (List.mem_of_getElem? (i := 3) rfl))) (mvT hZ (hw _ (List.mem_of_getElem? (i := 4) rfl))) (mvT hZ (hw _ (List.mem_of_getElem? (i := 5) rfl))) (mvT hZ (hw _ (List.mem_of_getElem? (i := 6) rfl))) (by decide) (backOf (W := 3) (rm1 l Z a0 hw [] u2 cs T42.heap n0 (Nat.le_trans Z0 K50.1) SC_q43 hcs (own_n255 t2)) hZ (hw _ (List.mem_of_getElem? (i := 6) rfl)) (hw _ (List.mem_of_getElem? (i := 5) rfl)) (by decide) (by decide)) (g := (mkF m 148 #[.val (.int p0), .val (.int p1), .val (.int p2), .val (.int p3), .val (.int p4), .val (.int v1), .val (.int v2), .val (.int v3), .val (.int u1), .val (.int u2), .val (.int u3), .val (.int p3), .val (.int g2), .val (.ref b1), .unset, .unset, .unset, .unset] [(.int u2), (.ref sb42), (.ref b38), (.ref b38)])) rfl (by rw [hml]; rfl) (argsL := [(.int u2)]) (rest := [(.ref sb42), (.ref b38), (.ref b38)]) (lenOf pd_6 rfl) rfl (by show 2 * 0 + _ ≤ _; exact Nat.le_of_eq rfl) (hb hby at_148) (fun _ _ => ⟨rfl, rfl, (by decide : 10 + 2 ≤ _), (by decide : 28 + 5 ≤ _)⟩)
          dsimp only [Pt.U, Pt.locs, Pt.cells, Pt.slots] at X51 l51 y51 z51 st51 hQ51
          subst y51 z51
          obtain ⟨sb51, rfl, N51q, Kc51, US51⟩ := hQ51
          have N51 : Fr n0 L51 := by rw [l51]; exact Fr.app N42 N51q
          refine gs (fun t k => st51 _ k) ?_
          have SC_q52 := own_sta_keep SC_q43 Kc51
          have JD31_q53 := own_jud_keep JD31_q44 Kc51
          have E_b38_q54 := E_b38_q45.keep Kc51
          have F_topic_b38_q55 := F_topic_b38_q46.keep Kc51 nin0
          have F_subtopic_b38_q56 := F_subtopic_b38_q47.keep Kc51 nin0
          have F_docId_b38_q57 := F_docId_b38_q48.keep Kc51 nin0
          have F_grade_b38_q58 := F_grade_b38_q49.keep Kc51 nin0
          have US42_q59 := own_str_keep US42 Kc51
          have K60 := K50.trans Kc51 all0
          show G (T51.setTop (mkF m 151 #[.val (.int p0), .val (.int p1), .val (.int p2), .val (.int p3), .val (.int p4), .val (.int v1), .val (.int v2), .val (.int v3), .val (.int u1), .val (.int u2), .val (.int u3), .val (.int p3), .val (.int g2), .val (.ref b1), .unset, .unset, .unset, .unset] [(.ref sb51), (.ref sb42), (.ref b38), (.ref b38)]))
          refine gs (fun t k => XS.iload X51.here hx rfl (hb hby at_151) rfl k) ?_
          show G (T51.setTop (mkF m 153 #[.val (.int p0), .val (.int p1), .val (.int p2), .val (.int p3), .val (.int p4), .val (.int v1), .val (.int v2), .val (.int v3), .val (.int u1), .val (.int u2), .val (.int u3), .val (.int p3), .val (.int g2), .val (.ref b1), .unset, .unset, .unset, .unset] [(.int u3), (.ref sb51), (.ref sb42), (.ref b38), (.ref b38)]))
          obtain ⟨_, _, ⟨T61, L61, k61, n61⟩, -, X61, ⟨Lc61, hQ61, l61, y61, z61⟩, st61⟩ := Jvm.LawKit.callS X51 hx (y := (⟨"java/lang/String", "valueOf", "(C)Ljava/lang/String;"⟩ : MethodName)) hown (mvT hZ (hw _ (List.mem_of_getElem? (i := 3) rfl))) (mvT hZ (hw _ (List.mem_of_getElem? (i := 4) rfl))) (mvT hZ (hw _ (List.mem_of_getElem? (i := 5) rfl))) (mvT hZ (hw _ (List.mem_of_getElem? (i := 6) rfl))) (by decide) (backOf (W := 4) (rm1 l Z a0 hw [] u3 cs T51.heap n0 (Nat.le_trans Z0 K60.1) SC_q52 hcs (own_n255 t3)) hZ (hw _ (List.mem_of_getElem? (i := 6) rfl)) (hw _ (List.mem_of_getElem? (i := 5) rfl)) (by decide) (by decide)) (g := (mkF m 153 #[.val (.int p0), .val (.int p1), .val (.int p2), .val (.int p3), .val (.int p4), .val (.int v1), .val (.int v2), .val (.int v3), .val (.int u1), .val (.int u2), .val (.int u3), .val (.int p3), .val (.int g2), .val (.ref b1), .unset, .unset, .unset, .unset] [(.int u3), (.ref sb51), (.ref sb42), (.ref b38), (.ref b38)])) rfl (by rw [hml]; rfl) (argsL := [(.int u3)]) (rest := [(.ref sb51), (.ref sb42), (.ref b38), (.ref b38)]) (lenOf pd_6 rfl) rfl (by show 2 * 0 + _ ≤ _; exact Nat.le_of_eq rfl) (hb hby at_153) (fun _ _ => ⟨rfl, rfl, (by decide : 12 + 2 ≤ _), (by decide : 33 + 5 ≤ _)⟩)
          dsimp only [Pt.U, Pt.locs, Pt.cells, Pt.slots] at X61 l61 y61 z61 st61 hQ61
          subst y61 z61
          obtain ⟨sb61, rfl, N61q, Kc61, US61⟩ := hQ61
          have N61 : Fr n0 L61 := by rw [l61]; exact Fr.app N51 N61q
          refine gs (fun t k => st61 _ k) ?_
          have SC_q62 := own_sta_keep SC_q52 Kc61
          have JD31_q63 := own_jud_keep JD31_q53 Kc61
          have E_b38_q64 := E_b38_q54.keep Kc61
          have F_topic_b38_q65 := F_topic_b38_q55.keep Kc61 nin0
          have F_subtopic_b38_q66 := F_subtopic_b38_q56.keep Kc61 nin0
          have F_docId_b38_q67 := F_docId_b38_q57.keep Kc61 nin0
          have F_grade_b38_q68 := F_grade_b38_q58.keep Kc61 nin0
          have US42_q69 := own_str_keep US42_q59 Kc61
          have US51_q70 := own_str_keep US51 Kc61
          have K71 := K60.trans Kc61 all0
          show G (T61.setTop (mkF m 156 #[.val (.int p0), .val (.int p1), .val (.int p2), .val (.int p3), .val (.int p4), .val (.int v1), .val (.int v2), .val (.int v3), .val (.int u1), .val (.int u2), .val (.int u3), .val (.int p3), .val (.int g2), .val (.ref b1), .unset, .unset, .unset, .unset] [(.ref sb61), (.ref sb51), (.ref sb42), (.ref b38), (.ref b38)]))
          refine gs (fun t k => XS.iload X61.here hx rfl (hb hby at_156) rfl k) ?_
          show G (T61.setTop (mkF m 158 #[.val (.int p0), .val (.int p1), .val (.int p2), .val (.int p3), .val (.int p4), .val (.int v1), .val (.int v2), .val (.int v3), .val (.int u1), .val (.int u2), .val (.int u3), .val (.int p3), .val (.int g2), .val (.ref b1), .unset, .unset, .unset, .unset] [(.int g2), (.ref sb61), (.ref sb51), (.ref sb42), (.ref b38), (.ref b38)]))
          obtain ⟨et72_0, ek72_0, EX72_0, -⟩ := id US42_q69
          obtain ⟨et72_1, ek72_1, EX72_1, -⟩ := id US51_q70
          obtain ⟨et72_2, ek72_2, EX72_2, -⟩ := id US61
          obtain ⟨_, _, ⟨T72, L72, k72, n72⟩, -, X72, ⟨Lc72, hQ72, l72, y72, z72⟩, st72⟩ := X61.specialBack hx (y := (⟨"com/example/consensus_to_coverage/consensustocoverage/trecfiles/Judgement", "<init>", "(Ljava/lang/String;Ljava/lang/String;Ljava/lang/String;I)V"⟩ : MethodName)) rfl hown (mvT hZ (hw _ (List.mem_of_getElem? (i := 29) rfl))) (mvT hZ (hw _ (List.mem_of_getElem? (i := 30) rfl))) (mvT hZ (hw _ (List.mem_of_getElem? (i := 31) rfl))) (by decide) (backOf (W := 1) (rm6 l Z a0 hw [] b38 sb42 sb51 sb61 g2 T61.heap n0 (Nat.le_trans Z0 K71.1) E_b38_q64 F_topic_b38_q65 F_subtopic_b38_q66 F_docId_b38_q67 F_grade_b38_q68 g_b38 EX72_0 EX72_1 EX72_2) hZ (hw _ (List.mem_of_getElem? (i := 31) rfl)) (hw _ (List.mem_of_getElem? (i := 2) rfl)) (by decide) (by decide)) (g := (mkF m 158 #[.val (.int p0), .val (.int p1), .val (.int p2), .val (.int p3), .val (.int p4), .val (.int v1), .val (.int v2), .val (.int v3), .val (.int u1), .val (.int u2), .val (.int u3), .val (.int p3), .val (.int g2), .val (.ref b1), .unset, .unset, .unset, .unset] [(.int g2), (.ref sb61), (.ref sb51), (.ref sb42), (.ref b38), (.ref b38)])) rfl (by rw [hml]; rfl) (Steps.refl _) (a := b38) (argsL := [(.ref sb42), (.ref sb51), (.ref sb61), (.int g2)]) (rest := [(.ref b38)]) (lenOf pd_7 rfl) rfl (by show 2 * 0 + _ ≤ _; exact Nat.le_of_eq rfl) (hb hby at_158) (fun _ _ => ⟨rfl, rfl, (by decide : 14 + 0 ≤ _), (by decide : 38 + 0 ≤ _)⟩)
          dsimp only [Pt.U, Pt.locs, Pt.cells, Pt.slots] at X72 l72 y72 z72 st72 hQ72
          subst y72 z72
          obtain ⟨rfl, N72q, Kc72, Ex72, Fa72, Fb72, Fc72, Fd72⟩ := hQ72
          have N72 : Fr n0 L72 := by rw [l72]; exact Fr.app N61 N72q
          refine gs (fun t k => st72.trans k) ?_
          have SC_q73 := own_sta_keepE SC_q62 Kc72 E_b38_q64
          have JD31_q74 := own_jud_keepE JD31_q63 Kc72 E_b38_q64 (by decide) (hw _ (List.mem_of_getElem? (i := 1) rfl)) ne_b1_b38
          have E_b38_q75 := E_b38_q64.keep Kc72
          have US42_q76 := own_str_keepE US42_q69 Kc72 E_b38_q64 (by decide) (hw _ (List.mem_of_getElem? (i := 1) rfl))
          have US51_q77 := own_str_keepE US51_q70 Kc72 E_b38_q64 (by decide) (hw _ (List.mem_of_getElem? (i := 1) rfl))
          have US61_q78 := own_str_keepE US61 Kc72 E_b38_q64 (by decide) (hw _ (List.mem_of_getElem? (i := 1) rfl))
          have K79 := K71.trans Kc72 (allS (Or.inr sz_b38) all0)
          have JD72 : own_Jud Z T72.heap b38 (own_b u1) (own_b u2) (own_b u3) g2 := ⟨_, _, _, Ex72, Fa72, Fb72, Fc72, Fd72, US42_q76, US51_q77, US61_q78⟩
          show G (T72.setTop (mkF m 161 #[.val (.int p0), .val (.int p1), .val (.int p2), .val (.int p3), .val (.int p4), .val (.int v1), .val (.int v2), .val (.int v3), .val (.int u1), .val (.int u2), .val (.int u3), .val (.int p3), .val (.int g2), .val (.ref b1), .unset, .unset, .unset, .unset] [(.ref b38)]))
          refine gs (fun t k => XS.astore X72.here hx rfl (hb hby at_161) rfl rfl (l' := #[.val (.int p0), .val (.int p1), .val (.int p2), .val (.int p3), .val (.int p4), .val (.int v1), .val (.int v2), .val (.int v3), .val (.int u1), .val (.int u2), .val (.int u3), .val (.int p3), .val (.int g2), .val (.ref b1), .val (.ref b38), .unset, .unset, .unset]) rfl k) ?_
          show G (T72.setTop (mkF m 163 #[.val (.int p0), .val (.int p1), .val (.int p2), .val (.int p3), .val (.int p4), .val (.int v1), .val (.int v2), .val (.int v3), .val (.int u1), .val (.int u2), .val (.int u3), .val (.int p3), .val (.int g2), .val (.ref b1), .val (.ref b38), .unset, .unset, .unset] []))
          refine gs (fun t k => XS.iloadN X72.here hx rfl (hb hby at_163) rfl k) ?_
          show G (T72.setTop (mkF m 164 #[.val (.int p0), .val (.int p1), .val (.int p2), .val (.int p3), .val (.int p4), .val (.int v1), .val (.int v2), .val (.int v3), .val (.int u1), .val (.int u2), .val (.int u3), .val (.int p3), .val (.int g2), .val (.ref b1), .val (.ref b38), .unset, .unset, .unset] [(.int p2)]))
          refine gs (fun t k => XS.iconst X72.here hx rfl (hb hby at_164) k) ?_
          show G (T72.setTop (mkF m 165 #[.val (.int p0), .val (.int p1), .val (.int p2), .val (.int p3), .val (.int p4), .val (.int v1), .val (.int v2), .val (.int v3), .val (.int u1), .val (.int u2), .val (.int u3), .val (.int p3), .val (.int g2), .val (.ref b1), .val (.ref b38), .unset, .unset, .unset] [(.int (4 : Int32)), (.int p2)]))
          refine gs (fun t k => XS.iushr X72.here hx rfl (hb hby at_165) rfl k) ?_
          show G (T72.setTop (mkF m 166 #[.val (.int p0), .val (.int p1), .val (.int p2), .val (.int p3), .val (.int p4), .val (.int v1), .val (.int v2), .val (.int v3), .val (.int u1), .val (.int u2), .val (.int u3), .val (.int p3), .val (.int g2), .val (.ref b1), .val (.ref b38), .unset, .unset, .unset] [(.int ((p2.toUInt32 >>> ((4 : Int32) &&& 31).toUInt32).toInt32))]))
          refine gs (fun t k => XS.bipush X72.here hx rfl (hb hby at_166) k) ?_
          show G (T72.setTop (mkF m 168 #[.val (.int p0), .val (.int p1), .val (.int p2), .val (.int p3), .val (.int p4), .val (.int v1), .val (.int v2), .val (.int v3), .val (.int u1), .val (.int u2), .val (.int u3), .val (.int p3), .val (.int g2), .val (.ref b1), .val (.ref b38), .unset, .unset, .unset] [(.int (7 : Int32)), (.int ((p2.toUInt32 >>> ((4 : Int32) &&& 31).toUInt32).toInt32))]))
          refine gs (fun t k => XS.iand X72.here hx rfl (hb hby at_168) rfl k) ?_
          show G (T72.setTop (mkF m 169 #[.val (.int p0), .val (.int p1), .val (.int p2), .val (.int p3), .val (.int p4), .val (.int v1), .val (.int v2), .val (.int v3), .val (.int u1), .val (.int u2), .val (.int u3), .val (.int p3), .val (.int g2), .val (.ref b1), .val (.ref b38), .unset, .unset, .unset] [(.int (((p2.toUInt32 >>> ((4 : Int32) &&& 31).toUInt32).toInt32) &&& (7 : Int32)))]))
          obtain ⟨kk, hkk⟩ : ∃ z : Int32, z = (((p2.toUInt32 >>> ((4 : Int32) &&& 31).toUInt32).toInt32) &&& (7 : Int32)) := ⟨_, rfl⟩
          rw [← hkk]
          show G (T72.setTop (mkF m 169 #[.val (.int p0), .val (.int p1), .val (.int p2), .val (.int p3), .val (.int p4), .val (.int v1), .val (.int v2), .val (.int v3), .val (.int u1), .val (.int u2), .val (.int u3), .val (.int p3), .val (.int g2), .val (.ref b1), .val (.ref b38), .unset, .unset, .unset] [(.int kk)]))
          refine gs (fun t k => XS.istore X72.here hx rfl (hb hby at_169) rfl (l' := #[.val (.int p0), .val (.int p1), .val (.int p2), .val (.int p3), .val (.int p4), .val (.int v1), .val (.int v2), .val (.int v3), .val (.int u1), .val (.int u2), .val (.int u3), .val (.int p3), .val (.int g2), .val (.ref b1), .val (.ref b38), .val (.int kk), .unset, .unset]) rfl k) ?_
          show G (T72.setTop (mkF m 171 #[.val (.int p0), .val (.int p1), .val (.int p2), .val (.int p3), .val (.int p4), .val (.int v1), .val (.int v2), .val (.int v3), .val (.int u1), .val (.int u2), .val (.int u3), .val (.int p3), .val (.int g2), .val (.ref b1), .val (.ref b38), .val (.int kk), .unset, .unset] []))
          refine gs (fun t k => XS.iload X72.here hx rfl (hb hby at_171) rfl k) ?_
          show G (T72.setTop (mkF m 173 #[.val (.int p0), .val (.int p1), .val (.int p2), .val (.int p3), .val (.int p4), .val (.int v1), .val (.int v2), .val (.int v3), .val (.int u1), .val (.int u2), .val (.int u3), .val (.int p3), .val (.int g2), .val (.ref b1), .val (.ref b38), .val (.int kk), .unset, .unset] [(.int kk)]))
          refine gs (fun t k => XS.iconst X72.here hx rfl (hb hby at_173) k) ?_
          show G (T72.setTop (mkF m 174 #[.val (.int p0), .val (.int p1), .val (.int p2), .val (.int p3), .val (.int p4), .val (.int v1), .val (.int v2), .val (.int v3), .val (.int u1), .val (.int u2), .val (.int u3), .val (.int p3), .val (.int g2), .val (.ref b1), .val (.ref b38), .val (.int kk), .unset, .unset] [(.int (4 : Int32)), (.int kk)]))
          by_cases hc174 : kk < (4 : Int32)
          · refine gs (fun t k => XS.icmpYes X72.here hx rfl (pc0 := 174) (pc' := 184) rfl (hb hby at_174) rfl (tlt hc174).1 (by decide) (by decide) k) ?_
            show G (T72.setTop (mkF m 184 #[.val (.int p0), .val (.int p1), .val (.int p2), .val (.int p3), .val (.int p4), .val (.int v1), .val (.int v2), .val (.int v3), .val (.int u1), .val (.int u2), .val (.int u3), .val (.int p3), .val (.int g2), .val (.ref b1), .val (.ref b38), .val (.int kk), .unset, .unset] []))
            refine gs (fun t k => XS.aload X72.here hx rfl (hb hby at_184) rfl rfl k) ?_
            show G (T72.setTop (mkF m 186 #[.val (.int p0), .val (.int p1), .val (.int p2), .val (.int p3), .val (.int p4), .val (.int v1), .val (.int v2), .val (.int v3), .val (.int u1), .val (.int u2), .val (.int u3), .val (.int p3), .val (.int g2), .val (.ref b1), .val (.ref b38), .val (.int kk), .unset, .unset] [(.ref b38)]))
            refine gs (fun t k => XS.astore X72.here hx rfl (hb hby at_186) rfl rfl (l' := #[.val (.int p0), .val (.int p1), .val (.int p2), .val (.int p3), .val (.int p4), .val (.int v1), .val (.int v2), .val (.int v3), .val (.int u1), .val (.int u2), .val (.int u3), .val (.int p3), .val (.int g2), .val (.ref b1), .val (.ref b38), .val (.int kk), .val (.ref b38), .unset]) rfl k) ?_
            show G (T72.setTop (mkF m 188 #[.val (.int p0), .val (.int p1), .val (.int p2), .val (.int p3), .val (.int p4), .val (.int v1), .val (.int v2), .val (.int v3), .val (.int u1), .val (.int u2), .val (.int u3), .val (.int p3), .val (.int g2), .val (.ref b1), .val (.ref b38), .val (.int kk), .val (.ref b38), .unset] []))
            refine gs (fun t k => XS.iload X72.here hx rfl (hb hby at_188) rfl k) ?_
            show G (T72.setTop (mkF m 190 #[.val (.int p0), .val (.int p1), .val (.int p2), .val (.int p3), .val (.int p4), .val (.int v1), .val (.int v2), .val (.int v3), .val (.int u1), .val (.int u2), .val (.int u3), .val (.int p3), .val (.int g2), .val (.ref b1), .val (.ref b38), .val (.int kk), .val (.ref b38), .unset] [(.int v1)]))
            refine gs (fun t k => XS.iload X72.here hx rfl (hb hby at_190) rfl k) ?_
            show G (T72.setTop (mkF m 192 #[.val (.int p0), .val (.int p1), .val (.int p2), .val (.int p3), .val (.int p4), .val (.int v1), .val (.int v2), .val (.int v3), .val (.int u1), .val (.int u2), .val (.int u3), .val (.int p3), .val (.int g2), .val (.ref b1), .val (.ref b38), .val (.int kk), .val (.ref b38), .unset] [(.int u1), (.int v1)]))
            by_cases hc192 : v1 = u1
            · refine gs (fun t k => XS.icmpNo X72.here hx rfl (hb hby at_192) rfl (teq hc192).2 k) ?_
              show G (T72.setTop (mkF m 195 #[.val (.int p0), .val (.int p1), .val (.int p2), .val (.int p3), .val (.int p4), .val (.int v1), .val (.int v2), .val (.int v3), .val (.int u1), .val (.int u2), .val (.int u3), .val (.int p3), .val (.int g2), .val (.ref b1), .val (.ref b38), .val (.int kk), .val (.ref b38), .unset] []))
              refine gs (fun t k => XS.iload X72.here hx rfl (hb hby at_195) rfl k) ?_
              show G (T72.setTop (mkF m 197 #[.val (.int p0), .val (.int p1), .val (.int p2), .val (.int p3), .val (.int p4), .val (.int v1), .val (.int v2), .val (.int v3), .val (.int u1), .val (.int u2), .val (.int u3), .val (.int p3), .val (.int g2), .val (.ref b1), .val (.ref b38), .val (.int kk), .val (.ref b38), .unset] [(.int v2)]))
              refine gs (fun t k => XS.iload X72.here hx rfl (hb hby at_197) rfl k) ?_
              show G (T72.setTop (mkF m 199 #[.val (.int p0), .val (.int p1), .val (.int p2), .val (.int p3), .val (.int p4), .val (.int v1), .val (.int v2), .val (.int v3), .val (.int u1), .val (.int u2), .val (.int u3), .val (.int p3), .val (.int g2), .val (.ref b1), .val (.ref b38), .val (.int kk), .val (.ref b38), .unset] [(.int u2), (.int v2)]))
              by_cases hc199 : v2 = u2
              · refine gs (fun t k => XS.icmpNo X72.here hx rfl (hb hby at_199) rfl (teq hc199).2 k) ?_
                show G (T72.setTop (mkF m 202 #[.val (.int p0), .val (.int p1), .val (.int p2), .val (.int p3), .val (.int p4), .val (.int v1), .val (.int v2), .val (.int v3), .val (.int u1), .val (.int u2), .val (.int u3), .val (.int p3), .val (.int g2), .val (.ref b1), .val (.ref b38), .val (.int kk), .val (.ref b38), .unset] []))
                refine gs (fun t k => XS.iload X72.here hx rfl (hb hby at_202) rfl k) ?_
                show G (T72.setTop (mkF m 204 #[.val (.int p0), .val (.int p1), .val (.int p2), .val (.int p3), .val (.int p4), .val (.int v1), .val (.int v2), .val (.int v3), .val (.int u1), .val (.int u2), .val (.int u3), .val (.int p3), .val (.int g2), .val (.ref b1), .val (.ref b38), .val (.int kk), .val (.ref b38), .unset] [(.int v3)]))
                refine gs (fun t k => XS.iload X72.here hx rfl (hb hby at_204) rfl k) ?_
                show G (T72.setTop (mkF m 206 #[.val (.int p0), .val (.int p1), .val (.int p2), .val (.int p3), .val (.int p4), .val (.int v1), .val (.int v2), .val (.int v3), .val (.int u1), .val (.int u2), .val (.int u3), .val (.int p3), .val (.int g2), .val (.ref b1), .val (.ref b38), .val (.int kk), .val (.ref b38), .unset] [(.int u3), (.int v3)]))
                by_cases hc206 : v3 = u3
                · refine gs (fun t k => XS.icmpNo X72.here hx rfl (hb hby at_206) rfl (teq hc206).2 k) ?_
                  show G (T72.setTop (mkF m 209 #[.val (.int p0), .val (.int p1), .val (.int p2), .val (.int p3), .val (.int p4), .val (.int v1), .val (.int v2), .val (.int v3), .val (.int u1), .val (.int u2), .val (.int u3), .val (.int p3), .val (.int g2), .val (.ref b1), .val (.ref b38), .val (.int kk), .val (.ref b38), .unset] []))
                  refine gs (fun t k => XS.iload X72.here hx rfl (hb hby at_209) rfl k) ?_
                  show G (T72.setTop (mkF m 211 #[.val (.int p0), .val (.int p1), .val (.int p2), .val (.int p3), .val (.int p4), .val (.int v1), .val (.int v2), .val (.int v3), .val (.int u1), .val (.int u2), .val (.int u3), .val (.int p3), .val (.int g2), .val (.ref b1), .val (.ref b38), .val (.int kk), .val (.ref b38), .unset] [(.int p3)]))
                  refine gs (fun t k => XS.iload X72.here hx rfl (hb hby at_211) rfl k) ?_
                  show G (T72.setTop (mkF m 213 #[.val (.int p0), .val (.int p1), .val (.int p2), .val (.int p3), .val (.int p4), .val (.int v1), .val (.int v2), .val (.int v3), .val (.int u1), .val (.int u2), .val (.int u3), .val (.int p3), .val (.int g2), .val (.ref b1), .val (.ref b38), .val (.int kk), .val (.ref b38), .unset] [(.int g2), (.int p3)]))
                  by_cases hc213 : p3 = g2
                  · refine gs (fun t k => XS.icmpNo X72.here hx rfl (hb hby at_213) rfl (teq hc213).2 k) ?_
                    show G (T72.setTop (mkF m 216 #[.val (.int p0), .val (.int p1), .val (.int p2), .val (.int p3), .val (.int p4), .val (.int v1), .val (.int v2), .val (.int v3), .val (.int u1), .val (.int u2), .val (.int u3), .val (.int p3), .val (.int g2), .val (.ref b1), .val (.ref b38), .val (.int kk), .val (.ref b38), .unset] []))
                    refine gs (fun t k => XS.iconst X72.here hx rfl (hb hby at_216) k) ?_
                    show G (T72.setTop (mkF m 217 #[.val (.int p0), .val (.int p1), .val (.int p2), .val (.int p3), .val (.int p4), .val (.int v1), .val (.int v2), .val (.int v3), .val (.int u1), .val (.int u2), .val (.int u3), .val (.int p3), .val (.int g2), .val (.ref b1), .val (.ref b38), .val (.int kk), .val (.ref b38), .unset] [(.int (1 : Int32))]))
                    refine gs (fun t k => XS.goto X72.here hx rfl (pc0 := 217) (pc' := 221) rfl (hb hby at_217) (by decide) (by decide) k) ?_
                    show G (T72.setTop (mkF m 221 #[.val (.int p0), .val (.int p1), .val (.int p2), .val (.int p3), .val (.int p4), .val (.int v1), .val (.int v2), .val (.int v3), .val (.int u1), .val (.int u2), .val (.int u3), .val (.int p3), .val (.int g2), .val (.ref b1), .val (.ref b38), .val (.int kk), .val (.ref b38), .unset] [(.int (1 : Int32))]))
                    refine gs (fun t k => XS.istore X72.here hx rfl (hb hby at_221) rfl (l' := #[.val (.int p0), .val (.int p1), .val (.int p2), .val (.int p3), .val (.int p4), .val (.int v1), .val (.int v2), .val (.int v3), .val (.int u1), .val (.int u2), .val (.int u3), .val (.int p3), .val (.int g2), .val (.ref b1), .val (.ref b38), .val (.int kk), .val (.ref b38), .val (.int (1 : Int32))]) rfl k) ?_
                    show G (T72.setTop (mkF m 223 #[.val (.int p0), .val (.int p1), .val (.int p2), .val (.int p3), .val (.int p4), .val (.int v1), .val (.int v2), .val (.int v3), .val (.int u1), .val (.int u2), .val (.int u3), .val (.int p3), .val (.int g2), .val (.ref b1), .val (.ref b38), .val (.int kk), .val (.ref b38), .val (.int (1 : Int32))] []))
                    refine gs (fun t k => XS.goto X72.here hx rfl (pc0 := 223) (pc' := 267) rfl (hb hby at_223) (by decide) (by decide) k) ?_
                    show G (T72.setTop (mkF m 267 #[.val (.int p0), .val (.int p1), .val (.int p2), .val (.int p3), .val (.int p4), .val (.int v1), .val (.int v2), .val (.int v3), .val (.int u1), .val (.int u2), .val (.int u3), .val (.int p3), .val (.int g2), .val (.ref b1), .val (.ref b38), .val (.int kk), .val (.ref b38), .val (.int (1 : Int32))] []))
                    refine gs (fun t k => XS.aload X72.here hx rfl (hb hby at_267) rfl rfl k) ?_
                    show G (T72.setTop (mkF m 269 #[.val (.int p0), .val (.int p1), .val (.int p2), .val (.int p3), .val (.int p4), .val (.int v1), .val (.int v2), .val (.int v3), .val (.int u1), .val (.int u2), .val (.int u3), .val (.int p3), .val (.int g2), .val (.ref b1), .val (.ref b38), .val (.int kk), .val (.ref b38), .val (.int (1 : Int32))] [(.ref b1)]))
                    refine gs (fun t k => XS.aload X72.here hx rfl (hb hby at_269) rfl rfl k) ?_
                    show G (T72.setTop (mkF m 271 #[.val (.int p0), .val (.int p1), .val (.int p2), .val (.int p3), .val (.int p4), .val (.int v1), .val (.int v2), .val (.int v3), .val (.int u1), .val (.int u2), .val (.int u3), .val (.int p3), .val (.int g2), .val (.ref b1), .val (.ref b38), .val (.int kk), .val (.ref b38), .val (.int (1 : Int32))] [(.ref b38), (.ref b1)]))
                    obtain ⟨_, _, _, EJ80, -⟩ := id JD31_q74
                    obtain ⟨cq80, kq80, q80a, q80b, q80c⟩ := isOf hZ rfl EJ80
                    obtain ⟨_, _, ⟨T80, L80, k80, n80⟩, -, X80, ⟨Lc80, hQ80, l80, y80, z80⟩, st80⟩ := X72.virtualBack hx (y := (⟨"com/example/consensus_to_coverage/consensustocoverage/trecfiles/Judgement", "equals", "(Ljava/lang/Object;)Z"⟩ : MethodName)) (z := (⟨"com/example/consensus_to_coverage/consensustocoverage/trecfiles/Judgement", "equals", "(Ljava/lang/Object;)Z"⟩ : MethodName)) hown (mvT hZ (hw _ (List.mem_of_getElem? (i := 46) rfl))) (mvT hZ (hw _ (List.mem_of_getElem? (i := 47) rfl))) (notFace_of_selects (args := #[]) (mvT hZ (hw _ (List.mem_of_getElem? (i := 49) rfl)))) (mvT hZ (hw _ (List.mem_of_getElem? (i := 49) rfl))) (mvT hZ (hw _ (List.mem_of_getElem? (i := 48) rfl))) (by decide) (backOf (W := 0) (rm8 l Z a0 hw [] b1 b38 (own_b v1) (own_b v2) (own_b v3) p3 (own_b u1) (own_b u2) (own_b u3) g2 cs T72.heap n0 (Nat.le_trans Z0 K79.1) SC_q73 hcs JD31_q74 JD72) hZ (hw _ (List.mem_of_getElem? (i := 50) rfl)) (hw _ (List.mem_of_getElem? (i := 2) rfl)) (by decide) (by decide)) q80a q80c (g := (mkF m 271 #[.val (.int p0), .val (.int p1), .val (.int p2), .val (.int p3), .val (.int p4), .val (.int v1), .val (.int v2), .val (.int v3), .val (.int u1), .val (.int u2), .val (.int u3), .val (.int p3), .val (.int g2), .val (.ref b1), .val (.ref b38), .val (.int kk), .val (.ref b38), .val (.int (1 : Int32))] [(.ref b38), (.ref b1)])) rfl (by rw [hml]; rfl) (Steps.refl _) (argsL := [(.ref b38)]) (rest := []) (lenOf pd_5 rfl) rfl (by show 2 * 0 + _ ≤ _; exact Nat.le_of_eq rfl) (hb hby at_271) (fun _ _ => ⟨rfl, rfl, (by decide : 14 + 0 ≤ _), (by decide : 38 + 0 ≤ _)⟩)
                    dsimp only [Pt.U, Pt.locs, Pt.cells, Pt.slots] at X80 l80 y80 z80 st80 hQ80
                    subst y80 z80
                    obtain ⟨rfl, N80q, e80⟩ := hQ80
                    have N80 : Fr n0 L80 := by rw [l80]; exact Fr.app N72 N80q
                    refine gs (fun t k => st80.trans k) ?_
                    show G (T80.setTop (mkF m 274 #[.val (.int p0), .val (.int p1), .val (.int p2), .val (.int p3), .val (.int p4), .val (.int v1), .val (.int v2), .val (.int v3), .val (.int u1), .val (.int u2), .val (.int u3), .val (.int p3), .val (.int g2), .val (.ref b1), .val (.ref b38), .val (.int kk), .val (.ref b38), .val (.int (1 : Int32))] [(.int (own_jeq (own_b v1) (own_b v2) (own_b v3) p3 (own_b u1) (own_b u2) (own_b u3) g2))]))
                    refine gs (fun t k => XS.iload X80.here hx rfl (hb hby at_274) rfl k) ?_
                    show G (T80.setTop (mkF m 276 #[.val (.int p0), .val (.int p1), .val (.int p2), .val (.int p3), .val (.int p4), .val (.int v1), .val (.int v2), .val (.int v3), .val (.int u1), .val (.int u2), .val (.int u3), .val (.int p3), .val (.int g2), .val (.ref b1), .val (.ref b38), .val (.int kk), .val (.ref b38), .val (.int (1 : Int32))] [(.int (1 : Int32)), (.int (own_jeq (own_b v1) (own_b v2) (own_b v3) p3 (own_b u1) (own_b u2) (own_b u3) g2))]))
                    refine gs (fun t k => XS.icmpNo X80.here hx rfl (hb hby at_276) rfl (teq (by simp [own_jeq, own_b_inj r1 t1, own_b_inj r2 t2, own_b_inj r3 t3, hc192, hc199, hc206, hc213])).2 k) ?_
                    show G (T80.setTop (mkF m 279 #[.val (.int p0), .val (.int p1), .val (.int p2), .val (.int p3), .val (.int p4), .val (.int v1), .val (.int v2), .val (.int v3), .val (.int u1), .val (.int u2), .val (.int u3), .val (.int p3), .val (.int g2), .val (.ref b1), .val (.ref b38), .val (.int kk), .val (.ref b38), .val (.int (1 : Int32))] []))
                    refine gs (fun t k => XS.iconst X80.here hx rfl (hb hby at_279) k) ?_
                    show G (T80.setTop (mkF m 280 #[.val (.int p0), .val (.int p1), .val (.int p2), .val (.int p3), .val (.int p4), .val (.int v1), .val (.int v2), .val (.int v3), .val (.int u1), .val (.int u2), .val (.int u3), .val (.int p3), .val (.int g2), .val (.ref b1), .val (.ref b38), .val (.int kk), .val (.ref b38), .val (.int (1 : Int32))] [(.int (1 : Int32))]))
                    refine gs (fun t k => XS.goto X80.here hx rfl (pc0 := 280) (pc' := 284) rfl (hb hby at_280) (by decide) (by decide) k) ?_
                    show G (T80.setTop (mkF m 284 #[.val (.int p0), .val (.int p1), .val (.int p2), .val (.int p3), .val (.int p4), .val (.int v1), .val (.int v2), .val (.int v3), .val (.int u1), .val (.int u2), .val (.int u3), .val (.int p3), .val (.int g2), .val (.ref b1), .val (.ref b38), .val (.int kk), .val (.ref b38), .val (.int (1 : Int32))] [(.int (1 : Int32))]))
                    obtain ⟨fs, hr, hrun, hended, hW, hsame⟩ := X80.leave (v := some (.int (1 : Int32))) (fun h => by rw [Bd.returns] at h; cases h)
                    refine gl _ ⟨_, _, retN X80 hx (t := .boolean) Bd.returns (by simp) (hb hby at_284) hr, hrun, hended, _, _, rfl, ?_, ⟨_, rfl⟩, hW, hsame.mono (by decide) (by decide)⟩
                    show Q0 h0 n0 _ T80.heap _
                    rw [e80]
                    exact ⟨rfl, N80⟩
                  · refine gs (fun t k => XS.icmpYes X72.here hx rfl (pc0 := 213) (pc' := 220) rfl (hb hby at_213) rfl (feq hc213).2 (by decide) (by decide) k) ?_
                    show G (T72.setTop (mkF m 220 #[.val (.int p0), .val (.int p1), .val (.int p2), .val (.int p3), .val (.int p4), .val (.int v1), .val (.int v2), .val (.int v3), .val (.int u1), .val (.int u2), .val (.int u3), .val (.int p3), .val (.int g2), .val (.ref b1), .val (.ref b38), .val (.int kk), .val (.ref b38), .unset] []))
                    refine gs (fun t k => XS.iconst X72.here hx rfl (hb hby at_220) k) ?_
                    show G (T72.setTop (mkF m 221 #[.val (.int p0), .val (.int p1), .val (.int p2), .val (.int p3), .val (.int p4), .val (.int v1), .val (.int v2), .val (.int v3), .val (.int u1), .val (.int u2), .val (.int u3), .val (.int p3), .val (.int g2), .val (.ref b1), .val (.ref b38), .val (.int kk), .val (.ref b38), .unset] [(.int (0 : Int32))]))
                    refine gs (fun t k => XS.istore X72.here hx rfl (hb hby at_221) rfl (l' := #[.val (.int p0), .val (.int p1), .val (.int p2), .val (.int p3), .val (.int p4), .val (.int v1), .val (.int v2), .val (.int v3), .val (.int u1), .val (.int u2), .val (.int u3), .val (.int p3), .val (.int g2), .val (.ref b1), .val (.ref b38), .val (.int kk), .val (.ref b38), .val (.int (0 : Int32))]) rfl k) ?_
                    show G (T72.setTop (mkF m 223 #[.val (.int p0), .val (.int p1), .val (.int p2), .val (.int p3), .val (.int p4), .val (.int v1), .val (.int v2), .val (.int v3), .val (.int u1), .val (.int u2), .val (.int u3), .val (.int p3), .val (.int g2), .val (.ref b1), .val (.ref b38), .val (.int kk), .val (.ref b38), .val (.int (0 : Int32))] []))
                    refine gs (fun t k => XS.goto X72.here hx rfl (pc0 := 223) (pc' := 267) rfl (hb hby at_223) (by decide) (by decide) k) ?_
                    show G (T72.setTop (mkF m 267 #[.val (.int p0), .val (.int p1), .val (.int p2), .val (.int p3), .val (.int p4), .val (.int v1), .val (.int v2), .val (.int v3), .val (.int u1), .val (.int u2), .val (.int u3), .val (.int p3), .val (.int g2), .val (.ref b1), .val (.ref b38), .val (.int kk), .val (.ref b38), .val (.int (0 : Int32))] []))
                    refine gs (fun t k => XS.aload X72.here hx rfl (hb hby at_267) rfl rfl k) ?_
                    show G (T72.setTop (mkF m 269 #[.val (.int p0), .val (.int p1), .val (.int p2), .val (.int p3), .val (.int p4), .val (.int v1), .val (.int v2), .val (.int v3), .val (.int u1), .val (.int u2), .val (.int u3), .val (.int p3), .val (.int g2), .val (.ref b1), .val (.ref b38), .val (.int kk), .val (.ref b38), .val (.int (0 : Int32))] [(.ref b1)]))
                    refine gs (fun t k => XS.aload X72.here hx rfl (hb hby at_269) rfl rfl k) ?_
                    show G (T72.setTop (mkF m 271 #[.val (.int p0), .val (.int p1), .val (.int p2), .val (.int p3), .val (.int p4), .val (.int v1), .val (.int v2), .val (.int v3), .val (.int u1), .val (.int u2), .val (.int u3), .val (.int p3), .val (.int g2), .val (.ref b1), .val (.ref b38), .val (.int kk), .val (.ref b38), .val (.int (0 : Int32))] [(.ref b38), (.ref b1)]))
                    obtain ⟨_, _, _, EJ81, -⟩ := id JD31_q74
                    obtain ⟨cq81, kq81, q81a, q81b, q81c⟩ := isOf hZ rfl EJ81
                    obtain ⟨_, _, ⟨T81, L81, k81, n81⟩, -, X81, ⟨Lc81, hQ81, l81, y81, z81⟩, st81⟩ := X72.virtualBack hx (y := (⟨"com/example/consensus_to_coverage/consensustocoverage/trecfiles/Judgement", "equals", "(Ljava/lang/Object;)Z"⟩ : MethodName)) (z := (⟨"com/example/consensus_to_coverage/consensustocoverage/trecfiles/Judgement", "equals", "(Ljava/lang/Object;)Z"⟩ : MethodName)) hown (mvT hZ (hw _ (List.mem_of_getElem? (i := 46) rfl))) (mvT hZ (hw _ (List.mem_of_getElem? (i := 47) rfl))) (notFace_of_selects (args := #[]) (mvT hZ (hw _ (List.mem_of_getElem? (i := 49) rfl)))) (mvT hZ (hw _ (List.mem_of_getElem? (i := 49) rfl))) (mvT hZ (hw _ (List.mem_of_getElem? (i := 48) rfl))) (by decide) (backOf (W := 0) (rm8 l Z a0 hw [] b1 b38 (own_b v1) (own_b v2) (own_b v3) p3 (own_b u1) (own_b u2) (own_b u3) g2 cs T72.heap n0 (Nat.le_trans Z0 K79.1) SC_q73 hcs JD31_q74 JD72) hZ (hw _ (List.mem_of_getElem? (i := 50) rfl)) (hw _ (List.mem_of_getElem? (i := 2) rfl)) (by decide) (by decide)) q81a q81c (g := (mkF m 271 #[.val (.int p0), .val (.int p1), .val (.int p2), .val (.int p3), .val (.int p4), .val (.int v1), .val (.int v2), .val (.int v3), .val (.int u1), .val (.int u2), .val (.int u3), .val (.int p3), .val (.int g2), .val (.ref b1), .val (.ref b38), .val (.int kk), .val (.ref b38), .val (.int (0 : Int32))] [(.ref b38), (.ref b1)])) rfl (by rw [hml]; rfl) (Steps.refl _) (argsL := [(.ref b38)]) (rest := []) (lenOf pd_5 rfl) rfl (by show 2 * 0 + _ ≤ _; exact Nat.le_of_eq rfl) (hb hby at_271) (fun _ _ => ⟨rfl, rfl, (by decide : 14 + 0 ≤ _), (by decide : 38 + 0 ≤ _)⟩)
                    dsimp only [Pt.U, Pt.locs, Pt.cells, Pt.slots] at X81 l81 y81 z81 st81 hQ81
                    subst y81 z81
                    obtain ⟨rfl, N81q, e81⟩ := hQ81
                    have N81 : Fr n0 L81 := by rw [l81]; exact Fr.app N72 N81q
                    refine gs (fun t k => st81.trans k) ?_
                    show G (T81.setTop (mkF m 274 #[.val (.int p0), .val (.int p1), .val (.int p2), .val (.int p3), .val (.int p4), .val (.int v1), .val (.int v2), .val (.int v3), .val (.int u1), .val (.int u2), .val (.int u3), .val (.int p3), .val (.int g2), .val (.ref b1), .val (.ref b38), .val (.int kk), .val (.ref b38), .val (.int (0 : Int32))] [(.int (own_jeq (own_b v1) (own_b v2) (own_b v3) p3 (own_b u1) (own_b u2) (own_b u3) g2))]))
                    refine gs (fun t k => XS.iload X81.here hx rfl (hb hby at_274) rfl k) ?_
                    show G (T81.setTop (mkF m 276 #[.val (.int p0), .val (.int p1), .val (.int p2), .val (.int p3), .val (.int p4), .val (.int v1), .val (.int v2), .val (.int v3), .val (.int u1), .val (.int u2), .val (.int u3), .val (.int p3), .val (.int g2), .val (.ref b1), .val (.ref b38), .val (.int kk), .val (.ref b38), .val (.int (0 : Int32))] [(.int (0 : Int32)), (.int (own_jeq (own_b v1) (own_b v2) (own_b v3) p3 (own_b u1) (own_b u2) (own_b u3) g2))]))
                    refine gs (fun t k => XS.icmpNo X81.here hx rfl (hb hby at_276) rfl (teq (by simp [own_jeq, own_b_inj r1 t1, own_b_inj r2 t2, own_b_inj r3 t3, hc192, hc199, hc206, hc213])).2 k) ?_
                    show G (T81.setTop (mkF m 279 #[.val (.int p0), .val (.int p1), .val (.int p2), .val (.int p3), .val (.int p4), .val (.int v1), .val (.int v2), .val (.int v3), .val (.int u1), .val (.int u2), .val (.int u3), .val (.int p3), .val (.int g2), .val (.ref b1), .val (.ref b38), .val (.int kk), .val (.ref b38), .val (.int (0 : Int32))] []))
                    refine gs (fun t k => XS.iconst X81.here hx rfl (hb hby at_279) k) ?_
                    show G (T81.setTop (mkF m 280 #[.val (.int p0), .val (.int p1), .val (.int p2), .val (.int p3), .val (.int p4), .val (.int v1), .val (.int v2), .val (.int v3), .val (.int u1), .val (.int u2), .val (.int u3), .val (.int p3), .val (.int g2), .val (.ref b1), .val (.ref b38), .val (.int kk), .val (.ref b38), .val (.int (0 : Int32))] [(.int (1 : Int32))]))
                    refine gs (fun t k => XS.goto X81.here hx rfl (pc0 := 280) (pc' := 284) rfl (hb hby at_280) (by decide) (by decide) k) ?_
                    show G (T81.setTop (mkF m 284 #[.val (.int p0), .val (.int p1), .val (.int p2), .val (.int p3), .val (.int p4), .val (.int v1), .val (.int v2), .val (.int v3), .val (.int u1), .val (.int u2), .val (.int u3), .val (.int p3), .val (.int g2), .val (.ref b1), .val (.ref b38), .val (.int kk), .val (.ref b38), .val (.int (0 : Int32))] [(.int (1 : Int32))]))
                    obtain ⟨fs, hr, hrun, hended, hW, hsame⟩ := X81.leave (v := some (.int (1 : Int32))) (fun h => by rw [Bd.returns] at h; cases h)
                    refine gl _ ⟨_, _, retN X81 hx (t := .boolean) Bd.returns (by simp) (hb hby at_284) hr, hrun, hended, _, _, rfl, ?_, ⟨_, rfl⟩, hW, hsame.mono (by decide) (by decide)⟩
                    show Q0 h0 n0 _ T81.heap _
                    rw [e81]
                    exact ⟨rfl, N81⟩
                · refine gs (fun t k => XS.icmpYes X72.here hx rfl (pc0 := 206) (pc' := 220) rfl (hb hby at_206) rfl (feq hc206).2 (by decide) (by decide) k) ?_
                  show G (T72.setTop (mkF m 220 #[.val (.int p0), .val (.int p1), .val (.int p2), .val (.int p3), .val (.int p4), .val (.int v1), .val (.int v2), .val (.int v3), .val (.int u1), .val (.int u2), .val (.int u3), .val (.int p3), .val (.int g2), .val (.ref b1), .val (.ref b38), .val (.int kk), .val (.ref b38), .unset] []))
                  refine gs (fun t k => XS.iconst X72.here hx rfl (hb hby at_220) k) ?_
                  show G (T72.setTop (mkF m 221 #[.val (.int p0), .val (.int p1), .val (.int p2), .val (.int p3), .val (.int p4), .val (.int v1), .val (.int v2), .val (.int v3), .val (.int u1), .val (.int u2), .val (.int u3), .val (.int p3), .val (.int g2), .val (.ref b1), .val (.ref b38), .val (.int kk), .val (.ref b38), .unset] [(.int (0 : Int32))]))
                  refine gs (fun t k => XS.istore X72.here hx rfl (hb hby at_221) rfl (l' := #[.val (.int p0), .val (.int p1), .val (.int p2), .val (.int p3), .val (.int p4), .val (.int v1), .val (.int v2), .val (.int v3), .val (.int u1), .val (.int u2), .val (.int u3), .val (.int p3), .val (.int g2), .val (.ref b1), .val (.ref b38), .val (.int kk), .val (.ref b38), .val (.int (0 : Int32))]) rfl k) ?_
                  show G (T72.setTop (mkF m 223 #[.val (.int p0), .val (.int p1), .val (.int p2), .val (.int p3), .val (.int p4), .val (.int v1), .val (.int v2), .val (.int v3), .val (.int u1), .val (.int u2), .val (.int u3), .val (.int p3), .val (.int g2), .val (.ref b1), .val (.ref b38), .val (.int kk), .val (.ref b38), .val (.int (0 : Int32))] []))
                  refine gs (fun t k => XS.goto X72.here hx rfl (pc0 := 223) (pc' := 267) rfl (hb hby at_223) (by decide) (by decide) k) ?_
                  show G (T72.setTop (mkF m 267 #[.val (.int p0), .val (.int p1), .val (.int p2), .val (.int p3), .val (.int p4), .val (.int v1), .val (.int v2), .val (.int v3), .val (.int u1), .val (.int u2), .val (.int u3), .val (.int p3), .val (.int g2), .val (.ref b1), .val (.ref b38), .val (.int kk), .val (.ref b38), .val (.int (0 : Int32))] []))
                  refine gs (fun t k => XS.aload X72.here hx rfl (hb hby at_267) rfl rfl k) ?_
                  show G (T72.setTop (mkF m 269 #[.val (.int p0), .val (.int p1), .val (.int p2), .val (.int p3), .val (.int p4), .val (.int v1), .val (.int v2), .val (.int v3), .val (.int u1), .val (.int u2), .val (.int u3), .val (.int p3), .val (.int g2), .val (.ref b1), .val (.ref b38), .val (.int kk), .val (.ref b38), .val (.int (0 : Int32))] [(.ref b1)]))
                  refine gs (fun t k => XS.aload X72.here hx rfl (hb hby at_269) rfl rfl k) ?_
                  show G (T72.setTop (mkF m 271 #[.val (.int p0), .val (.int p1), .val (.int p2), .val (.int p3), .val (.int p4), .val (.int v1), .val (.int v2), .val (.int v3), .val (.int u1), .val (.int u2), .val (.int u3), .val (.int p3), .val (.int g2), .val (.ref b1), .val (.ref b38), .val (.int kk), .val (.ref b38), .val (.int (0 : Int32))] [(.ref b38), (.ref b1)]))
                  obtain ⟨_, _, _, EJ82, -⟩ := id JD31_q74
                  obtain ⟨cq82, kq82, q82a, q82b, q82c⟩ := isOf hZ rfl EJ82
                  obtain ⟨_, _, ⟨T82, L82, k82, n82⟩, -, X82, ⟨Lc82, hQ82, l82, y82, z82⟩, st82⟩ := X72.virtualBack hx (y := (⟨"com/example/consensus_to_coverage/consensustocoverage/trecfiles/Judgement", "equals", "(Ljava/lang/Object;)Z"⟩ : MethodName)) (z := (⟨"com/example/consensus_to_coverage/consensustocoverage/trecfiles/Judgement", "equals", "(Ljava/lang/Object;)Z"⟩ : MethodName)) hown (mvT hZ (hw _ (List.mem_of_getElem? (i := 46) rfl))) (mvT hZ (hw _ (List.mem_of_getElem? (i := 47) rfl))) (notFace_of_selects (args := #[]) (mvT hZ (hw _ (List.mem_of_getElem? (i := 49) rfl)))) (mvT hZ (hw _ (List.mem_of_getElem? (i := 49) rfl))) (mvT hZ (hw _ (List.mem_of_getElem? (i := 48) rfl))) (by decide) (backOf (W := 0) (rm8 l Z a0 hw [] b1 b38 (own_b v1) (own_b v2) (own_b v3) p3 (own_b u1) (own_b u2) (own_b u3) g2 cs T72.heap n0 (Nat.le_trans Z0 K79.1) SC_q73 hcs JD31_q74 JD72) hZ (hw _ (List.mem_of_getElem? (i := 50) rfl)) (hw _ (List.mem_of_getElem? (i := 2) rfl)) (by decide) (by decide)) q82a q82c (g := (mkF m 271 #[.val (.int p0), .val (.int p1), .val (.int p2), .val (.int p3), .val (.int p4), .val (.int v1), .val (.int v2), .val (.int v3), .val (.int u1), .val (.int u2), .val (.int u3), .val (.int p3), .val (.int g2), .val (.ref b1), .val (.ref b38), .val (.int kk), .val (.ref b38), .val (.int (0 : Int32))] [(.ref b38), (.ref b1)])) rfl (by rw [hml]; rfl) (Steps.refl _) (argsL := [(.ref b38)]) (rest := []) (lenOf pd_5 rfl) rfl (by show 2 * 0 + _ ≤ _; exact Nat.le_of_eq rfl) (hb hby at_271) (fun _ _ => ⟨rfl, rfl, (by decide : 14 + 0 ≤ _), (by decide : 38 + 0 ≤ _)⟩)
                  dsimp only [Pt.U, Pt.locs, Pt.cells, Pt.slots] at X82 l82 y82 z82 st82 hQ82
                  subst y82 z82
                  obtain ⟨rfl, N82q, e82⟩ := hQ82
                  have N82 : Fr n0 L82 := by rw [l82]; exact Fr.app N72 N82q
                  refine gs (fun t k => st82.trans k) ?_
                  show G (T82.setTop (mkF m 274 #[.val (.int p0), .val (.int p1), .val (.int p2), .val (.int p3), .val (.int p4), .val (.int v1), .val (.int v2), .val (.int v3), .val (.int u1), .val (.int u2), .val (.int u3), .val (.int p3), .val (.int g2), .val (.ref b1), .val (.ref b38), .val (.int kk), .val (.ref b38), .val (.int (0 : Int32))] [(.int (own_jeq (own_b v1) (own_b v2) (own_b v3) p3 (own_b u1) (own_b u2) (own_b u3) g2))]))
                  refine gs (fun t k => XS.iload X82.here hx rfl (hb hby at_274) rfl k) ?_
                  show G (T82.setTop (mkF m 276 #[.val (.int p0), .val (.int p1), .val (.int p2), .val (.int p3), .val (.int p4), .val (.int v1), .val (.int v2), .val (.int v3), .val (.int u1), .val (.int u2), .val (.int u3), .val (.int p3), .val (.int g2), .val (.ref b1), .val (.ref b38), .val (.int kk), .val (.ref b38), .val (.int (0 : Int32))] [(.int (0 : Int32)), (.int (own_jeq (own_b v1) (own_b v2) (own_b v3) p3 (own_b u1) (own_b u2) (own_b u3) g2))]))
                  refine gs (fun t k => XS.icmpNo X82.here hx rfl (hb hby at_276) rfl (teq (by simp [own_jeq, own_b_inj r1 t1, own_b_inj r2 t2, own_b_inj r3 t3, hc192, hc199, hc206])).2 k) ?_
                  show G (T82.setTop (mkF m 279 #[.val (.int p0), .val (.int p1), .val (.int p2), .val (.int p3), .val (.int p4), .val (.int v1), .val (.int v2), .val (.int v3), .val (.int u1), .val (.int u2), .val (.int u3), .val (.int p3), .val (.int g2), .val (.ref b1), .val (.ref b38), .val (.int kk), .val (.ref b38), .val (.int (0 : Int32))] []))
                  refine gs (fun t k => XS.iconst X82.here hx rfl (hb hby at_279) k) ?_
                  show G (T82.setTop (mkF m 280 #[.val (.int p0), .val (.int p1), .val (.int p2), .val (.int p3), .val (.int p4), .val (.int v1), .val (.int v2), .val (.int v3), .val (.int u1), .val (.int u2), .val (.int u3), .val (.int p3), .val (.int g2), .val (.ref b1), .val (.ref b38), .val (.int kk), .val (.ref b38), .val (.int (0 : Int32))] [(.int (1 : Int32))]))
                  refine gs (fun t k => XS.goto X82.here hx rfl (pc0 := 280) (pc' := 284) rfl (hb hby at_280) (by decide) (by decide) k) ?_
                  show G (T82.setTop (mkF m 284 #[.val (.int p0), .val (.int p1), .val (.int p2), .val (.int p3), .val (.int p4), .val (.int v1), .val (.int v2), .val (.int v3), .val (.int u1), .val (.int u2), .val (.int u3), .val (.int p3), .val (.int g2), .val (.ref b1), .val (.ref b38), .val (.int kk), .val (.ref b38), .val (.int (0 : Int32))] [(.int (1 : Int32))]))
                  obtain ⟨fs, hr, hrun, hended, hW, hsame⟩ := X82.leave (v := some (.int (1 : Int32))) (fun h => by rw [Bd.returns] at h; cases h)
                  refine gl _ ⟨_, _, retN X82 hx (t := .boolean) Bd.returns (by simp) (hb hby at_284) hr, hrun, hended, _, _, rfl, ?_, ⟨_, rfl⟩, hW, hsame.mono (by decide) (by decide)⟩
                  show Q0 h0 n0 _ T82.heap _
                  rw [e82]
                  exact ⟨rfl, N82⟩
              · refine gs (fun t k => XS.icmpYes X72.here hx rfl (pc0 := 199) (pc' := 220) rfl (hb hby at_199) rfl (feq hc199).2 (by decide) (by decide) k) ?_
                show G (T72.setTop (mkF m 220 #[.val (.int p0), .val (.int p1), .val (.int p2), .val (.int p3), .val (.int p4), .val (.int v1), .val (.int v2), .val (.int v3), .val (.int u1), .val (.int u2), .val (.int u3), .val (.int p3), .val (.int g2), .val (.ref b1), .val (.ref b38), .val (.int kk), .val (.ref b38), .unset] []))
                refine gs (fun t k => XS.iconst X72.here hx rfl (hb hby at_220) k) ?_
                show G (T72.setTop (mkF m 221 #[.val (.int p0), .val (.int p1), .val (.int p2), .val (.int p3), .val (.int p4), .val (.int v1), .val (.int v2), .val (.int v3), .val (.int u1), .val (.int u2), .val (.int u3), .val (.int p3), .val (.int g2), .val (.ref b1), .val (.ref b38), .val (.int kk), .val (.ref b38), .unset] [(.int (0 : Int32))]))
                refine gs (fun t k => XS.istore X72.here hx rfl (hb hby at_221) rfl (l' := #[.val (.int p0), .val (.int p1), .val (.int p2), .val (.int p3), .val (.int p4), .val (.int v1), .val (.int v2), .val (.int v3), .val (.int u1), .val (.int u2), .val (.int u3), .val (.int p3), .val (.int g2), .val (.ref b1), .val (.ref b38), .val (.int kk), .val (.ref b38), .val (.int (0 : Int32))]) rfl k) ?_
                show G (T72.setTop (mkF m 223 #[.val (.int p0), .val (.int p1), .val (.int p2), .val (.int p3), .val (.int p4), .val (.int v1), .val (.int v2), .val (.int v3), .val (.int u1), .val (.int u2), .val (.int u3), .val (.int p3), .val (.int g2), .val (.ref b1), .val (.ref b38), .val (.int kk), .val (.ref b38), .val (.int (0 : Int32))] []))
                refine gs (fun t k => XS.goto X72.here hx rfl (pc0 := 223) (pc' := 267) rfl (hb hby at_223) (by decide) (by decide) k) ?_
                show G (T72.setTop (mkF m 267 #[.val (.int p0), .val (.int p1), .val (.int p2), .val (.int p3), .val (.int p4), .val (.int v1), .val (.int v2), .val (.int v3), .val (.int u1), .val (.int u2), .val (.int u3), .val (.int p3), .val (.int g2), .val (.ref b1), .val (.ref b38), .val (.int kk), .val (.ref b38), .val (.int (0 : Int32))] []))
                refine gs (fun t k => XS.aload X72.here hx rfl (hb hby at_267) rfl rfl k) ?_
                show G (T72.setTop (mkF m 269 #[.val (.int p0), .val (.int p1), .val (.int p2), .val (.int p3), .val (.int p4), .val (.int v1), .val (.int v2), .val (.int v3), .val (.int u1), .val (.int u2), .val (.int u3), .val (.int p3), .val (.int g2), .val (.ref b1), .val (.ref b38), .val (.int kk), .val (.ref b38), .val (.int (0 : Int32))] [(.ref b1)]))
                refine gs (fun t k => XS.aload X72.here hx rfl (hb hby at_269) rfl rfl k) ?_
                show G (T72.setTop (mkF m 271 #[.val (.int p0), .val (.int p1), .val (.int p2), .val (.int p3), .val (.int p4), .val (.int v1), .val (.int v2), .val (.int v3), .val (.int u1), .val (.int u2), .val (.int u3), .val (.int p3), .val (.int g2), .val (.ref b1), .val (.ref b38), .val (.int kk), .val (.ref b38), .val (.int (0 : Int32))] [(.ref b38), (.ref b1)]))
                obtain ⟨_, _, _, EJ83, -⟩ := id JD31_q74
                obtain ⟨cq83, kq83, q83a, q83b, q83c⟩ := isOf hZ rfl EJ83
                obtain ⟨_, _, ⟨T83, L83, k83, n83⟩, -, X83, ⟨Lc83, hQ83, l83, y83, z83⟩, st83⟩ := X72.virtualBack hx (y := (⟨"com/example/consensus_to_coverage/consensustocoverage/trecfiles/Judgement", "equals", "(Ljava/lang/Object;)Z"⟩ : MethodName)) (z := (⟨"com/example/consensus_to_coverage/consensustocoverage/trecfiles/Judgement", "equals", "(Ljava/lang/Object;)Z"⟩ : MethodName)) hown (mvT hZ (hw _ (List.mem_of_getElem? (i := 46) rfl))) (mvT hZ (hw _ (List.mem_of_getElem? (i := 47) rfl))) (notFace_of_selects (args := #[]) (mvT hZ (hw _ (List.mem_of_getElem? (i := 49) rfl)))) (mvT hZ (hw _ (List.mem_of_getElem? (i := 49) rfl))) (mvT hZ (hw _ (List.mem_of_getElem? (i := 48) rfl))) (by decide) (backOf (W := 0) (rm8 l Z a0 hw [] b1 b38 (own_b v1) (own_b v2) (own_b v3) p3 (own_b u1) (own_b u2) (own_b u3) g2 cs T72.heap n0 (Nat.le_trans Z0 K79.1) SC_q73 hcs JD31_q74 JD72) hZ (hw _ (List.mem_of_getElem? (i := 50) rfl)) (hw _ (List.mem_of_getElem? (i := 2) rfl)) (by decide) (by decide)) q83a q83c (g := (mkF m 271 #[.val (.int p0), .val (.int p1), .val (.int p2), .val (.int p3), .val (.int p4), .val (.int v1), .val (.int v2), .val (.int v3), .val (.int u1), .val (.int u2), .val (.int u3), .val (.int p3), .val (.int g2), .val (.ref b1), .val (.ref b38), .val (.int kk), .val (.ref b38), .val (.int (0 : Int32))] [(.ref b38), (.ref b1)])) rfl (by rw [hml]; rfl) (Steps.refl _) (argsL := [(.ref b38)]) (rest := []) (lenOf pd_5 rfl) rfl (by show 2 * 0 + _ ≤ _; exact Nat.le_of_eq rfl) (hb hby at_271) (fun _ _ => ⟨rfl, rfl, (by decide : 14 + 0 ≤ _), (by decide : 38 + 0 ≤ _)⟩)
                dsimp only [Pt.U, Pt.locs, Pt.cells, Pt.slots] at X83 l83 y83 z83 st83 hQ83
                subst y83 z83
                obtain ⟨rfl, N83q, e83⟩ := hQ83
                have N83 : Fr n0 L83 := by rw [l83]; exact Fr.app N72 N83q
                refine gs (fun t k => st83.trans k) ?_
                show G (T83.setTop (mkF m 274 #[.val (.int p0), .val (.int p1), .val (.int p2), .val (.int p3), .val (.int p4), .val (.int v1), .val (.int v2), .val (.int v3), .val (.int u1), .val (.int u2), .val (.int u3), .val (.int p3), .val (.int g2), .val (.ref b1), .val (.ref b38), .val (.int kk), .val (.ref b38), .val (.int (0 : Int32))] [(.int (own_jeq (own_b v1) (own_b v2) (own_b v3) p3 (own_b u1) (own_b u2) (own_b u3) g2))]))
                refine gs (fun t k => XS.iload X83.here hx rfl (hb hby at_274) rfl k) ?_
                show G (T83.setTop (mkF m 276 #[.val (.int p0), .val (.int p1), .val (.int p2), .val (.int p3), .val (.int p4), .val (.int v1), .val (.int v2), .val (.int v3), .val (.int u1), .val (.int u2), .val (.int u3), .val (.int p3), .val (.int g2), .val (.ref b1), .val (.ref b38), .val (.int kk), .val (.ref b38), .val (.int (0 : Int32))] [(.int (0 : Int32)), (.int (own_jeq (own_b v1) (own_b v2) (own_b v3) p3 (own_b u1) (own_b u2) (own_b u3) g2))]))
                refine gs (fun t k => XS.icmpNo X83.here hx rfl (hb hby at_276) rfl (teq (by simp [own_jeq, own_b_inj r1 t1, own_b_inj r2 t2, own_b_inj r3 t3, hc192, hc199])).2 k) ?_
                show G (T83.setTop (mkF m 279 #[.val (.int p0), .val (.int p1), .val (.int p2), .val (.int p3), .val (.int p4), .val (.int v1), .val (.int v2), .val (.int v3), .val (.int u1), .val (.int u2), .val (.int u3), .val (.int p3), .val (.int g2), .val (.ref b1), .val (.ref b38), .val (.int kk), .val (.ref b38), .val (.int (0 : Int32))] []))
                refine gs (fun t k => XS.iconst X83.here hx rfl (hb hby at_279) k) ?_
                show G (T83.setTop (mkF m 280 #[.val (.int p0), .val (.int p1), .val (.int p2), .val (.int p3), .val (.int p4), .val (.int v1), .val (.int v2), .val (.int v3), .val (.int u1), .val (.int u2), .val (.int u3), .val (.int p3), .val (.int g2), .val (.ref b1), .val (.ref b38), .val (.int kk), .val (.ref b38), .val (.int (0 : Int32))] [(.int (1 : Int32))]))
                refine gs (fun t k => XS.goto X83.here hx rfl (pc0 := 280) (pc' := 284) rfl (hb hby at_280) (by decide) (by decide) k) ?_
                show G (T83.setTop (mkF m 284 #[.val (.int p0), .val (.int p1), .val (.int p2), .val (.int p3), .val (.int p4), .val (.int v1), .val (.int v2), .val (.int v3), .val (.int u1), .val (.int u2), .val (.int u3), .val (.int p3), .val (.int g2), .val (.ref b1), .val (.ref b38), .val (.int kk), .val (.ref b38), .val (.int (0 : Int32))] [(.int (1 : Int32))]))
                obtain ⟨fs, hr, hrun, hended, hW, hsame⟩ := X83.leave (v := some (.int (1 : Int32))) (fun h => by rw [Bd.returns] at h; cases h)
                refine gl _ ⟨_, _, retN X83 hx (t := .boolean) Bd.returns (by simp) (hb hby at_284) hr, hrun, hended, _, _, rfl, ?_, ⟨_, rfl⟩, hW, hsame.mono (by decide) (by decide)⟩
                show Q0 h0 n0 _ T83.heap _
                rw [e83]
                exact ⟨rfl, N83⟩
            · refine gs (fun t k => XS.icmpYes X72.here hx rfl (pc0 := 192) (pc' := 220) rfl (hb hby at_192) rfl (feq hc192).2 (by decide) (by decide) k) ?_
              show G (T72.setTop (mkF m 220 #[.val (.int p0), .val (.int p1), .val (.int p2), .val (.int p3), .val (.int p4), .val (.int v1), .val (.int v2), .val (.int v3), .val (.int u1), .val (.int u2), .val (.int u3), .val (.int p3), .val (.int g2), .val (.ref b1), .val (.ref b38), .val (.int kk), .val (.ref b38), .unset] []))
              refine gs (fun t k => XS.iconst X72.here hx rfl (hb hby at_220) k) ?_
              show G (T72.setTop (mkF m 221 #[.val (.int p0), .val (.int p1), .val (.int p2), .val (.int p3), .val (.int p4), .val (.int v1), .val (.int v2), .val (.int v3), .val (.int u1), .val (.int u2), .val (.int u3), .val (.int p3), .val (.int g2), .val (.ref b1), .val (.ref b38), .val (.int kk), .val (.ref b38), .unset] [(.int (0 : Int32))]))
              refine gs (fun t k => XS.istore X72.here hx rfl (hb hby at_221) rfl (l' := #[.val (.int p0), .val (.int p1), .val (.int p2), .val (.int p3), .val (.int p4), .val (.int v1), .val (.int v2), .val (.int v3), .val (.int u1), .val (.int u2), .val (.int u3), .val (.int p3), .val (.int g2), .val (.ref b1), .val (.ref b38), .val (.int kk), .val (.ref b38), .val (.int (0 : Int32))]) rfl k) ?_
              show G (T72.setTop (mkF m 223 #[.val (.int p0), .val (.int p1), .val (.int p2), .val (.int p3), .val (.int p4), .val (.int v1), .val (.int v2), .val (.int v3), .val (.int u1), .val (.int u2), .val (.int u3), .val (.int p3), .val (.int g2), .val (.ref b1), .val (.ref b38), .val (.int kk), .val (.ref b38), .val (.int (0 : Int32))] []))
              refine gs (fun t k => XS.goto X72.here hx rfl (pc0 := 223) (pc' := 267) rfl (hb hby at_223) (by decide) (by decide) k) ?_
              show G (T72.setTop (mkF m 267 #[.val (.int p0), .val (.int p1), .val (.int p2), .val (.int p3), .val (.int p4), .val (.int v1), .val (.int v2), .val (.int v3), .val (.int u1), .val (.int u2), .val (.int u3), .val (.int p3), .val (.int g2), .val (.ref b1), .val (.ref b38), .val (.int kk), .val (.ref b38), .val (.int (0 : Int32))] []))
              refine gs (fun t k => XS.aload X72.here hx rfl (hb hby at_267) rfl rfl k) ?_
              show G (T72.setTop (mkF m 269 #[.val (.int p0), .val (.int p1), .val (.int p2), .val (.int p3), .val (.int p4), .val (.int v1), .val (.int v2), .val (.int v3), .val (.int u1), .val (.int u2), .val (.int u3), .val (.int p3), .val (.int g2), .val (.ref b1), .val (.ref b38), .val (.int kk), .val (.ref b38), .val (.int (0 : Int32))] [(.ref b1)]))
              refine gs (fun t k => XS.aload X72.here hx rfl (hb hby at_269) rfl rfl k) ?_
              show G (T72.setTop (mkF m 271 #[.val (.int p0), .val (.int p1), .val (.int p2), .val (.int p3), .val (.int p4), .val (.int v1), .val (.int v2), .val (.int v3), .val (.int u1), .val (.int u2), .val (.int u3), .val (.int p3), .val (.int g2), .val (.ref b1), .val (.ref b38), .val (.int kk), .val (.ref b38), .val (.int (0 : Int32))] [(.ref b38), (.ref b1)]))
              obtain ⟨_, _, _, EJ84, -⟩ := id JD31_q74
              obtain ⟨cq84, kq84, q84a, q84b, q84c⟩ := isOf hZ rfl EJ84
              obtain ⟨_, _, ⟨T84, L84, k84, n84⟩, -, X84, ⟨Lc84, hQ84, l84, y84, z84⟩, st84⟩ := X72.virtualBack hx (y := (⟨"com/example/consensus_to_coverage/consensustocoverage/trecfiles/Judgement", "equals", "(Ljava/lang/Object;)Z"⟩ : MethodName)) (z := (⟨"com/example/consensus_to_coverage/consensustocoverage/trecfiles/Judgement", "equals", "(Ljava/lang/Object;)Z"⟩ : MethodName)) hown (mvT hZ (hw _ (List.mem_of_getElem? (i := 46) rfl))) (mvT hZ (hw _ (List.mem_of_getElem? (i := 47) rfl))) (notFace_of_selects (args := #[]) (mvT hZ (hw _ (List.mem_of_getElem? (i := 49) rfl)))) (mvT hZ (hw _ (List.mem_of_getElem? (i := 49) rfl))) (mvT hZ (hw _ (List.mem_of_getElem? (i := 48) rfl))) (by decide) (backOf (W := 0) (rm8 l Z a0 hw [] b1 b38 (own_b v1) (own_b v2) (own_b v3) p3 (own_b u1) (own_b u2) (own_b u3) g2 cs T72.heap n0 (Nat.le_trans Z0 K79.1) SC_q73 hcs JD31_q74 JD72) hZ (hw _ (List.mem_of_getElem? (i := 50) rfl)) (hw _ (List.mem_of_getElem? (i := 2) rfl)) (by decide) (by decide)) q84a q84c (g := (mkF m 271 #[.val (.int p0), .val (.int p1), .val (.int p2), .val (.int p3), .val (.int p4), .val (.int v1), .val (.int v2), .val (.int v3), .val (.int u1), .val (.int u2), .val (.int u3), .val (.int p3), .val (.int g2), .val (.ref b1), .val (.ref b38), .val (.int kk), .val (.ref b38), .val (.int (0 : Int32))] [(.ref b38), (.ref b1)])) rfl (by rw [hml]; rfl) (Steps.refl _) (argsL := [(.ref b38)]) (rest := []) (lenOf pd_5 rfl) rfl (by show 2 * 0 + _ ≤ _; exact Nat.le_of_eq rfl) (hb hby at_271) (fun _ _ => ⟨rfl, rfl, (by decide : 14 + 0 ≤ _), (by decide : 38 + 0 ≤ _)⟩)
              dsimp only [Pt.U, Pt.locs, Pt.cells, Pt.slots] at X84 l84 y84 z84 st84 hQ84
              subst y84 z84
              obtain ⟨rfl, N84q, e84⟩ := hQ84
              have N84 : Fr n0 L84 := by rw [l84]; exact Fr.app N72 N84q
              refine gs (fun t k => st84.trans k) ?_
              show G (T84.setTop (mkF m 274 #[.val (.int p0), .val (.int p1), .val (.int p2), .val (.int p3), .val (.int p4), .val (.int v1), .val (.int v2), .val (.int v3), .val (.int u1), .val (.int u2), .val (.int u3), .val (.int p3), .val (.int g2), .val (.ref b1), .val (.ref b38), .val (.int kk), .val (.ref b38), .val (.int (0 : Int32))] [(.int (own_jeq (own_b v1) (own_b v2) (own_b v3) p3 (own_b u1) (own_b u2) (own_b u3) g2))]))
              refine gs (fun t k => XS.iload X84.here hx rfl (hb hby at_274) rfl k) ?_
              show G (T84.setTop (mkF m 276 #[.val (.int p0), .val (.int p1), .val (.int p2), .val (.int p3), .val (.int p4), .val (.int v1), .val (.int v2), .val (.int v3), .val (.int u1), .val (.int u2), .val (.int u3), .val (.int p3), .val (.int g2), .val (.ref b1), .val (.ref b38), .val (.int kk), .val (.ref b38), .val (.int (0 : Int32))] [(.int (0 : Int32)), (.int (own_jeq (own_b v1) (own_b v2) (own_b v3) p3 (own_b u1) (own_b u2) (own_b u3) g2))]))
              refine gs (fun t k => XS.icmpNo X84.here hx rfl (hb hby at_276) rfl (teq (by simp [own_jeq, own_b_inj r1 t1, own_b_inj r2 t2, own_b_inj r3 t3, hc192])).2 k) ?_
              show G (T84.setTop (mkF m 279 #[.val (.int p0), .val (.int p1), .val (.int p2), .val (.int p3), .val (.int p4), .val (.int v1), .val (.int v2), .val (.int v3), .val (.int u1), .val (.int u2), .val (.int u3), .val (.int p3), .val (.int g2), .val (.ref b1), .val (.ref b38), .val (.int kk), .val (.ref b38), .val (.int (0 : Int32))] []))
              refine gs (fun t k => XS.iconst X84.here hx rfl (hb hby at_279) k) ?_
              show G (T84.setTop (mkF m 280 #[.val (.int p0), .val (.int p1), .val (.int p2), .val (.int p3), .val (.int p4), .val (.int v1), .val (.int v2), .val (.int v3), .val (.int u1), .val (.int u2), .val (.int u3), .val (.int p3), .val (.int g2), .val (.ref b1), .val (.ref b38), .val (.int kk), .val (.ref b38), .val (.int (0 : Int32))] [(.int (1 : Int32))]))
              refine gs (fun t k => XS.goto X84.here hx rfl (pc0 := 280) (pc' := 284) rfl (hb hby at_280) (by decide) (by decide) k) ?_
              show G (T84.setTop (mkF m 284 #[.val (.int p0), .val (.int p1), .val (.int p2), .val (.int p3), .val (.int p4), .val (.int v1), .val (.int v2), .val (.int v3), .val (.int u1), .val (.int u2), .val (.int u3), .val (.int p3), .val (.int g2), .val (.ref b1), .val (.ref b38), .val (.int kk), .val (.ref b38), .val (.int (0 : Int32))] [(.int (1 : Int32))]))
              obtain ⟨fs, hr, hrun, hended, hW, hsame⟩ := X84.leave (v := some (.int (1 : Int32))) (fun h => by rw [Bd.returns] at h; cases h)
              refine gl _ ⟨_, _, retN X84 hx (t := .boolean) Bd.returns (by simp) (hb hby at_284) hr, hrun, hended, _, _, rfl, ?_, ⟨_, rfl⟩, hW, hsame.mono (by decide) (by decide)⟩
              show Q0 h0 n0 _ T84.heap _
              rw [e84]
              exact ⟨rfl, N84⟩
          · refine gs (fun t k => XS.icmpNo X72.here hx rfl (hb hby at_174) rfl (flt hc174).1 k) ?_
            show G (T72.setTop (mkF m 177 #[.val (.int p0), .val (.int p1), .val (.int p2), .val (.int p3), .val (.int p4), .val (.int v1), .val (.int v2), .val (.int v3), .val (.int u1), .val (.int u2), .val (.int u3), .val (.int p3), .val (.int g2), .val (.ref b1), .val (.ref b38), .val (.int kk), .unset, .unset] []))
            refine gs (fun t k => XS.iload X72.here hx rfl (hb hby at_177) rfl k) ?_
            show G (T72.setTop (mkF m 179 #[.val (.int p0), .val (.int p1), .val (.int p2), .val (.int p3), .val (.int p4), .val (.int v1), .val (.int v2), .val (.int v3), .val (.int u1), .val (.int u2), .val (.int u3), .val (.int p3), .val (.int g2), .val (.ref b1), .val (.ref b38), .val (.int kk), .unset, .unset] [(.int kk)]))
            refine gs (fun t k => XS.bipush X72.here hx rfl (hb hby at_179) k) ?_
            show G (T72.setTop (mkF m 181 #[.val (.int p0), .val (.int p1), .val (.int p2), .val (.int p3), .val (.int p4), .val (.int v1), .val (.int v2), .val (.int v3), .val (.int u1), .val (.int u2), .val (.int u3), .val (.int p3), .val (.int g2), .val (.ref b1), .val (.ref b38), .val (.int kk), .unset, .unset] [(.int (7 : Int32)), (.int kk)]))
            by_cases hc181 : kk = (7 : Int32)
            · refine gs (fun t k => XS.icmpNo X72.here hx rfl (hb hby at_181) rfl (teq hc181).2 k) ?_
              show G (T72.setTop (mkF m 184 #[.val (.int p0), .val (.int p1), .val (.int p2), .val (.int p3), .val (.int p4), .val (.int v1), .val (.int v2), .val (.int v3), .val (.int u1), .val (.int u2), .val (.int u3), .val (.int p3), .val (.int g2), .val (.ref b1), .val (.ref b38), .val (.int kk), .unset, .unset] []))
              refine gs (fun t k => XS.aload X72.here hx rfl (hb hby at_184) rfl rfl k) ?_
              show G (T72.setTop (mkF m 186 #[.val (.int p0), .val (.int p1), .val (.int p2), .val (.int p3), .val (.int p4), .val (.int v1), .val (.int v2), .val (.int v3), .val (.int u1), .val (.int u2), .val (.int u3), .val (.int p3), .val (.int g2), .val (.ref b1), .val (.ref b38), .val (.int kk), .unset, .unset] [(.ref b38)]))
              refine gs (fun t k => XS.astore X72.here hx rfl (hb hby at_186) rfl rfl (l' := #[.val (.int p0), .val (.int p1), .val (.int p2), .val (.int p3), .val (.int p4), .val (.int v1), .val (.int v2), .val (.int v3), .val (.int u1), .val (.int u2), .val (.int u3), .val (.int p3), .val (.int g2), .val (.ref b1), .val (.ref b38), .val (.int kk), .val (.ref b38), .unset]) rfl k) ?_
              show G (T72.setTop (mkF m 188 #[.val (.int p0), .val (.int p1), .val (.int p2), .val (.int p3), .val (.int p4), .val (.int v1), .val (.int v2), .val (.int v3), .val (.int u1), .val (.int u2), .val (.int u3), .val (.int p3), .val (.int g2), .val (.ref b1), .val (.ref b38), .val (.int kk), .val (.ref b38), .unset] []))
              refine gs (fun t k => XS.iload X72.here hx rfl (hb hby at_188) rfl k) ?_
              show G (T72.setTop (mkF m 190 #[.val (.int p0), .val (.int p1), .val (.int p2), .val (.int p3), .val (.int p4), .val (.int v1), .val (.int v2), .val (.int v3), .val (.int u1), .val (.int u2), .val (.int u3), .val (.int p3), .val (.int g2), .val (.ref b1), .val (.ref b38), .val (.int kk), .val (.ref b38), .unset] [(.int v1)]))
              refine gs (fun t k => XS.iload X72.here hx rfl (hb hby at_190) rfl k) ?_
              show G (T72.setTop (mkF m 192 #[.val (.int p0), .val (.int p1), .val (.int p2), .val (.int p3), .val (.int p4), .val (.int v1), .val (.int v2), .val (.int v3), .val (.int u1), .val (.int u2), .val (.int u3), .val (.int p3), .val (.int g2), .val (.ref b1), .val (.ref b38), .val (.int kk), .val (.ref b38), .unset] [(.int u1), (.int v1)]))
              by_cases hc192 : v1 = u1
              · refine gs (fun t k => XS.icmpNo X72.here hx rfl (hb hby at_192) rfl (teq hc192).2 k) ?_
                show G (T72.setTop (mkF m 195 #[.val (.int p0), .val (.int p1), .val (.int p2), .val (.int p3), .val (.int p4), .val (.int v1), .val (.int v2), .val (.int v3), .val (.int u1), .val (.int u2), .val (.int u3), .val (.int p3), .val (.int g2), .val (.ref b1), .val (.ref b38), .val (.int kk), .val (.ref b38), .unset] []))
                refine gs (fun t k => XS.iload X72.here hx rfl (hb hby at_195) rfl k) ?_
                show G (T72.setTop (mkF m 197 #[.val (.int p0), .val (.int p1), .val (.int p2), .val (.int p3), .val (.int p4), .val (.int v1), .val (.int v2), .val (.int v3), .val (.int u1), .val (.int u2), .val (.int u3), .val (.int p3), .val (.int g2), .val (.ref b1), .val (.ref b38), .val (.int kk), .val (.ref b38), .unset] [(.int v2)]))
                refine gs (fun t k => XS.iload X72.here hx rfl (hb hby at_197) rfl k) ?_
                show G (T72.setTop (mkF m 199 #[.val (.int p0), .val (.int p1), .val (.int p2), .val (.int p3), .val (.int p4), .val (.int v1), .val (.int v2), .val (.int v3), .val (.int u1), .val (.int u2), .val (.int u3), .val (.int p3), .val (.int g2), .val (.ref b1), .val (.ref b38), .val (.int kk), .val (.ref b38), .unset] [(.int u2), (.int v2)]))
                by_cases hc199 : v2 = u2
                · refine gs (fun t k => XS.icmpNo X72.here hx rfl (hb hby at_199) rfl (teq hc199).2 k) ?_
                  show G (T72.setTop (mkF m 202 #[.val (.int p0), .val (.int p1), .val (.int p2), .val (.int p3), .val (.int p4), .val (.int v1), .val (.int v2), .val (.int v3), .val (.int u1), .val (.int u2), .val (.int u3), .val (.int p3), .val (.int g2), .val (.ref b1), .val (.ref b38), .val (.int kk), .val (.ref b38), .unset] []))
                  refine gs (fun t k => XS.iload X72.here hx rfl (hb hby at_202) rfl k) ?_
                  show G (T72.setTop (mkF m 204 #[.val (.int p0), .val (.int p1), .val (.int p2), .val (.int p3), .val (.int p4), .val (.int v1), .val (.int v2), .val (.int v3), .val (.int u1), .val (.int u2), .val (.int u3), .val (.int p3), .val (.int g2), .val (.ref b1), .val (.ref b38), .val (.int kk), .val (.ref b38), .unset] [(.int v3)]))
                  refine gs (fun t k => XS.iload X72.here hx rfl (hb hby at_204) rfl k) ?_
                  show G (T72.setTop (mkF m 206 #[.val (.int p0), .val (.int p1), .val (.int p2), .val (.int p3), .val (.int p4), .val (.int v1), .val (.int v2), .val (.int v3), .val (.int u1), .val (.int u2), .val (.int u3), .val (.int p3), .val (.int g2), .val (.ref b1), .val (.ref b38), .val (.int kk), .val (.ref b38), .unset] [(.int u3), (.int v3)]))
                  by_cases hc206 : v3 = u3
                  · refine gs (fun t k => XS.icmpNo X72.here hx rfl (hb hby at_206) rfl (teq hc206).2 k) ?_
                    show G (T72.setTop (mkF m 209 #[.val (.int p0), .val (.int p1), .val (.int p2), .val (.int p3), .val (.int p4), .val (.int v1), .val (.int v2), .val (.int v3), .val (.int u1), .val (.int u2), .val (.int u3), .val (.int p3), .val (.int g2), .val (.ref b1), .val (.ref b38), .val (.int kk), .val (.ref b38), .unset] []))
                    refine gs (fun t k => XS.iload X72.here hx rfl (hb hby at_209) rfl k) ?_
                    show G (T72.setTop (mkF m 211 #[.val (.int p0), .val (.int p1), .val (.int p2), .val (.int p3), .val (.int p4), .val (.int v1), .val (.int v2), .val (.int v3), .val (.int u1), .val (.int u2), .val (.int u3), .val (.int p3), .val (.int g2), .val (.ref b1), .val (.ref b38), .val (.int kk), .val (.ref b38), .unset] [(.int p3)]))
                    refine gs (fun t k => XS.iload X72.here hx rfl (hb hby at_211) rfl k) ?_
                    show G (T72.setTop (mkF m 213 #[.val (.int p0), .val (.int p1), .val (.int p2), .val (.int p3), .val (.int p4), .val (.int v1), .val (.int v2), .val (.int v3), .val (.int u1), .val (.int u2), .val (.int u3), .val (.int p3), .val (.int g2), .val (.ref b1), .val (.ref b38), .val (.int kk), .val (.ref b38), .unset] [(.int g2), (.int p3)]))
                    by_cases hc213 : p3 = g2
                    · refine gs (fun t k => XS.icmpNo X72.here hx rfl (hb hby at_213) rfl (teq hc213).2 k) ?_
                      show G (T72.setTop (mkF m 216 #[.val (.int p0), .val (.int p1), .val (.int p2), .val (.int p3), .val (.int p4), .val (.int v1), .val (.int v2), .val (.int v3), .val (.int u1), .val (.int u2), .val (.int u3), .val (.int p3), .val (.int g2), .val (.ref b1), .val (.ref b38), .val (.int kk), .val (.ref b38), .unset] []))
                      refine gs (fun t k => XS.iconst X72.here hx rfl (hb hby at_216) k) ?_
                      show G (T72.setTop (mkF m 217 #[.val (.int p0), .val (.int p1), .val (.int p2), .val (.int p3), .val (.int p4), .val (.int v1), .val (.int v2), .val (.int v3), .val (.int u1), .val (.int u2), .val (.int u3), .val (.int p3), .val (.int g2), .val (.ref b1), .val (.ref b38), .val (.int kk), .val (.ref b38), .unset] [(.int (1 : Int32))]))
                      refine gs (fun t k => XS.goto X72.here hx rfl (pc0 := 217) (pc' := 221) rfl (hb hby at_217) (by decide) (by decide) k) ?_
                      show G (T72.setTop (mkF m 221 #[.val (.int p0), .val (.int p1), .val (.int p2), .val (.int p3), .val (.int p4), .val (.int v1), .val (.int v2), .val (.int v3), .val (.int u1), .val (.int u2), .val (.int u3), .val (.int p3), .val (.int g2), .val (.ref b1), .val (.ref b38), .val (.int kk), .val (.ref b38), .unset] [(.int (1 : Int32))]))
                      refine gs (fun t k => XS.istore X72.here hx rfl (hb hby at_221) rfl (l' := #[.val (.int p0), .val (.int p1), .val (.int p2), .val (.int p3), .val (.int p4), .val (.int v1), .val (.int v2), .val (.int v3), .val (.int u1), .val (.int u2), .val (.int u3), .val (.int p3), .val (.int g2), .val (.ref b1), .val (.ref b38), .val (.int kk), .val (.ref b38), .val (.int (1 : Int32))]) rfl k) ?_
                      show G (T72.setTop (mkF m 223 #[.val (.int p0), .val (.int p1), .val (.int p2), .val (.int p3), .val (.int p4), .val (.int v1), .val (.int v2), .val (.int v3), .val (.int u1), .val (.int u2), .val (.int u3), .val (.int p3), .val (.int g2), .val (.ref b1), .val (.ref b38), .val (.int kk), .val (.ref b38), .val (.int (1 : Int32))] []))
                      refine gs (fun t k => XS.goto X72.here hx rfl (pc0 := 223) (pc' := 267) rfl (hb hby at_223) (by decide) (by decide) k) ?_
                      show G (T72.setTop (mkF m 267 #[.val (.int p0), .val (.int p1), .val (.int p2), .val (.int p3), .val (.int p4), .val (.int v1), .val (.int v2), .val (.int v3), .val (.int u1), .val (.int u2), .val (.int u3), .val (.int p3), .val (.int g2), .val (.ref b1), .val (.ref b38), .val (.int kk), .val (.ref b38), .val (.int (1 : Int32))] []))
                      refine gs (fun t k => XS.aload X72.here hx rfl (hb hby at_267) rfl rfl k) ?_
                      show G (T72.setTop (mkF m 269 #[.val (.int p0), .val (.int p1), .val (.int p2), .val (.int p3), .val (.int p4), .val (.int v1), .val (.int v2), .val (.int v3), .val (.int u1), .val (.int u2), .val (.int u3), .val (.int p3), .val (.int g2), .val (.ref b1), .val (.ref b38), .val (.int kk), .val (.ref b38), .val (.int (1 : Int32))] [(.ref b1)]))
                      refine gs (fun t k => XS.aload X72.here hx rfl (hb hby at_269) rfl rfl k) ?_
                      show G (T72.setTop (mkF m 271 #[.val (.int p0), .val (.int p1), .val (.int p2), .val (.int p3), .val (.int p4), .val (.int v1), .val (.int v2), .val (.int v3), .val (.int u1), .val (.int u2), .val (.int u3), .val (.int p3), .val (.int g2), .val (.ref b1), .val (.ref b38), .val (.int kk), .val (.ref b38), .val (.int (1 : Int32))] [(.ref b38), (.ref b1)]))
                      obtain ⟨_, _, _, EJ85, -⟩ := id JD31_q74
                      obtain ⟨cq85, kq85, q85a, q85b, q85c⟩ := isOf hZ rfl EJ85
                      obtain ⟨_, _, ⟨T85, L85, k85, n85⟩, -, X85, ⟨Lc85, hQ85, l85, y85, z85⟩, st85⟩ := X72.virtualBack hx (y := (⟨"com/example/consensus_to_coverage/consensustocoverage/trecfiles/Judgement", "equals", "(Ljava/lang/Object;)Z"⟩ : MethodName)) (z := (⟨"com/example/consensus_to_coverage/consensustocoverage/trecfiles/Judgement", "equals", "(Ljava/lang/Object;)Z"⟩ : MethodName)) hown (mvT hZ (hw _ (List.mem_of_getElem? (i := 46) rfl))) (mvT hZ (hw _ (List.mem_of_getElem? (i := 47) rfl))) (notFace_of_selects (args := #[]) (mvT hZ (hw _ (List.mem_of_getElem? (i := 49) rfl)))) (mvT hZ (hw _ (List.mem_of_getElem? (i := 49) rfl))) (mvT hZ (hw _ (List.mem_of_getElem? (i := 48) rfl))) (by decide) (backOf (W := 0) (rm8 l Z a0 hw [] b1 b38 (own_b v1) (own_b v2) (own_b v3) p3 (own_b u1) (own_b u2) (own_b u3) g2 cs T72.heap n0 (Nat.le_trans Z0 K79.1) SC_q73 hcs JD31_q74 JD72) hZ (hw _ (List.mem_of_getElem? (i := 50) rfl)) (hw _ (List.mem_of_getElem? (i := 2) rfl)) (by decide) (by decide)) q85a q85c (g := (mkF m 271 #[.val (.int p0), .val (.int p1), .val (.int p2), .val (.int p3), .val (.int p4), .val (.int v1), .val (.int v2), .val (.int v3), .val (.int u1), .val (.int u2), .val (.int u3), .val (.int p3), .val (.int g2), .val (.ref b1), .val (.ref b38), .val (.int kk), .val (.ref b38), .val (.int (1 : Int32))] [(.ref b38), (.ref b1)])) rfl (by rw [hml]; rfl) (Steps.refl _) (argsL := [(.ref b38)]) (rest := []) (lenOf pd_5 rfl) rfl (by show 2 * 0 + _ ≤ _; exact Nat.le_of_eq rfl) (hb hby at_271) (fun _ _ => ⟨rfl, rfl, (by decide : 14 + 0 ≤ _), (by decide : 38 + 0 ≤ _)⟩)
                      dsimp only [Pt.U, Pt.locs, Pt.cells, Pt.slots] at X85 l85 y85 z85 st85 hQ85
                      subst y85 z85
                      obtain ⟨rfl, N85q, e85⟩ := hQ85
                      have N85 : Fr n0 L85 := by rw [l85]; exact Fr.app N72 N85q
                      refine gs (fun t k => st85.trans k) ?_
                      show G (T85.setTop (mkF m 274 #[.val (.int p0), .val (.int p1), .val (.int p2), .val (.int p3), .val (.int p4), .val (.int v1), .val (.int v2), .val (.int v3), .val (.int u1), .val (.int u2), .val (.int u3), .val (.int p3), .val (.int g2), .val (.ref b1), .val (.ref b38), .val (.int kk), .val (.ref b38), .val (.int (1 : Int32))] [(.int (own_jeq (own_b v1) (own_b v2) (own_b v3) p3 (own_b u1) (own_b u2) (own_b u3) g2))]))
                      refine gs (fun t k => XS.iload X85.here hx rfl (hb hby at_274) rfl k) ?_
                      show G (T85.setTop (mkF m 276 #[.val (.int p0), .val (.int p1), .val (.int p2), .val (.int p3), .val (.int p4), .val (.int v1), .val (.int v2), .val (.int v3), .val (.int u1), .val (.int u2), .val (.int u3), .val (.int p3), .val (.int g2), .val (.ref b1), .val (.ref b38), .val (.int kk), .val (.ref b38), .val (.int (1 : Int32))] [(.int (1 : Int32)), (.int (own_jeq (own_b v1) (own_b v2) (own_b v3) p3 (own_b u1) (own_b u2) (own_b u3) g2))]))
                      refine gs (fun t k => XS.icmpNo X85.here hx rfl (hb hby at_276) rfl (teq (by simp [own_jeq, own_b_inj r1 t1, own_b_inj r2 t2, own_b_inj r3 t3, hc192, hc199, hc206, hc213])).2 k) ?_
                      show G (T85.setTop (mkF m 279 #[.val (.int p0), .val (.int p1), .val (.int p2), .val (.int p3), .val (.int p4), .val (.int v1), .val (.int v2), .val (.int v3), .val (.int u1), .val (.int u2), .val (.int u3), .val (.int p3), .val (.int g2), .val (.ref b1), .val (.ref b38), .val (.int kk), .val (.ref b38), .val (.int (1 : Int32))] []))
                      refine gs (fun t k => XS.iconst X85.here hx rfl (hb hby at_279) k) ?_
                      show G (T85.setTop (mkF m 280 #[.val (.int p0), .val (.int p1), .val (.int p2), .val (.int p3), .val (.int p4), .val (.int v1), .val (.int v2), .val (.int v3), .val (.int u1), .val (.int u2), .val (.int u3), .val (.int p3), .val (.int g2), .val (.ref b1), .val (.ref b38), .val (.int kk), .val (.ref b38), .val (.int (1 : Int32))] [(.int (1 : Int32))]))
                      refine gs (fun t k => XS.goto X85.here hx rfl (pc0 := 280) (pc' := 284) rfl (hb hby at_280) (by decide) (by decide) k) ?_
                      show G (T85.setTop (mkF m 284 #[.val (.int p0), .val (.int p1), .val (.int p2), .val (.int p3), .val (.int p4), .val (.int v1), .val (.int v2), .val (.int v3), .val (.int u1), .val (.int u2), .val (.int u3), .val (.int p3), .val (.int g2), .val (.ref b1), .val (.ref b38), .val (.int kk), .val (.ref b38), .val (.int (1 : Int32))] [(.int (1 : Int32))]))
                      obtain ⟨fs, hr, hrun, hended, hW, hsame⟩ := X85.leave (v := some (.int (1 : Int32))) (fun h => by rw [Bd.returns] at h; cases h)
                      refine gl _ ⟨_, _, retN X85 hx (t := .boolean) Bd.returns (by simp) (hb hby at_284) hr, hrun, hended, _, _, rfl, ?_, ⟨_, rfl⟩, hW, hsame.mono (by decide) (by decide)⟩
                      show Q0 h0 n0 _ T85.heap _
                      rw [e85]
                      exact ⟨rfl, N85⟩
                    · refine gs (fun t k => XS.icmpYes X72.here hx rfl (pc0 := 213) (pc' := 220) rfl (hb hby at_213) rfl (feq hc213).2 (by decide) (by decide) k) ?_
                      show G (T72.setTop (mkF m 220 #[.val (.int p0), .val (.int p1), .val (.int p2), .val (.int p3), .val (.int p4), .val (.int v1), .val (.int v2), .val (.int v3), .val (.int u1), .val (.int u2), .val (.int u3), .val (.int p3), .val (.int g2), .val (.ref b1), .val (.ref b38), .val (.int kk), .val (.ref b38), .unset] []))
                      refine gs (fun t k => XS.iconst X72.here hx rfl (hb hby at_220) k) ?_
                      show G (T72.setTop (mkF m 221 #[.val (.int p0), .val (.int p1), .val (.int p2), .val (.int p3), .val (.int p4), .val (.int v1), .val (.int v2), .val (.int v3), .val (.int u1), .val (.int u2), .val (.int u3), .val (.int p3), .val (.int g2), .val (.ref b1), .val (.ref b38), .val (.int kk), .val (.ref b38), .unset] [(.int (0 : Int32))]))
                      refine gs (fun t k => XS.istore X72.here hx rfl (hb hby at_221) rfl (l' := #[.val (.int p0), .val (.int p1), .val (.int p2), .val (.int p3), .val (.int p4), .val (.int v1), .val (.int v2), .val (.int v3), .val (.int u1), .val (.int u2), .val (.int u3), .val (.int p3), .val (.int g2), .val (.ref b1), .val (.ref b38), .val (.int kk), .val (.ref b38), .val (.int (0 : Int32))]) rfl k) ?_
                      show G (T72.setTop (mkF m 223 #[.val (.int p0), .val (.int p1), .val (.int p2), .val (.int p3), .val (.int p4), .val (.int v1), .val (.int v2), .val (.int v3), .val (.int u1), .val (.int u2), .val (.int u3), .val (.int p3), .val (.int g2), .val (.ref b1), .val (.ref b38), .val (.int kk), .val (.ref b38), .val (.int (0 : Int32))] []))
                      refine gs (fun t k => XS.goto X72.here hx rfl (pc0 := 223) (pc' := 267) rfl (hb hby at_223) (by decide) (by decide) k) ?_
                      show G (T72.setTop (mkF m 267 #[.val (.int p0), .val (.int p1), .val (.int p2), .val (.int p3), .val (.int p4), .val (.int v1), .val (.int v2), .val (.int v3), .val (.int u1), .val (.int u2), .val (.int u3), .val (.int p3), .val (.int g2), .val (.ref b1), .val (.ref b38), .val (.int kk), .val (.ref b38), .val (.int (0 : Int32))] []))
                      refine gs (fun t k => XS.aload X72.here hx rfl (hb hby at_267) rfl rfl k) ?_
                      show G (T72.setTop (mkF m 269 #[.val (.int p0), .val (.int p1), .val (.int p2), .val (.int p3), .val (.int p4), .val (.int v1), .val (.int v2), .val (.int v3), .val (.int u1), .val (.int u2), .val (.int u3), .val (.int p3), .val (.int g2), .val (.ref b1), .val (.ref b38), .val (.int kk), .val (.ref b38), .val (.int (0 : Int32))] [(.ref b1)]))
                      refine gs (fun t k => XS.aload X72.here hx rfl (hb hby at_269) rfl rfl k) ?_
                      show G (T72.setTop (mkF m 271 #[.val (.int p0), .val (.int p1), .val (.int p2), .val (.int p3), .val (.int p4), .val (.int v1), .val (.int v2), .val (.int v3), .val (.int u1), .val (.int u2), .val (.int u3), .val (.int p3), .val (.int g2), .val (.ref b1), .val (.ref b38), .val (.int kk), .val (.ref b38), .val (.int (0 : Int32))] [(.ref b38), (.ref b1)]))
                      obtain ⟨_, _, _, EJ86, -⟩ := id JD31_q74
                      obtain ⟨cq86, kq86, q86a, q86b, q86c⟩ := isOf hZ rfl EJ86
                      obtain ⟨_, _, ⟨T86, L86, k86, n86⟩, -, X86, ⟨Lc86, hQ86, l86, y86, z86⟩, st86⟩ := X72.virtualBack hx (y := (⟨"com/example/consensus_to_coverage/consensustocoverage/trecfiles/Judgement", "equals", "(Ljava/lang/Object;)Z"⟩ : MethodName)) (z := (⟨"com/example/consensus_to_coverage/consensustocoverage/trecfiles/Judgement", "equals", "(Ljava/lang/Object;)Z"⟩ : MethodName)) hown (mvT hZ (hw _ (List.mem_of_getElem? (i := 46) rfl))) (mvT hZ (hw _ (List.mem_of_getElem? (i := 47) rfl))) (notFace_of_selects (args := #[]) (mvT hZ (hw _ (List.mem_of_getElem? (i := 49) rfl)))) (mvT hZ (hw _ (List.mem_of_getElem? (i := 49) rfl))) (mvT hZ (hw _ (List.mem_of_getElem? (i := 48) rfl))) (by decide) (backOf (W := 0) (rm8 l Z a0 hw [] b1 b38 (own_b v1) (own_b v2) (own_b v3) p3 (own_b u1) (own_b u2) (own_b u3) g2 cs T72.heap n0 (Nat.le_trans Z0 K79.1) SC_q73 hcs JD31_q74 JD72) hZ (hw _ (List.mem_of_getElem? (i := 50) rfl)) (hw _ (List.mem_of_getElem? (i := 2) rfl)) (by decide) (by decide)) q86a q86c (g := (mkF m 271 #[.val (.int p0), .val (.int p1), .val (.int p2), .val (.int p3), .val (.int p4), .val (.int v1), .val (.int v2), .val (.int v3), .val (.int u1), .val (.int u2), .val (.int u3), .val (.int p3), .val (.int g2), .val (.ref b1), .val (.ref b38), .val (.int kk), .val (.ref b38), .val (.int (0 : Int32))] [(.ref b38), (.ref b1)])) rfl (by rw [hml]; rfl) (Steps.refl _) (argsL := [(.ref b38)]) (rest := []) (lenOf pd_5 rfl) rfl (by show 2 * 0 + _ ≤ _; exact Nat.le_of_eq rfl) (hb hby at_271) (fun _ _ => ⟨rfl, rfl, (by decide : 14 + 0 ≤ _), (by decide : 38 + 0 ≤ _)⟩)
                      dsimp only [Pt.U, Pt.locs, Pt.cells, Pt.slots] at X86 l86 y86 z86 st86 hQ86
                      subst y86 z86
                      obtain ⟨rfl, N86q, e86⟩ := hQ86
                      have N86 : Fr n0 L86 := by rw [l86]; exact Fr.app N72 N86q
                      refine gs (fun t k => st86.trans k) ?_
                      show G (T86.setTop (mkF m 274 #[.val (.int p0), .val (.int p1), .val (.int p2), .val (.int p3), .val (.int p4), .val (.int v1), .val (.int v2), .val (.int v3), .val (.int u1), .val (.int u2), .val (.int u3), .val (.int p3), .val (.int g2), .val (.ref b1), .val (.ref b38), .val (.int kk), .val (.ref b38), .val (.int (0 : Int32))] [(.int (own_jeq (own_b v1) (own_b v2) (own_b v3) p3 (own_b u1) (own_b u2) (own_b u3) g2))]))
                      refine gs (fun t k => XS.iload X86.here hx rfl (hb hby at_274) rfl k) ?_
                      show G (T86.setTop (mkF m 276 #[.val (.int p0), .val (.int p1), .val (.int p2), .val (.int p3), .val (.int p4), .val (.int v1), .val (.int v2), .val (.int v3), .val (.int u1), .val (.int u2), .val (.int u3), .val (.int p3), .val (.int g2), .val (.ref b1), .val (.ref b38), .val (.int kk), .val (.ref b38), .val (.int (0 : Int32))] [(.int (0 : Int32)), (.int (own_jeq (own_b v1) (own_b v2) (own_b v3) p3 (own_b u1) (own_b u2) (own_b u3) g2))]))
                      refine gs (fun t k => XS.icmpNo X86.here hx rfl (hb hby at_276) rfl (teq (by simp [own_jeq, own_b_inj r1 t1, own_b_inj r2 t2, own_b_inj r3 t3, hc192, hc199, hc206, hc213])).2 k) ?_
                      show G (T86.setTop (mkF m 279 #[.val (.int p0), .val (.int p1), .val (.int p2), .val (.int p3), .val (.int p4), .val (.int v1), .val (.int v2), .val (.int v3), .val (.int u1), .val (.int u2), .val (.int u3), .val (.int p3), .val (.int g2), .val (.ref b1), .val (.ref b38), .val (.int kk), .val (.ref b38), .val (.int (0 : Int32))] []))
                      refine gs (fun t k => XS.iconst X86.here hx rfl (hb hby at_279) k) ?_
                      show G (T86.setTop (mkF m 280 #[.val (.int p0), .val (.int p1), .val (.int p2), .val (.int p3), .val (.int p4), .val (.int v1), .val (.int v2), .val (.int v3), .val (.int u1), .val (.int u2), .val (.int u3), .val (.int p3), .val (.int g2), .val (.ref b1), .val (.ref b38), .val (.int kk), .val (.ref b38), .val (.int (0 : Int32))] [(.int (1 : Int32))]))
                      refine gs (fun t k => XS.goto X86.here hx rfl (pc0 := 280) (pc' := 284) rfl (hb hby at_280) (by decide) (by decide) k) ?_
                      show G (T86.setTop (mkF m 284 #[.val (.int p0), .val (.int p1), .val (.int p2), .val (.int p3), .val (.int p4), .val (.int v1), .val (.int v2), .val (.int v3), .val (.int u1), .val (.int u2), .val (.int u3), .val (.int p3), .val (.int g2), .val (.ref b1), .val (.ref b38), .val (.int kk), .val (.ref b38), .val (.int (0 : Int32))] [(.int (1 : Int32))]))
                      obtain ⟨fs, hr, hrun, hended, hW, hsame⟩ := X86.leave (v := some (.int (1 : Int32))) (fun h => by rw [Bd.returns] at h; cases h)
                      refine gl _ ⟨_, _, retN X86 hx (t := .boolean) Bd.returns (by simp) (hb hby at_284) hr, hrun, hended, _, _, rfl, ?_, ⟨_, rfl⟩, hW, hsame.mono (by decide) (by decide)⟩
                      show Q0 h0 n0 _ T86.heap _
                      rw [e86]
                      exact ⟨rfl, N86⟩
                  · refine gs (fun t k => XS.icmpYes X72.here hx rfl (pc0 := 206) (pc' := 220) rfl (hb hby at_206) rfl (feq hc206).2 (by decide) (by decide) k) ?_
                    show G (T72.setTop (mkF m 220 #[.val (.int p0), .val (.int p1), .val (.int p2), .val (.int p3), .val (.int p4), .val (.int v1), .val (.int v2), .val (.int v3), .val (.int u1), .val (.int u2), .val (.int u3), .val (.int p3), .val (.int g2), .val (.ref b1), .val (.ref b38), .val (.int kk), .val (.ref b38), .unset] []))
                    refine gs (fun t k => XS.iconst X72.here hx rfl (hb hby at_220) k) ?_
                    show G (T72.setTop (mkF m 221 #[.val (.int p0), .val (.int p1), .val (.int p2), .val (.int p3), .val (.int p4), .val (.int v1), .val (.int v2), .val (.int v3), .val (.int u1), .val (.int u2), .val (.int u3), .val (.int p3), .val (.int g2), .val (.ref b1), .val (.ref b38), .val (.int kk), .val (.ref b38), .unset] [(.int (0 : Int32))]))
                    refine gs (fun t k => XS.istore X72.here hx rfl (hb hby at_221) rfl (l' := #[.val (.int p0), .val (.int p1), .val (.int p2), .val (.int p3), .val (.int p4), .val (.int v1), .val (.int v2), .val (.int v3), .val (.int u1), .val (.int u2), .val (.int u3), .val (.int p3), .val (.int g2), .val (.ref b1), .val (.ref b38), .val (.int kk), .val (.ref b38), .val (.int (0 : Int32))]) rfl k) ?_
                    show G (T72.setTop (mkF m 223 #[.val (.int p0), .val (.int p1), .val (.int p2), .val (.int p3), .val (.int p4), .val (.int v1), .val (.int v2), .val (.int v3), .val (.int u1), .val (.int u2), .val (.int u3), .val (.int p3), .val (.int g2), .val (.ref b1), .val (.ref b38), .val (.int kk), .val (.ref b38), .val (.int (0 : Int32))] []))
                    refine gs (fun t k => XS.goto X72.here hx rfl (pc0 := 223) (pc' := 267) rfl (hb hby at_223) (by decide) (by decide) k) ?_
                    show G (T72.setTop (mkF m 267 #[.val (.int p0), .val (.int p1), .val (.int p2), .val (.int p3), .val (.int p4), .val (.int v1), .val (.int v2), .val (.int v3), .val (.int u1), .val (.int u2), .val (.int u3), .val (.int p3), .val (.int g2), .val (.ref b1), .val (.ref b38), .val (.int kk), .val (.ref b38), .val (.int (0 : Int32))] []))
                    refine gs (fun t k => XS.aload X72.here hx rfl (hb hby at_267) rfl rfl k) ?_
                    show G (T72.setTop (mkF m 269 #[.val (.int p0), .val (.int p1), .val (.int p2), .val (.int p3), .val (.int p4), .val (.int v1), .val (.int v2), .val (.int v3), .val (.int u1), .val (.int u2), .val (.int u3), .val (.int p3), .val (.int g2), .val (.ref b1), .val (.ref b38), .val (.int kk), .val (.ref b38), .val (.int (0 : Int32))] [(.ref b1)]))
                    refine gs (fun t k => XS.aload X72.here hx rfl (hb hby at_269) rfl rfl k) ?_
                    show G (T72.setTop (mkF m 271 #[.val (.int p0), .val (.int p1), .val (.int p2), .val (.int p3), .val (.int p4), .val (.int v1), .val (.int v2), .val (.int v3), .val (.int u1), .val (.int u2), .val (.int u3), .val (.int p3), .val (.int g2), .val (.ref b1), .val (.ref b38), .val (.int kk), .val (.ref b38), .val (.int (0 : Int32))] [(.ref b38), (.ref b1)]))
                    obtain ⟨_, _, _, EJ87, -⟩ := id JD31_q74
                    obtain ⟨cq87, kq87, q87a, q87b, q87c⟩ := isOf hZ rfl EJ87
                    obtain ⟨_, _, ⟨T87, L87, k87, n87⟩, -, X87, ⟨Lc87, hQ87, l87, y87, z87⟩, st87⟩ := X72.virtualBack hx (y := (⟨"com/example/consensus_to_coverage/consensustocoverage/trecfiles/Judgement", "equals", "(Ljava/lang/Object;)Z"⟩ : MethodName)) (z := (⟨"com/example/consensus_to_coverage/consensustocoverage/trecfiles/Judgement", "equals", "(Ljava/lang/Object;)Z"⟩ : MethodName)) hown (mvT hZ (hw _ (List.mem_of_getElem? (i := 46) rfl))) (mvT hZ (hw _ (List.mem_of_getElem? (i := 47) rfl))) (notFace_of_selects (args := #[]) (mvT hZ (hw _ (List.mem_of_getElem? (i := 49) rfl)))) (mvT hZ (hw _ (List.mem_of_getElem? (i := 49) rfl))) (mvT hZ (hw _ (List.mem_of_getElem? (i := 48) rfl))) (by decide) (backOf (W := 0) (rm8 l Z a0 hw [] b1 b38 (own_b v1) (own_b v2) (own_b v3) p3 (own_b u1) (own_b u2) (own_b u3) g2 cs T72.heap n0 (Nat.le_trans Z0 K79.1) SC_q73 hcs JD31_q74 JD72) hZ (hw _ (List.mem_of_getElem? (i := 50) rfl)) (hw _ (List.mem_of_getElem? (i := 2) rfl)) (by decide) (by decide)) q87a q87c (g := (mkF m 271 #[.val (.int p0), .val (.int p1), .val (.int p2), .val (.int p3), .val (.int p4), .val (.int v1), .val (.int v2), .val (.int v3), .val (.int u1), .val (.int u2), .val (.int u3), .val (.int p3), .val (.int g2), .val (.ref b1), .val (.ref b38), .val (.int kk), .val (.ref b38), .val (.int (0 : Int32))] [(.ref b38), (.ref b1)])) rfl (by rw [hml]; rfl) (Steps.refl _) (argsL := [(.ref b38)]) (rest := []) (lenOf pd_5 rfl) rfl (by show 2 * 0 + _ ≤ _; exact Nat.le_of_eq rfl) (hb hby at_271) (fun _ _ => ⟨rfl, rfl, (by decide : 14 + 0 ≤ _), (by decide : 38 + 0 ≤ _)⟩)
                    dsimp only [Pt.U, Pt.locs, Pt.cells, Pt.slots] at X87 l87 y87 z87 st87 hQ87
                    subst y87 z87
                    obtain ⟨rfl, N87q, e87⟩ := hQ87
                    have N87 : Fr n0 L87 := by rw [l87]; exact Fr.app N72 N87q
                    refine gs (fun t k => st87.trans k) ?_
                    show G (T87.setTop (mkF m 274 #[.val (.int p0), .val (.int p1), .val (.int p2), .val (.int p3), .val (.int p4), .val (.int v1), .val (.int v2), .val (.int v3), .val (.int u1), .val (.int u2), .val (.int u3), .val (.int p3), .val (.int g2), .val (.ref b1), .val (.ref b38), .val (.int kk), .val (.ref b38), .val (.int (0 : Int32))] [(.int (own_jeq (own_b v1) (own_b v2) (own_b v3) p3 (own_b u1) (own_b u2) (own_b u3) g2))]))
                    refine gs (fun t k => XS.iload X87.here hx rfl (hb hby at_274) rfl k) ?_
                    show G (T87.setTop (mkF m 276 #[.val (.int p0), .val (.int p1), .val (.int p2), .val (.int p3), .val (.int p4), .val (.int v1), .val (.int v2), .val (.int v3), .val (.int u1), .val (.int u2), .val (.int u3), .val (.int p3), .val (.int g2), .val (.ref b1), .val (.ref b38), .val (.int kk), .val (.ref b38), .val (.int (0 : Int32))] [(.int (0 : Int32)), (.int (own_jeq (own_b v1) (own_b v2) (own_b v3) p3 (own_b u1) (own_b u2) (own_b u3) g2))]))
                    refine gs (fun t k => XS.icmpNo X87.here hx rfl (hb hby at_276) rfl (teq (by simp [own_jeq, own_b_inj r1 t1, own_b_inj r2 t2, own_b_inj r3 t3, hc192, hc199, hc206])).2 k) ?_
                    show G (T87.setTop (mkF m 279 #[.val (.int p0), .val (.int p1), .val (.int p2), .val (.int p3), .val (.int p4), .val (.int v1), .val (.int v2), .val (.int v3), .val (.int u1), .val (.int u2), .val (.int u3), .val (.int p3), .val (.int g2), .val (.ref b1), .val (.ref b38), .val (.int kk), .val (.ref b38), .val (.int (0 : Int32))] []))
                    refine gs (fun t k => XS.iconst X87.here hx rfl (hb hby at_279) k) ?_
                    show G (T87.setTop (mkF m 280 #[.val (.int p0), .val (.int p1), .val (.int p2), .val (.int p3), .val (.int p4), .val (.int v1), .val (.int v2), .val (.int v3), .val (.int u1), .val (.int u2), .val (.int u3), .val (.int p3), .val (.int g2), .val (.ref b1), .val (.ref b38), .val (.int kk), .val (.ref b38), .val (.int (0 : Int32))] [(.int (1 : Int32))]))
                    refine gs (fun t k => XS.goto X87.here hx rfl (pc0 := 280) (pc' := 284) rfl (hb hby at_280) (by decide) (by decide) k) ?_
                    show G (T87.setTop (mkF m 284 #[.val (.int p0), .val (.int p1), .val (.int p2), .val (.int p3), .val (.int p4), .val (.int v1), .val (.int v2), .val (.int v3), .val (.int u1), .val (.int u2), .val (.int u3), .val (.int p3), .val (.int g2), .val (.ref b1), .val (.ref b38), .val (.int kk), .val (.ref b38), .val (.int (0 : Int32))] [(.int (1 : Int32))]))
                    obtain ⟨fs, hr, hrun, hended, hW, hsame⟩ := X87.leave (v := some (.int (1 : Int32))) (fun h => by rw [Bd.returns] at h; cases h)
                    refine gl _ ⟨_, _, retN X87 hx (t := .boolean) Bd.returns (by simp) (hb hby at_284) hr, hrun, hended, _, _, rfl, ?_, ⟨_, rfl⟩, hW, hsame.mono (by decide) (by decide)⟩
                    show Q0 h0 n0 _ T87.heap _
                    rw [e87]
                    exact ⟨rfl, N87⟩
                · refine gs (fun t k => XS.icmpYes X72.here hx rfl (pc0 := 199) (pc' := 220) rfl (hb hby at_199) rfl (feq hc199).2 (by decide) (by decide) k) ?_
                  show G (T72.setTop (mkF m 220 #[.val (.int p0), .val (.int p1), .val (.int p2), .val (.int p3), .val (.int p4), .val (.int v1), .val (.int v2), .val (.int v3), .val (.int u1), .val (.int u2), .val (.int u3), .val (.int p3), .val (.int g2), .val (.ref b1), .val (.ref b38), .val (.int kk), .val (.ref b38), .unset] []))
                  refine gs (fun t k => XS.iconst X72.here hx rfl (hb hby at_220) k) ?_
                  show G (T72.setTop (mkF m 221 #[.val (.int p0), .val (.int p1), .val (.int p2), .val (.int p3), .val (.int p4), .val (.int v1), .val (.int v2), .val (.int v3), .val (.int u1), .val (.int u2), .val (.int u3), .val (.int p3), .val (.int g2), .val (.ref b1), .val (.ref b38), .val (.int kk), .val (.ref b38), .unset] [(.int (0 : Int32))]))
                  refine gs (fun t k => XS.istore X72.here hx rfl (hb hby at_221) rfl (l' := #[.val (.int p0), .val (.int p1), .val (.int p2), .val (.int p3), .val (.int p4), .val (.int v1), .val (.int v2), .val (.int v3), .val (.int u1), .val (.int u2), .val (.int u3), .val (.int p3), .val (.int g2), .val (.ref b1), .val (.ref b38), .val (.int kk), .val (.ref b38), .val (.int (0 : Int32))]) rfl k) ?_
                  show G (T72.setTop (mkF m 223 #[.val (.int p0), .val (.int p1), .val (.int p2), .val (.int p3), .val (.int p4), .val (.int v1), .val (.int v2), .val (.int v3), .val (.int u1), .val (.int u2), .val (.int u3), .val (.int p3), .val (.int g2), .val (.ref b1), .val (.ref b38), .val (.int kk), .val (.ref b38), .val (.int (0 : Int32))] []))
                  refine gs (fun t k => XS.goto X72.here hx rfl (pc0 := 223) (pc' := 267) rfl (hb hby at_223) (by decide) (by decide) k) ?_
                  show G (T72.setTop (mkF m 267 #[.val (.int p0), .val (.int p1), .val (.int p2), .val (.int p3), .val (.int p4), .val (.int v1), .val (.int v2), .val (.int v3), .val (.int u1), .val (.int u2), .val (.int u3), .val (.int p3), .val (.int g2), .val (.ref b1), .val (.ref b38), .val (.int kk), .val (.ref b38), .val (.int (0 : Int32))] []))
                  refine gs (fun t k => XS.aload X72.here hx rfl (hb hby at_267) rfl rfl k) ?_
                  show G (T72.setTop (mkF m 269 #[.val (.int p0), .val (.int p1), .val (.int p2), .val (.int p3), .val (.int p4), .val (.int v1), .val (.int v2), .val (.int v3), .val (.int u1), .val (.int u2), .val (.int u3), .val (.int p3), .val (.int g2), .val (.ref b1), .val (.ref b38), .val (.int kk), .val (.ref b38), .val (.int (0 : Int32))] [(.ref b1)]))
                  refine gs (fun t k => XS.aload X72.here hx rfl (hb hby at_269) rfl rfl k) ?_
                  show G (T72.setTop (mkF m 271 #[.val (.int p0), .val (.int p1), .val (.int p2), .val (.int p3), .val (.int p4), .val (.int v1), .val (.int v2), .val (.int v3), .val (.int u1), .val (.int u2), .val (.int u3), .val (.int p3), .val (.int g2), .val (.ref b1), .val (.ref b38), .val (.int kk), .val (.ref b38), .val (.int (0 : Int32))] [(.ref b38), (.ref b1)]))
                  obtain ⟨_, _, _, EJ88, -⟩ := id JD31_q74
                  obtain ⟨cq88, kq88, q88a, q88b, q88c⟩ := isOf hZ rfl EJ88
                  obtain ⟨_, _, ⟨T88, L88, k88, n88⟩, -, X88, ⟨Lc88, hQ88, l88, y88, z88⟩, st88⟩ := X72.virtualBack hx (y := (⟨"com/example/consensus_to_coverage/consensustocoverage/trecfiles/Judgement", "equals", "(Ljava/lang/Object;)Z"⟩ : MethodName)) (z := (⟨"com/example/consensus_to_coverage/consensustocoverage/trecfiles/Judgement", "equals", "(Ljava/lang/Object;)Z"⟩ : MethodName)) hown (mvT hZ (hw _ (List.mem_of_getElem? (i := 46) rfl))) (mvT hZ (hw _ (List.mem_of_getElem? (i := 47) rfl))) (notFace_of_selects (args := #[]) (mvT hZ (hw _ (List.mem_of_getElem? (i := 49) rfl)))) (mvT hZ (hw _ (List.mem_of_getElem? (i := 49) rfl))) (mvT hZ (hw _ (List.mem_of_getElem? (i := 48) rfl))) (by decide) (backOf (W := 0) (rm8 l Z a0 hw [] b1 b38 (own_b v1) (own_b v2) (own_b v3) p3 (own_b u1) (own_b u2) (own_b u3) g2 cs T72.heap n0 (Nat.le_trans Z0 K79.1) SC_q73 hcs JD31_q74 JD72) hZ (hw _ (List.mem_of_getElem? (i := 50) rfl)) (hw _ (List.mem_of_getElem? (i := 2) rfl)) (by decide) (by decide)) q88a q88c (g := (mkF m 271 #[.val (.int p0), .val (.int p1), .val (.int p2), .val (.int p3), .val (.int p4), .val (.int v1), .val (.int v2), .val (.int v3), .val (.int u1), .val (.int u2), .val (.int u3), .val (.int p3), .val (.int g2), .val (.ref b1), .val (.ref b38), .val (.int kk), .val (.ref b38), .val (.int (0 : Int32))] [(.ref b38), (.ref b1)])) rfl (by rw [hml]; rfl) (Steps.refl _) (argsL := [(.ref b38)]) (rest := []) (lenOf pd_5 rfl) rfl (by show 2 * 0 + _ ≤ _; exact Nat.le_of_eq rfl) (hb hby at_271) (fun _ _ => ⟨rfl, rfl, (by decide : 14 + 0 ≤ _), (by decide : 38 + 0 ≤ _)⟩)
                  dsimp only [Pt.U, Pt.locs, Pt.cells, Pt.slots] at X88 l88 y88 z88 st88 hQ88
                  subst y88 z88
                  obtain ⟨rfl, N88q, e88⟩ := hQ88
                  have N88 : Fr n0 L88 := by rw [l88]; exact Fr.app N72 N88q
                  refine gs (fun t k => st88.trans k) ?_
                  show G (T88.setTop (mkF m 274 #[.val (.int p0), .val (.int p1), .val (.int p2), .val (.int p3), .val (.int p4), .val (.int v1), .val (.int v2), .val (.int v3), .val (.int u1), .val (.int u2), .val (.int u3), .val (.int p3), .val (.int g2), .val (.ref b1), .val (.ref b38), .val (.int kk), .val (.ref b38), .val (.int (0 : Int32))] [(.int (own_jeq (own_b v1) (own_b v2) (own_b v3) p3 (own_b u1) (own_b u2) (own_b u3) g2))]))
                  refine gs (fun t k => XS.iload X88.here hx rfl (hb hby at_274) rfl k) ?_
                  show G (T88.setTop (mkF m 276 #[.val (.int p0), .val (.int p1), .val (.int p2), .val (.int p3), .val (.int p4), .val (.int v1), .val (.int v2), .val (.int v3), .val (.int u1), .val (.int u2), .val (.int u3), .val (.int p3), .val (.int g2), .val (.ref b1), .val (.ref b38), .val (.int kk), .val (.ref b38), .val (.int (0 : Int32))] [(.int (0 : Int32)), (.int (own_jeq (own_b v1) (own_b v2) (own_b v3) p3 (own_b u1) (own_b u2) (own_b u3) g2))]))
                  refine gs (fun t k => XS.icmpNo X88.here hx rfl (hb hby at_276) rfl (teq (by simp [own_jeq, own_b_inj r1 t1, own_b_inj r2 t2, own_b_inj r3 t3, hc192, hc199])).2 k) ?_
                  show G (T88.setTop (mkF m 279 #[.val (.int p0), .val (.int p1), .val (.int p2), .val (.int p3), .val (.int p4), .val (.int v1), .val (.int v2), .val (.int v3), .val (.int u1), .val (.int u2), .val (.int u3), .val (.int p3), .val (.int g2), .val (.ref b1), .val (.ref b38), .val (.int kk), .val (.ref b38), .val (.int (0 : Int32))] []))
                  refine gs (fun t k => XS.iconst X88.here hx rfl (hb hby at_279) k) ?_
                  show G (T88.setTop (mkF m 280 #[.val (.int p0), .val (.int p1), .val (.int p2), .val (.int p3), .val (.int p4), .val (.int v1), .val (.int v2), .val (.int v3), .val (.int u1), .val (.int u2), .val (.int u3), .val (.int p3), .val (.int g2), .val (.ref b1), .val (.ref b38), .val (.int kk), .val (.ref b38), .val (.int (0 : Int32))] [(.int (1 : Int32))]))
                  refine gs (fun t k => XS.goto X88.here hx rfl (pc0 := 280) (pc' := 284) rfl (hb hby at_280) (by decide) (by decide) k) ?_
                  show G (T88.setTop (mkF m 284 #[.val (.int p0), .val (.int p1), .val (.int p2), .val (.int p3), .val (.int p4), .val (.int v1), .val (.int v2), .val (.int v3), .val (.int u1), .val (.int u2), .val (.int u3), .val (.int p3), .val (.int g2), .val (.ref b1), .val (.ref b38), .val (.int kk), .val (.ref b38), .val (.int (0 : Int32))] [(.int (1 : Int32))]))
                  obtain ⟨fs, hr, hrun, hended, hW, hsame⟩ := X88.leave (v := some (.int (1 : Int32))) (fun h => by rw [Bd.returns] at h; cases h)
                  refine gl _ ⟨_, _, retN X88 hx (t := .boolean) Bd.returns (by simp) (hb hby at_284) hr, hrun, hended, _, _, rfl, ?_, ⟨_, rfl⟩, hW, hsame.mono (by decide) (by decide)⟩
                  show Q0 h0 n0 _ T88.heap _
                  rw [e88]
                  exact ⟨rfl, N88⟩
              · refine gs (fun t k => XS.icmpYes X72.here hx rfl (pc0 := 192) (pc' := 220) rfl (hb hby at_192) rfl (feq hc192).2 (by decide) (by decide) k) ?_
                show G (T72.setTop (mkF m 220 #[.val (.int p0), .val (.int p1), .val (.int p2), .val (.int p3), .val (.int p4), .val (.int v1), .val (.int v2), .val (.int v3), .val (.int u1), .val (.int u2), .val (.int u3), .val (.int p3), .val (.int g2), .val (.ref b1), .val (.ref b38), .val (.int kk), .val (.ref b38), .unset] []))
                refine gs (fun t k => XS.iconst X72.here hx rfl (hb hby at_220) k) ?_
                show G (T72.setTop (mkF m 221 #[.val (.int p0), .val (.int p1), .val (.int p2), .val (.int p3), .val (.int p4), .val (.int v1), .val (.int v2), .val (.int v3), .val (.int u1), .val (.int u2), .val (.int u3), .val (.int p3), .val (.int g2), .val (.ref b1), .val (.ref b38), .val (.int kk), .val (.ref b38), .unset] [(.int (0 : Int32))]))
                refine gs (fun t k => XS.istore X72.here hx rfl (hb hby at_221) rfl (l' := #[.val (.int p0), .val (.int p1), .val (.int p2), .val (.int p3), .val (.int p4), .val (.int v1), .val (.int v2), .val (.int v3), .val (.int u1), .val (.int u2), .val (.int u3), .val (.int p3), .val (.int g2), .val (.ref b1), .val (.ref b38), .val (.int kk), .val (.ref b38), .val (.int (0 : Int32))]) rfl k) ?_
                show G (T72.setTop (mkF m 223 #[.val (.int p0), .val (.int p1), .val (.int p2), .val (.int p3), .val (.int p4), .val (.int v1), .val (.int v2), .val (.int v3), .val (.int u1), .val (.int u2), .val (.int u3), .val (.int p3), .val (.int g2), .val (.ref b1), .val (.ref b38), .val (.int kk), .val (.ref b38), .val (.int (0 : Int32))] []))
                refine gs (fun t k => XS.goto X72.here hx rfl (pc0 := 223) (pc' := 267) rfl (hb hby at_223) (by decide) (by decide) k) ?_
                show G (T72.setTop (mkF m 267 #[.val (.int p0), .val (.int p1), .val (.int p2), .val (.int p3), .val (.int p4), .val (.int v1), .val (.int v2), .val (.int v3), .val (.int u1), .val (.int u2), .val (.int u3), .val (.int p3), .val (.int g2), .val (.ref b1), .val (.ref b38), .val (.int kk), .val (.ref b38), .val (.int (0 : Int32))] []))
                refine gs (fun t k => XS.aload X72.here hx rfl (hb hby at_267) rfl rfl k) ?_
                show G (T72.setTop (mkF m 269 #[.val (.int p0), .val (.int p1), .val (.int p2), .val (.int p3), .val (.int p4), .val (.int v1), .val (.int v2), .val (.int v3), .val (.int u1), .val (.int u2), .val (.int u3), .val (.int p3), .val (.int g2), .val (.ref b1), .val (.ref b38), .val (.int kk), .val (.ref b38), .val (.int (0 : Int32))] [(.ref b1)]))
                refine gs (fun t k => XS.aload X72.here hx rfl (hb hby at_269) rfl rfl k) ?_
                show G (T72.setTop (mkF m 271 #[.val (.int p0), .val (.int p1), .val (.int p2), .val (.int p3), .val (.int p4), .val (.int v1), .val (.int v2), .val (.int v3), .val (.int u1), .val (.int u2), .val (.int u3), .val (.int p3), .val (.int g2), .val (.ref b1), .val (.ref b38), .val (.int kk), .val (.ref b38), .val (.int (0 : Int32))] [(.ref b38), (.ref b1)]))
                obtain ⟨_, _, _, EJ89, -⟩ := id JD31_q74
                obtain ⟨cq89, kq89, q89a, q89b, q89c⟩ := isOf hZ rfl EJ89
                obtain ⟨_, _, ⟨T89, L89, k89, n89⟩, -, X89, ⟨Lc89, hQ89, l89, y89, z89⟩, st89⟩ := X72.virtualBack hx (y := (⟨"com/example/consensus_to_coverage/consensustocoverage/trecfiles/Judgement", "equals", "(Ljava/lang/Object;)Z"⟩ : MethodName)) (z := (⟨"com/example/consensus_to_coverage/consensustocoverage/trecfiles/Judgement", "equals", "(Ljava/lang/Object;)Z"⟩ : MethodName)) hown (mvT hZ (hw _ (List.mem_of_getElem? (i := 46) rfl))) (mvT hZ (hw _ (List.mem_of_getElem? (i := 47) rfl))) (notFace_of_selects (args := #[]) (mvT hZ (hw _ (List.mem_of_getElem? (i := 49) rfl)))) (mvT hZ (hw _ (List.mem_of_getElem? (i := 49) rfl))) (mvT hZ (hw _ (List.mem_of_getElem? (i := 48) rfl))) (by decide) (backOf (W := 0) (rm8 l Z a0 hw [] b1 b38 (own_b v1) (own_b v2) (own_b v3) p3 (own_b u1) (own_b u2) (own_b u3) g2 cs T72.heap n0 (Nat.le_trans Z0 K79.1) SC_q73 hcs JD31_q74 JD72) hZ (hw _ (List.mem_of_getElem? (i := 50) rfl)) (hw _ (List.mem_of_getElem? (i := 2) rfl)) (by decide) (by decide)) q89a q89c (g := (mkF m 271 #[.val (.int p0), .val (.int p1), .val (.int p2), .val (.int p3), .val (.int p4), .val (.int v1), .val (.int v2), .val (.int v3), .val (.int u1), .val (.int u2), .val (.int u3), .val (.int p3), .val (.int g2), .val (.ref b1), .val (.ref b38), .val (.int kk), .val (.ref b38), .val (.int (0 : Int32))] [(.ref b38), (.ref b1)])) rfl (by rw [hml]; rfl) (Steps.refl _) (argsL := [(.ref b38)]) (rest := []) (lenOf pd_5 rfl) rfl (by show 2 * 0 + _ ≤ _; exact Nat.le_of_eq rfl) (hb hby at_271) (fun _ _ => ⟨rfl, rfl, (by decide : 14 + 0 ≤ _), (by decide : 38 + 0 ≤ _)⟩)
                dsimp only [Pt.U, Pt.locs, Pt.cells, Pt.slots] at X89 l89 y89 z89 st89 hQ89
                subst y89 z89
                obtain ⟨rfl, N89q, e89⟩ := hQ89
                have N89 : Fr n0 L89 := by rw [l89]; exact Fr.app N72 N89q
                refine gs (fun t k => st89.trans k) ?_
                show G (T89.setTop (mkF m 274 #[.val (.int p0), .val (.int p1), .val (.int p2), .val (.int p3), .val (.int p4), .val (.int v1), .val (.int v2), .val (.int v3), .val (.int u1), .val (.int u2), .val (.int u3), .val (.int p3), .val (.int g2), .val (.ref b1), .val (.ref b38), .val (.int kk), .val (.ref b38), .val (.int (0 : Int32))] [(.int (own_jeq (own_b v1) (own_b v2) (own_b v3) p3 (own_b u1) (own_b u2) (own_b u3) g2))]))
                refine gs (fun t k => XS.iload X89.here hx rfl (hb hby at_274) rfl k) ?_
                show G (T89.setTop (mkF m 276 #[.val (.int p0), .val (.int p1), .val (.int p2), .val (.int p3), .val (.int p4), .val (.int v1), .val (.int v2), .val (.int v3), .val (.int u1), .val (.int u2), .val (.int u3), .val (.int p3), .val (.int g2), .val (.ref b1), .val (.ref b38), .val (.int kk), .val (.ref b38), .val (.int (0 : Int32))] [(.int (0 : Int32)), (.int (own_jeq (own_b v1) (own_b v2) (own_b v3) p3 (own_b u1) (own_b u2) (own_b u3) g2))]))
                refine gs (fun t k => XS.icmpNo X89.here hx rfl (hb hby at_276) rfl (teq (by simp [own_jeq, own_b_inj r1 t1, own_b_inj r2 t2, own_b_inj r3 t3, hc192])).2 k) ?_
                show G (T89.setTop (mkF m 279 #[.val (.int p0), .val (.int p1), .val (.int p2), .val (.int p3), .val (.int p4), .val (.int v1), .val (.int v2), .val (.int v3), .val (.int u1), .val (.int u2), .val (.int u3), .val (.int p3), .val (.int g2), .val (.ref b1), .val (.ref b38), .val (.int kk), .val (.ref b38), .val (.int (0 : Int32))] []))
                refine gs (fun t k => XS.iconst X89.here hx rfl (hb hby at_279) k) ?_
                show G (T89.setTop (mkF m 280 #[.val (.int p0), .val (.int p1), .val (.int p2), .val (.int p3), .val (.int p4), .val (.int v1), .val (.int v2), .val (.int v3), .val (.int u1), .val (.int u2), .val (.int u3), .val (.int p3), .val (.int g2), .val (.ref b1), .val (.ref b38), .val (.int kk), .val (.ref b38), .val (.int (0 : Int32))] [(.int (1 : Int32))]))
                refine gs (fun t k => XS.goto X89.here hx rfl (pc0 := 280) (pc' := 284) rfl (hb hby at_280) (by decide) (by decide) k) ?_
                show G (T89.setTop (mkF m 284 #[.val (.int p0), .val (.int p1), .val (.int p2), .val (.int p3), .val (.int p4), .val (.int v1), .val (.int v2), .val (.int v3), .val (.int u1), .val (.int u2), .val (.int u3), .val (.int p3), .val (.int g2), .val (.ref b1), .val (.ref b38), .val (.int kk), .val (.ref b38), .val (.int (0 : Int32))] [(.int (1 : Int32))]))
                obtain ⟨fs, hr, hrun, hended, hW, hsame⟩ := X89.leave (v := some (.int (1 : Int32))) (fun h => by rw [Bd.returns] at h; cases h)
                refine gl _ ⟨_, _, retN X89 hx (t := .boolean) Bd.returns (by simp) (hb hby at_284) hr, hrun, hended, _, _, rfl, ?_, ⟨_, rfl⟩, hW, hsame.mono (by decide) (by decide)⟩
                show Q0 h0 n0 _ T89.heap _
                rw [e89]
                exact ⟨rfl, N89⟩
            · refine gs (fun t k => XS.icmpYes X72.here hx rfl (pc0 := 181) (pc' := 226) rfl (hb hby at_181) rfl (feq hc181).2 (by decide) (by decide) k) ?_
              show G (T72.setTop (mkF m 226 #[.val (.int p0), .val (.int p1), .val (.int p2), .val (.int p3), .val (.int p4), .val (.int v1), .val (.int v2), .val (.int v3), .val (.int u1), .val (.int u2), .val (.int u3), .val (.int p3), .val (.int g2), .val (.ref b1), .val (.ref b38), .val (.int kk), .unset, .unset] []))
              refine gs (fun t k => XS.iload X72.here hx rfl (hb hby at_226) rfl k) ?_
              show G (T72.setTop (mkF m 228 #[.val (.int p0), .val (.int p1), .val (.int p2), .val (.int p3), .val (.int p4), .val (.int v1), .val (.int v2), .val (.int v3), .val (.int u1), .val (.int u2), .val (.int u3), .val (.int p3), .val (.int g2), .val (.ref b1), .val (.ref b38), .val (.int kk), .unset, .unset] [(.int kk)]))
              refine gs (fun t k => XS.iconst X72.here hx rfl (hb hby at_228) k) ?_
              show G (T72.setTop (mkF m 229 #[.val (.int p0), .val (.int p1), .val (.int p2), .val (.int p3), .val (.int p4), .val (.int v1), .val (.int v2), .val (.int v3), .val (.int u1), .val (.int u2), .val (.int u3), .val (.int p3), .val (.int g2), .val (.ref b1), .val (.ref b38), .val (.int kk), .unset, .unset] [(.int (4 : Int32)), (.int kk)]))
              by_cases hc229 : kk = (4 : Int32)
              · refine gs (fun t k => XS.icmpNo X72.here hx rfl (hb hby at_229) rfl (teq hc229).2 k) ?_
                show G (T72.setTop (mkF m 232 #[.val (.int p0), .val (.int p1), .val (.int p2), .val (.int p3), .val (.int p4), .val (.int v1), .val (.int v2), .val (.int v3), .val (.int u1), .val (.int u2), .val (.int u3), .val (.int p3), .val (.int g2), .val (.ref b1), .val (.ref b38), .val (.int kk), .unset, .unset] []))
                refine gs (fun t k => XS.aload X72.here hx rfl (hb hby at_232) rfl rfl k) ?_
                show G (T72.setTop (mkF m 234 #[.val (.int p0), .val (.int p1), .val (.int p2), .val (.int p3), .val (.int p4), .val (.int v1), .val (.int v2), .val (.int v3), .val (.int u1), .val (.int u2), .val (.int u3), .val (.int p3), .val (.int g2), .val (.ref b1), .val (.ref b38), .val (.int kk), .unset, .unset] [(.ref b1)]))
                refine gs (fun t k => XS.astore X72.here hx rfl (hb hby at_234) rfl rfl (l' := #[.val (.int p0), .val (.int p1), .val (.int p2), .val (.int p3), .val (.int p4), .val (.int v1), .val (.int v2), .val (.int v3), .val (.int u1), .val (.int u2), .val (.int u3), .val (.int p3), .val (.int g2), .val (.ref b1), .val (.ref b38), .val (.int kk), .val (.ref b1), .unset]) rfl k) ?_
                show G (T72.setTop (mkF m 236 #[.val (.int p0), .val (.int p1), .val (.int p2), .val (.int p3), .val (.int p4), .val (.int v1), .val (.int v2), .val (.int v3), .val (.int u1), .val (.int u2), .val (.int u3), .val (.int p3), .val (.int g2), .val (.ref b1), .val (.ref b38), .val (.int kk), .val (.ref b1), .unset] []))
                refine gs (fun t k => XS.iconst X72.here hx rfl (hb hby at_236) k) ?_
                show G (T72.setTop (mkF m 237 #[.val (.int p0), .val (.int p1), .val (.int p2), .val (.int p3), .val (.int p4), .val (.int v1), .val (.int v2), .val (.int v3), .val (.int u1), .val (.int u2), .val (.int u3), .val (.int p3), .val (.int g2), .val (.ref b1), .val (.ref b38), .val (.int kk), .val (.ref b1), .unset] [(.int (1 : Int32))]))
                refine gs (fun t k => XS.istore X72.here hx rfl (hb hby at_237) rfl (l' := #[.val (.int p0), .val (.int p1), .val (.int p2), .val (.int p3), .val (.int p4), .val (.int v1), .val (.int v2), .val (.int v3), .val (.int u1), .val (.int u2), .val (.int u3), .val (.int p3), .val (.int g2), .val (.ref b1), .val (.ref b38), .val (.int kk), .val (.ref b1), .val (.int (1 : Int32))]) rfl k) ?_
                show G (T72.setTop (mkF m 239 #[.val (.int p0), .val (.int p1), .val (.int p2), .val (.int p3), .val (.int p4), .val (.int v1), .val (.int v2), .val (.int v3), .val (.int u1), .val (.int u2), .val (.int u3), .val (.int p3), .val (.int g2), .val (.ref b1), .val (.ref b38), .val (.int kk), .val (.ref b1), .val (.int (1 : Int32))] []))
                refine gs (fun t k => XS.goto X72.here hx rfl (pc0 := 239) (pc' := 267) rfl (hb hby at_239) (by decide) (by decide) k) ?_
                show G (T72.setTop (mkF m 267 #[.val (.int p0), .val (.int p1), .val (.int p2), .val (.int p3), .val (.int p4), .val (.int v1), .val (.int v2), .val (.int v3), .val (.int u1), .val (.int u2), .val (.int u3), .val (.int p3), .val (.int g2), .val (.ref b1), .val (.ref b38), .val (.int kk), .val (.ref b1), .val (.int (1 : Int32))] []))
                refine gs (fun t k => XS.aload X72.here hx rfl (hb hby at_267) rfl rfl k) ?_
                show G (T72.setTop (mkF m 269 #[.val (.int p0), .val (.int p1), .val (.int p2), .val (.int p3), .val (.int p4), .val (.int v1), .val (.int v2), .val (.int v3), .val (.int u1), .val (.int u2), .val (.int u3), .val (.int p3), .val (.int g2), .val (.ref b1), .val (.ref b38), .val (.int kk), .val (.ref b1), .val (.int (1 : Int32))] [(.ref b1)]))
                refine gs (fun t k => XS.aload X72.here hx rfl (hb hby at_269) rfl rfl k) ?_
                show G (T72.setTop (mkF m 271 #[.val (.int p0), .val (.int p1), .val (.int p2), .val (.int p3), .val (.int p4), .val (.int v1), .val (.int v2), .val (.int v3), .val (.int u1), .val (.int u2), .val (.int u3), .val (.int p3), .val (.int g2), .val (.ref b1), .val (.ref b38), .val (.int kk), .val (.ref b1), .val (.int (1 : Int32))] [(.ref b1), (.ref b1)]))
                obtain ⟨_, _, _, EJ90, -⟩ := id JD31_q74
                obtain ⟨cq90, kq90, q90a, q90b, q90c⟩ := isOf hZ rfl EJ90
                obtain ⟨_, _, ⟨T90, L90, k90, n90⟩, -, X90, ⟨Lc90, hQ90, l90, y90, z90⟩, st90⟩ := X72.virtualBack hx (y := (⟨"com/example/consensus_to_coverage/consensustocoverage/trecfiles/Judgement", "equals", "(Ljava/lang/Object;)Z"⟩ : MethodName)) (z := (⟨"com/example/consensus_to_coverage/consensustocoverage/trecfiles/Judgement", "equals", "(Ljava/lang/Object;)Z"⟩ : MethodName)) hown (mvT hZ (hw _ (List.mem_of_getElem? (i := 46) rfl))) (mvT hZ (hw _ (List.mem_of_getElem? (i := 47) rfl))) (notFace_of_selects (args := #[]) (mvT hZ (hw _ (List.mem_of_getElem? (i := 49) rfl)))) (mvT hZ (hw _ (List.mem_of_getElem? (i := 49) rfl))) (mvT hZ (hw _ (List.mem_of_getElem? (i := 48) rfl))) (by decide) (backOf (W := 0) (rm8 l Z a0 hw [] b1 b1 (own_b v1) (own_b v2) (own_b v3) p3 (own_b v1) (own_b v2) (own_b v3) p3 cs T72.heap n0 (Nat.le_trans Z0 K79.1) SC_q73 hcs JD31_q74 JD31_q74) hZ (hw _ (List.mem_of_getElem? (i := 50) rfl)) (hw _ (List.mem_of_getElem? (i := 2) rfl)) (by decide) (by decide)) q90a q90c (g := (mkF m 271 #[.val (.int p0), .val (.int p1), .val (.int p2), .val (.int p3), .val (.int p4), .val (.int v1), .val (.int v2), .val (.int v3), .val (.int u1), .val (.int u2), .val (.int u3), .val (.int p3), .val (.int g2), .val (.ref b1), .val (.ref b38), .val (.int kk), .val (.ref b1), .val (.int (1 : Int32))] [(.ref b1), (.ref b1)])) rfl (by rw [hml]; rfl) (Steps.refl _) (argsL := [(.ref b1)]) (rest := []) (lenOf pd_5 rfl) rfl (by show 2 * 0 + _ ≤ _; exact Nat.le_of_eq rfl) (hb hby at_271) (fun _ _ => ⟨rfl, rfl, (by decide : 14 + 0 ≤ _), (by decide : 38 + 0 ≤ _)⟩)
                dsimp only [Pt.U, Pt.locs, Pt.cells, Pt.slots] at X90 l90 y90 z90 st90 hQ90
                subst y90 z90
                obtain ⟨rfl, N90q, e90⟩ := hQ90
                have N90 : Fr n0 L90 := by rw [l90]; exact Fr.app N72 N90q
                refine gs (fun t k => st90.trans k) ?_
                show G (T90.setTop (mkF m 274 #[.val (.int p0), .val (.int p1), .val (.int p2), .val (.int p3), .val (.int p4), .val (.int v1), .val (.int v2), .val (.int v3), .val (.int u1), .val (.int u2), .val (.int u3), .val (.int p3), .val (.int g2), .val (.ref b1), .val (.ref b38), .val (.int kk), .val (.ref b1), .val (.int (1 : Int32))] [(.int (own_jeq (own_b v1) (own_b v2) (own_b v3) p3 (own_b v1) (own_b v2) (own_b v3) p3))]))
                refine gs (fun t k => XS.iload X90.here hx rfl (hb hby at_274) rfl k) ?_
                show G (T90.setTop (mkF m 276 #[.val (.int p0), .val (.int p1), .val (.int p2), .val (.int p3), .val (.int p4), .val (.int v1), .val (.int v2), .val (.int v3), .val (.int u1), .val (.int u2), .val (.int u3), .val (.int p3), .val (.int g2), .val (.ref b1), .val (.ref b38), .val (.int kk), .val (.ref b1), .val (.int (1 : Int32))] [(.int (1 : Int32)), (.int (own_jeq (own_b v1) (own_b v2) (own_b v3) p3 (own_b v1) (own_b v2) (own_b v3) p3))]))
                refine gs (fun t k => XS.icmpNo X90.here hx rfl (hb hby at_276) rfl (teq (by simp [own_jeq, ])).2 k) ?_
                show G (T90.setTop (mkF m 279 #[.val (.int p0), .val (.int p1), .val (.int p2), .val (.int p3), .val (.int p4), .val (.int v1), .val (.int v2), .val (.int v3), .val (.int u1), .val (.int u2), .val (.int u3), .val (.int p3), .val (.int g2), .val (.ref b1), .val (.ref b38), .val (.int kk), .val (.ref b1), .val (.int (1 : Int32))] []))
                refine gs (fun t k => XS.iconst X90.here hx rfl (hb hby at_279) k) ?_
                show G (T90.setTop (mkF m 280 #[.val (.int p0), .val (.int p1), .val (.int p2), .val (.int p3), .val (.int p4), .val (.int v1), .val (.int v2), .val (.int v3), .val (.int u1), .val (.int u2), .val (.int u3), .val (.int p3), .val (.int g2), .val (.ref b1), .val (.ref b38), .val (.int kk), .val (.ref b1), .val (.int (1 : Int32))] [(.int (1 : Int32))]))
                refine gs (fun t k => XS.goto X90.here hx rfl (pc0 := 280) (pc' := 284) rfl (hb hby at_280) (by decide) (by decide) k) ?_
                show G (T90.setTop (mkF m 284 #[.val (.int p0), .val (.int p1), .val (.int p2), .val (.int p3), .val (.int p4), .val (.int v1), .val (.int v2), .val (.int v3), .val (.int u1), .val (.int u2), .val (.int u3), .val (.int p3), .val (.int g2), .val (.ref b1), .val (.ref b38), .val (.int kk), .val (.ref b1), .val (.int (1 : Int32))] [(.int (1 : Int32))]))
                obtain ⟨fs, hr, hrun, hended, hW, hsame⟩ := X90.leave (v := some (.int (1 : Int32))) (fun h => by rw [Bd.returns] at h; cases h)
                refine gl _ ⟨_, _, retN X90 hx (t := .boolean) Bd.returns (by simp) (hb hby at_284) hr, hrun, hended, _, _, rfl, ?_, ⟨_, rfl⟩, hW, hsame.mono (by decide) (by decide)⟩
                show Q0 h0 n0 _ T90.heap _
                rw [e90]
                exact ⟨rfl, N90⟩
              · refine gs (fun t k => XS.icmpYes X72.here hx rfl (pc0 := 229) (pc' := 242) rfl (hb hby at_229) rfl (feq hc229).2 (by decide) (by decide) k) ?_
                show G (T72.setTop (mkF m 242 #[.val (.int p0), .val (.int p1), .val (.int p2), .val (.int p3), .val (.int p4), .val (.int v1), .val (.int v2), .val (.int v3), .val (.int u1), .val (.int u2), .val (.int u3), .val (.int p3), .val (.int g2), .val (.ref b1), .val (.ref b38), .val (.int kk), .unset, .unset] []))
                refine gs (fun t k => XS.iload X72.here hx rfl (hb hby at_242) rfl k) ?_
                show G (T72.setTop (mkF m 244 #[.val (.int p0), .val (.int p1), .val (.int p2), .val (.int p3), .val (.int p4), .val (.int v1), .val (.int v2), .val (.int v3), .val (.int u1), .val (.int u2), .val (.int u3), .val (.int p3), .val (.int g2), .val (.ref b1), .val (.ref b38), .val (.int kk), .unset, .unset] [(.int kk)]))
                refine gs (fun t k => XS.iconst X72.here hx rfl (hb hby at_244) k) ?_
                show G (T72.setTop (mkF m 245 #[.val (.int p0), .val (.int p1), .val (.int p2), .val (.int p3), .val (.int p4), .val (.int v1), .val (.int v2), .val (.int v3), .val (.int u1), .val (.int u2), .val (.int u3), .val (.int p3), .val (.int g2), .val (.ref b1), .val (.ref b38), .val (.int kk), .unset, .unset] [(.int (5 : Int32)), (.int kk)]))
                by_cases hc245 : kk = (5 : Int32)
                · refine gs (fun t k => XS.icmpNo X72.here hx rfl (hb hby at_245) rfl (teq hc245).2 k) ?_
                  show G (T72.setTop (mkF m 248 #[.val (.int p0), .val (.int p1), .val (.int p2), .val (.int p3), .val (.int p4), .val (.int v1), .val (.int v2), .val (.int v3), .val (.int u1), .val (.int u2), .val (.int u3), .val (.int p3), .val (.int g2), .val (.ref b1), .val (.ref b38), .val (.int kk), .unset, .unset] []))
                  refine gs (fun t k => XS.aconstNull X72.here hx rfl (hb hby at_248) k) ?_
                  show G (T72.setTop (mkF m 249 #[.val (.int p0), .val (.int p1), .val (.int p2), .val (.int p3), .val (.int p4), .val (.int v1), .val (.int v2), .val (.int v3), .val (.int u1), .val (.int u2), .val (.int u3), .val (.int p3), .val (.int g2), .val (.ref b1), .val (.ref b38), .val (.int kk), .unset, .unset] [.null]))
                  refine gs (fun t k => XS.astore X72.here hx rfl (hb hby at_249) rfl rfl (l' := #[.val (.int p0), .val (.int p1), .val (.int p2), .val (.int p3), .val (.int p4), .val (.int v1), .val (.int v2), .val (.int v3), .val (.int u1), .val (.int u2), .val (.int u3), .val (.int p3), .val (.int g2), .val (.ref b1), .val (.ref b38), .val (.int kk), .val .null, .unset]) rfl k) ?_
                  show G (T72.setTop (mkF m 251 #[.val (.int p0), .val (.int p1), .val (.int p2), .val (.int p3), .val (.int p4), .val (.int v1), .val (.int v2), .val (.int v3), .val (.int u1), .val (.int u2), .val (.int u3), .val (.int p3), .val (.int g2), .val (.ref b1), .val (.ref b38), .val (.int kk), .val .null, .unset] []))
                  refine gs (fun t k => XS.iconst X72.here hx rfl (hb hby at_251) k) ?_
                  show G (T72.setTop (mkF m 252 #[.val (.int p0), .val (.int p1), .val (.int p2), .val (.int p3), .val (.int p4), .val (.int v1), .val (.int v2), .val (.int v3), .val (.int u1), .val (.int u2), .val (.int u3), .val (.int p3), .val (.int g2), .val (.ref b1), .val (.ref b38), .val (.int kk), .val .null, .unset] [(.int (0 : Int32))]))
                  refine gs (fun t k => XS.istore X72.here hx rfl (hb hby at_252) rfl (l' := #[.val (.int p0), .val (.int p1), .val (.int p2), .val (.int p3), .val (.int p4), .val (.int v1), .val (.int v2), .val (.int v3), .val (.int u1), .val (.int u2), .val (.int u3), .val (.int p3), .val (.int g2), .val (.ref b1), .val (.ref b38), .val (.int kk), .val .null, .val (.int (0 : Int32))]) rfl k) ?_
                  show G (T72.setTop (mkF m 254 #[.val (.int p0), .val (.int p1), .val (.int p2), .val (.int p3), .val (.int p4), .val (.int v1), .val (.int v2), .val (.int v3), .val (.int u1), .val (.int u2), .val (.int u3), .val (.int p3), .val (.int g2), .val (.ref b1), .val (.ref b38), .val (.int kk), .val .null, .val (.int (0 : Int32))] []))
                  refine gs (fun t k => XS.goto X72.here hx rfl (pc0 := 254) (pc' := 267) rfl (hb hby at_254) (by decide) (by decide) k) ?_
                  show G (T72.setTop (mkF m 267 #[.val (.int p0), .val (.int p1), .val (.int p2), .val (.int p3), .val (.int p4), .val (.int v1), .val (.int v2), .val (.int v3), .val (.int u1), .val (.int u2), .val (.int u3), .val (.int p3), .val (.int g2), .val (.ref b1), .val (.ref b38), .val (.int kk), .val .null, .val (.int (0 : Int32))] []))
                  refine gs (fun t k => XS.aload X72.here hx rfl (hb hby at_267) rfl rfl k) ?_
                  show G (T72.setTop (mkF m 269 #[.val (.int p0), .val (.int p1), .val (.int p2), .val (.int p3), .val (.int p4), .val (.int v1), .val (.int v2), .val (.int v3), .val (.int u1), .val (.int u2), .val (.int u3), .val (.int p3), .val (.int g2), .val (.ref b1), .val (.ref b38), .val (.int kk), .val .null, .val (.int (0 : Int32))] [(.ref b1)]))
                  refine gs (fun t k => XS.aload X72.here hx rfl (hb hby at_269) rfl rfl k) ?_
                  show G (T72.setTop (mkF m 271 #[.val (.int p0), .val (.int p1), .val (.int p2), .val (.int p3), .val (.int p4), .val (.int v1), .val (.int v2), .val (.int v3), .val (.int u1), .val (.int u2), .val (.int u3), .val (.int p3), .val (.int g2), .val (.ref b1), .val (.ref b38), .val (.int kk), .val .null, .val (.int (0 : Int32))] [.null, (.ref b1)]))
                  obtain ⟨_, _, _, EJ91, -⟩ := id JD31_q74
                  obtain ⟨cq91, kq91, q91a, q91b, q91c⟩ := isOf hZ rfl EJ91
                  obtain ⟨_, _, ⟨T91, L91, k91, n91⟩, -, X91, ⟨Lc91, hQ91, l91, y91, z91⟩, st91⟩ := X72.virtualBack hx (y := (⟨"com/example/consensus_to_coverage/consensustocoverage/trecfiles/Judgement", "equals", "(Ljava/lang/Object;)Z"⟩ : MethodName)) (z := (⟨"com/example/consensus_to_coverage/consensustocoverage/trecfiles/Judgement", "equals", "(Ljava/lang/Object;)Z"⟩ : MethodName)) hown (mvT hZ (hw _ (List.mem_of_getElem? (i := 46) rfl))) (mvT hZ (hw _ (List.mem_of_getElem? (i := 47) rfl))) (notFace_of_selects (args := #[]) (mvT hZ (hw _ (List.mem_of_getElem? (i := 49) rfl)))) (mvT hZ (hw _ (List.mem_of_getElem? (i := 49) rfl))) (mvT hZ (hw _ (List.mem_of_getElem? (i := 48) rfl))) (by decide) (backOf (W := 0) (rm8n l Z a0 hw [] b1 T72.heap n0 (Nat.le_trans Z0 K79.1)) hZ (hw _ (List.mem_of_getElem? (i := 50) rfl)) (hw _ (List.mem_of_getElem? (i := 2) rfl)) (by decide) (by decide)) q91a q91c (g := (mkF m 271 #[.val (.int p0), .val (.int p1), .val (.int p2), .val (.int p3), .val (.int p4), .val (.int v1), .val (.int v2), .val (.int v3), .val (.int u1), .val (.int u2), .val (.int u3), .val (.int p3), .val (.int g2), .val (.ref b1), .val (.ref b38), .val (.int kk), .val .null, .val (.int (0 : Int32))] [.null, (.ref b1)])) rfl (by rw [hml]; rfl) (Steps.refl _) (argsL := [.null]) (rest := []) (lenOf pd_5 rfl) rfl (by show 2 * 0 + _ ≤ _; exact Nat.le_of_eq rfl) (hb hby at_271) (fun _ _ => ⟨rfl, rfl, (by decide : 14 + 0 ≤ _), (by decide : 38 + 0 ≤ _)⟩)
                  dsimp only [Pt.U, Pt.locs, Pt.cells, Pt.slots] at X91 l91 y91 z91 st91 hQ91
                  subst y91 z91
                  obtain ⟨rfl, N91q, e91⟩ := hQ91
                  have N91 : Fr n0 L91 := by rw [l91]; exact Fr.app N72 N91q
                  refine gs (fun t k => st91.trans k) ?_
                  show G (T91.setTop (mkF m 274 #[.val (.int p0), .val (.int p1), .val (.int p2), .val (.int p3), .val (.int p4), .val (.int v1), .val (.int v2), .val (.int v3), .val (.int u1), .val (.int u2), .val (.int u3), .val (.int p3), .val (.int g2), .val (.ref b1), .val (.ref b38), .val (.int kk), .val .null, .val (.int (0 : Int32))] [(.int (0 : Int32))]))
                  refine gs (fun t k => XS.iload X91.here hx rfl (hb hby at_274) rfl k) ?_
                  show G (T91.setTop (mkF m 276 #[.val (.int p0), .val (.int p1), .val (.int p2), .val (.int p3), .val (.int p4), .val (.int v1), .val (.int v2), .val (.int v3), .val (.int u1), .val (.int u2), .val (.int u3), .val (.int p3), .val (.int g2), .val (.ref b1), .val (.ref b38), .val (.int kk), .val .null, .val (.int (0 : Int32))] [(.int (0 : Int32)), (.int (0 : Int32))]))
                  refine gs (fun t k => XS.icmpNo X91.here hx rfl (hb hby at_276) rfl (teq (by decide : (0 : Int32) = (0 : Int32))).2 k) ?_
                  show G (T91.setTop (mkF m 279 #[.val (.int p0), .val (.int p1), .val (.int p2), .val (.int p3), .val (.int p4), .val (.int v1), .val (.int v2), .val (.int v3), .val (.int u1), .val (.int u2), .val (.int u3), .val (.int p3), .val (.int g2), .val (.ref b1), .val (.ref b38), .val (.int kk), .val .null, .val (.int (0 : Int32))] []))
                  refine gs (fun t k => XS.iconst X91.here hx rfl (hb hby at_279) k) ?_
                  show G (T91.setTop (mkF m 280 #[.val (.int p0), .val (.int p1), .val (.int p2), .val (.int p3), .val (.int p4), .val (.int v1), .val (.int v2), .val (.int v3), .val (.int u1), .val (.int u2), .val (.int u3), .val (.int p3), .val (.int g2), .val (.ref b1), .val (.ref b38), .val (.int kk), .val .null, .val (.int (0 : Int32))] [(.int (1 : Int32))]))
                  refine gs (fun t k => XS.goto X91.here hx rfl (pc0 := 280) (pc' := 284) rfl (hb hby at_280) (by decide) (by decide) k) ?_
                  show G (T91.setTop (mkF m 284 #[.val (.int p0), .val (.int p1), .val (.int p2), .val (.int p3), .val (.int p4), .val (.int v1), .val (.int v2), .val (.int v3), .val (.int u1), .val (.int u2), .val (.int u3), .val (.int p3), .val (.int g2), .val (.ref b1), .val (.ref b38), .val (.int kk), .val .null, .val (.int (0 : Int32))] [(.int (1 : Int32))]))
                  obtain ⟨fs, hr, hrun, hended, hW, hsame⟩ := X91.leave (v := some (.int (1 : Int32))) (fun h => by rw [Bd.returns] at h; cases h)
                  refine gl _ ⟨_, _, retN X91 hx (t := .boolean) Bd.returns (by simp) (hb hby at_284) hr, hrun, hended, _, _, rfl, ?_, ⟨_, rfl⟩, hW, hsame.mono (by decide) (by decide)⟩
                  show Q0 h0 n0 _ T91.heap _
                  rw [e91]
                  exact ⟨rfl, N91⟩
                · refine gs (fun t k => XS.icmpYes X72.here hx rfl (pc0 := 245) (pc' := 257) rfl (hb hby at_245) rfl (feq hc245).2 (by decide) (by decide) k) ?_
                  show G (T72.setTop (mkF m 257 #[.val (.int p0), .val (.int p1), .val (.int p2), .val (.int p3), .val (.int p4), .val (.int v1), .val (.int v2), .val (.int v3), .val (.int u1), .val (.int u2), .val (.int u3), .val (.int p3), .val (.int g2), .val (.ref b1), .val (.ref b38), .val (.int kk), .unset, .unset] []))
                  refine gs (fun t k => XS.iload X72.here hx rfl (hb hby at_257) rfl k) ?_
                  show G (T72.setTop (mkF m 259 #[.val (.int p0), .val (.int p1), .val (.int p2), .val (.int p3), .val (.int p4), .val (.int v1), .val (.int v2), .val (.int v3), .val (.int u1), .val (.int u2), .val (.int u3), .val (.int p3), .val (.int g2), .val (.ref b1), .val (.ref b38), .val (.int kk), .unset, .unset] [(.int v1)]))
                  obtain ⟨_, _, ⟨T92, L92, k92, n92⟩, -, X92, ⟨Lc92, hQ92, l92, y92, z92⟩, st92⟩ := Jvm.LawKit.callS X72 hx (y := (⟨"java/lang/String", "valueOf", "(C)Ljava/lang/String;"⟩ : MethodName)) hown (mvT hZ (hw _ (List.mem_of_getElem? (i := 3) rfl))) (mvT hZ (hw _ (List.mem_of_getElem? (i := 4) rfl))) (mvT hZ (hw _ (List.mem_of_getElem? (i := 5) rfl))) (mvT hZ (hw _ (List.mem_of_getElem? (i := 6) rfl))) (by decide) (backOf (W := 0) (rm1 l Z a0 hw [] v1 cs T72.heap n0 (Nat.le_trans Z0 K79.1) SC_q73 hcs (own_n255 r1)) hZ (hw _ (List.mem_of_getElem? (i := 6) rfl)) (hw _ (List.mem_of_getElem? (i := 5) rfl)) (by decide) (by decide)) (g := (mkF m 259 #[.val (.int p0), .val (.int p1), .val (.int p2), .val (.int p3), .val (.int p4), .val (.int v1), .val (.int v2), .val (.int v3), .val (.int u1), .val (.int u2), .val (.int u3), .val (.int p3), .val (.int g2), .val (.ref b1), .val (.ref b38), .val (.int kk), .unset, .unset] [(.int v1)])) rfl (by rw [hml]; rfl) (argsL := [(.int v1)]) (rest := []) (lenOf pd_6 rfl) rfl (by show 2 * 0 + _ ≤ _; exact Nat.le_of_eq rfl) (hb hby at_259) (fun _ _ => ⟨rfl, rfl, (by decide : 14 + 2 ≤ _), (by decide : 38 + 5 ≤ _)⟩)
                  dsimp only [Pt.U, Pt.locs, Pt.cells, Pt.slots] at X92 l92 y92 z92 st92 hQ92
                  subst y92 z92
                  obtain ⟨sb92, rfl, N92q, Kc92, US92⟩ := hQ92
                  have N92 : Fr n0 L92 := by rw [l92]; exact Fr.app N72 N92q
                  refine gs (fun t k => st92 _ k) ?_
                  have SC_q93 := own_sta_keep SC_q73 Kc92
                  have JD31_q94 := own_jud_keep JD31_q74 Kc92
                  have JD72_q95 := own_jud_keep JD72 Kc92
                  have K96 := K79.trans Kc92 all0
                  show G (T92.setTop (mkF m 262 #[.val (.int p0), .val (.int p1), .val (.int p2), .val (.int p3), .val (.int p4), .val (.int v1), .val (.int v2), .val (.int v3), .val (.int u1), .val (.int u2), .val (.int u3), .val (.int p3), .val (.int g2), .val (.ref b1), .val (.ref b38), .val (.int kk), .unset, .unset] [(.ref sb92)]))
                  refine gs (fun t k => XS.astore X92.here hx rfl (hb hby at_262) rfl rfl (l' := #[.val (.int p0), .val (.int p1), .val (.int p2), .val (.int p3), .val (.int p4), .val (.int v1), .val (.int v2), .val (.int v3), .val (.int u1), .val (.int u2), .val (.int u3), .val (.int p3), .val (.int g2), .val (.ref b1), .val (.ref b38), .val (.int kk), .val (.ref sb92), .unset]) rfl k) ?_
                  show G (T92.setTop (mkF m 264 #[.val (.int p0), .val (.int p1), .val (.int p2), .val (.int p3), .val (.int p4), .val (.int v1), .val (.int v2), .val (.int v3), .val (.int u1), .val (.int u2), .val (.int u3), .val (.int p3), .val (.int g2), .val (.ref b1), .val (.ref b38), .val (.int kk), .val (.ref sb92), .unset] []))
                  refine gs (fun t k => XS.iconst X92.here hx rfl (hb hby at_264) k) ?_
                  show G (T92.setTop (mkF m 265 #[.val (.int p0), .val (.int p1), .val (.int p2), .val (.int p3), .val (.int p4), .val (.int v1), .val (.int v2), .val (.int v3), .val (.int u1), .val (.int u2), .val (.int u3), .val (.int p3), .val (.int g2), .val (.ref b1), .val (.ref b38), .val (.int kk), .val (.ref sb92), .unset] [(.int (0 : Int32))]))
                  refine gs (fun t k => XS.istore X92.here hx rfl (hb hby at_265) rfl (l' := #[.val (.int p0), .val (.int p1), .val (.int p2), .val (.int p3), .val (.int p4), .val (.int v1), .val (.int v2), .val (.int v3), .val (.int u1), .val (.int u2), .val (.int u3), .val (.int p3), .val (.int g2), .val (.ref b1), .val (.ref b38), .val (.int kk), .val (.ref sb92), .val (.int (0 : Int32))]) rfl k) ?_
                  show G (T92.setTop (mkF m 267 #[.val (.int p0), .val (.int p1), .val (.int p2), .val (.int p3), .val (.int p4), .val (.int v1), .val (.int v2), .val (.int v3), .val (.int u1), .val (.int u2), .val (.int u3), .val (.int p3), .val (.int g2), .val (.ref b1), .val (.ref b38), .val (.int kk), .val (.ref sb92), .val (.int (0 : Int32))] []))
                  refine gs (fun t k => XS.aload X92.here hx rfl (hb hby at_267) rfl rfl k) ?_
                  show G (T92.setTop (mkF m 269 #[.val (.int p0), .val (.int p1), .val (.int p2), .val (.int p3), .val (.int p4), .val (.int v1), .val (.int v2), .val (.int v3), .val (.int u1), .val (.int u2), .val (.int u3), .val (.int p3), .val (.int g2), .val (.ref b1), .val (.ref b38), .val (.int kk), .val (.ref sb92), .val (.int (0 : Int32))] [(.ref b1)]))
                  refine gs (fun t k => XS.aload X92.here hx rfl (hb hby at_269) rfl rfl k) ?_
                  show G (T92.setTop (mkF m 271 #[.val (.int p0), .val (.int p1), .val (.int p2), .val (.int p3), .val (.int p4), .val (.int v1), .val (.int v2), .val (.int v3), .val (.int u1), .val (.int u2), .val (.int u3), .val (.int p3), .val (.int g2), .val (.ref b1), .val (.ref b38), .val (.int kk), .val (.ref sb92), .val (.int (0 : Int32))] [(.ref sb92), (.ref b1)]))
                  obtain ⟨_, _, _, EJ97, -⟩ := id JD31_q94
                  obtain ⟨_, _, ES97, -⟩ := id US92
                  obtain ⟨cq97, kq97, q97a, q97b, q97c⟩ := isOf hZ rfl EJ97
                  obtain ⟨_, _, ⟨T97, L97, k97, n97⟩, -, X97, ⟨Lc97, hQ97, l97, y97, z97⟩, st97⟩ := X92.virtualBack hx (y := (⟨"com/example/consensus_to_coverage/consensustocoverage/trecfiles/Judgement", "equals", "(Ljava/lang/Object;)Z"⟩ : MethodName)) (z := (⟨"com/example/consensus_to_coverage/consensustocoverage/trecfiles/Judgement", "equals", "(Ljava/lang/Object;)Z"⟩ : MethodName)) hown (mvT hZ (hw _ (List.mem_of_getElem? (i := 46) rfl))) (mvT hZ (hw _ (List.mem_of_getElem? (i := 47) rfl))) (notFace_of_selects (args := #[]) (mvT hZ (hw _ (List.mem_of_getElem? (i := 49) rfl)))) (mvT hZ (hw _ (List.mem_of_getElem? (i := 49) rfl))) (mvT hZ (hw _ (List.mem_of_getElem? (i := 48) rfl))) (by decide) (backOf (W := 0) (rm8s l Z a0 hw [] b1 sb92 T92.heap n0 (Nat.le_trans Z0 K96.1) ES97) hZ (hw _ (List.mem_of_getElem? (i := 50) rfl)) (hw _ (List.mem_of_getElem? (i := 2) rfl)) (by decide) (by decide)) q97a q97c (g := (mkF m 271 #[.val (.int p0), .val (.int p1), .val (.int p2), .val (.int p3), .val (.int p4), .val (.int v1), .val (.int v2), .val (.int v3), .val (.int u1), .val (.int u2), .val (.int u3), .val (.int p3), .val (.int g2), .val (.ref b1), .val (.ref b38), .val (.int kk), .val (.ref sb92), .val (.int (0 : Int32))] [(.ref sb92), (.ref b1)])) rfl (by rw [hml]; rfl) (Steps.refl _) (argsL := [(.ref sb92)]) (rest := []) (lenOf pd_5 rfl) rfl (by show 2 * 0 + _ ≤ _; exact Nat.le_of_eq rfl) (hb hby at_271) (fun _ _ => ⟨rfl, rfl, (by decide : 16 + 0 ≤ _), (by decide : 43 + 0 ≤ _)⟩)
                  dsimp only [Pt.U, Pt.locs, Pt.cells, Pt.slots] at X97 l97 y97 z97 st97 hQ97
                  subst y97 z97
                  obtain ⟨rfl, N97q, e97⟩ := hQ97
                  have N97 : Fr n0 L97 := by rw [l97]; exact Fr.app N92 N97q
                  refine gs (fun t k => st97.trans k) ?_
                  show G (T97.setTop (mkF m 274 #[.val (.int p0), .val (.int p1), .val (.int p2), .val (.int p3), .val (.int p4), .val (.int v1), .val (.int v2), .val (.int v3), .val (.int u1), .val (.int u2), .val (.int u3), .val (.int p3), .val (.int g2), .val (.ref b1), .val (.ref b38), .val (.int kk), .val (.ref sb92), .val (.int (0 : Int32))] [(.int (0 : Int32))]))
                  refine gs (fun t k => XS.iload X97.here hx rfl (hb hby at_274) rfl k) ?_
                  show G (T97.setTop (mkF m 276 #[.val (.int p0), .val (.int p1), .val (.int p2), .val (.int p3), .val (.int p4), .val (.int v1), .val (.int v2), .val (.int v3), .val (.int u1), .val (.int u2), .val (.int u3), .val (.int p3), .val (.int g2), .val (.ref b1), .val (.ref b38), .val (.int kk), .val (.ref sb92), .val (.int (0 : Int32))] [(.int (0 : Int32)), (.int (0 : Int32))]))
                  refine gs (fun t k => XS.icmpNo X97.here hx rfl (hb hby at_276) rfl (teq (by decide : (0 : Int32) = (0 : Int32))).2 k) ?_
                  show G (T97.setTop (mkF m 279 #[.val (.int p0), .val (.int p1), .val (.int p2), .val (.int p3), .val (.int p4), .val (.int v1), .val (.int v2), .val (.int v3), .val (.int u1), .val (.int u2), .val (.int u3), .val (.int p3), .val (.int g2), .val (.ref b1), .val (.ref b38), .val (.int kk), .val (.ref sb92), .val (.int (0 : Int32))] []))
                  refine gs (fun t k => XS.iconst X97.here hx rfl (hb hby at_279) k) ?_
                  show G (T97.setTop (mkF m 280 #[.val (.int p0), .val (.int p1), .val (.int p2), .val (.int p3), .val (.int p4), .val (.int v1), .val (.int v2), .val (.int v3), .val (.int u1), .val (.int u2), .val (.int u3), .val (.int p3), .val (.int g2), .val (.ref b1), .val (.ref b38), .val (.int kk), .val (.ref sb92), .val (.int (0 : Int32))] [(.int (1 : Int32))]))
                  refine gs (fun t k => XS.goto X97.here hx rfl (pc0 := 280) (pc' := 284) rfl (hb hby at_280) (by decide) (by decide) k) ?_
                  show G (T97.setTop (mkF m 284 #[.val (.int p0), .val (.int p1), .val (.int p2), .val (.int p3), .val (.int p4), .val (.int v1), .val (.int v2), .val (.int v3), .val (.int u1), .val (.int u2), .val (.int u3), .val (.int p3), .val (.int g2), .val (.ref b1), .val (.ref b38), .val (.int kk), .val (.ref sb92), .val (.int (0 : Int32))] [(.int (1 : Int32))]))
                  obtain ⟨fs, hr, hrun, hended, hW, hsame⟩ := X97.leave (v := some (.int (1 : Int32))) (fun h => by rw [Bd.returns] at h; cases h)
                  refine gl _ ⟨_, _, retN X97 hx (t := .boolean) Bd.returns (by simp) (hb hby at_284) hr, hrun, hended, _, _, rfl, ?_, ⟨_, rfl⟩, hW, hsame.mono (by decide) (by decide)⟩
                  show Q0 h0 n0 _ T97.heap _
                  rw [e97]
                  exact ⟨rfl, N97⟩
        by_cases hc100 : (p2 &&& (8 : Int32)) = (0 : Int32)
        · refine gs (fun t k => XS.ifYes X0.here hx rfl (pc0 := 100) (pc' := 107) rfl (hb hby at_100) rfl ((if0 _ _).trans (teq hc100).1) (by decide) (by decide) k) ?_
          show G (s₁.setTop (mkF m 107 #[.val (.int p0), .val (.int p1), .val (.int p2), .val (.int p3), .val (.int p4), .val (.int v1), .val (.int v2), .val (.int v3), .val (.int u1), .val (.int u2), .val (.int u3), .val (.int p3), .unset, .unset, .unset, .unset, .unset, .unset] []))
          refine gs (fun t k => XS.iload X0.here hx rfl (hb hby at_107) rfl k) ?_
          show G (s₁.setTop (mkF m 109 #[.val (.int p0), .val (.int p1), .val (.int p2), .val (.int p3), .val (.int p4), .val (.int v1), .val (.int v2), .val (.int v3), .val (.int u1), .val (.int u2), .val (.int u3), .val (.int p3), .unset, .unset, .unset, .unset, .unset, .unset] [(.int p4)]))
          exact J100 _ (if_pos hc100).symm
        · refine gs (fun t k => XS.ifNo X0.here hx rfl (hb hby at_100) rfl ((if0 _ _).trans (feq hc100).1) k) ?_
          show G (s₁.setTop (mkF m 103 #[.val (.int p0), .val (.int p1), .val (.int p2), .val (.int p3), .val (.int p4), .val (.int v1), .val (.int v2), .val (.int v3), .val (.int u1), .val (.int u2), .val (.int u3), .val (.int p3), .unset, .unset, .unset, .unset, .unset, .unset] []))
          refine gs (fun t k => XS.iloadN X0.here hx rfl (hb hby at_103) rfl k) ?_
          show G (s₁.setTop (mkF m 104 #[.val (.int p0), .val (.int p1), .val (.int p2), .val (.int p3), .val (.int p4), .val (.int v1), .val (.int v2), .val (.int v3), .val (.int u1), .val (.int u2), .val (.int u3), .val (.int p3), .unset, .unset, .unset, .unset, .unset, .unset] [(.int p3)]))
          refine gs (fun t k => XS.goto X0.here hx rfl (pc0 := 104) (pc' := 109) rfl (hb hby at_104) (by decide) (by decide) k) ?_
          show G (s₁.setTop (mkF m 109 #[.val (.int p0), .val (.int p1), .val (.int p2), .val (.int p3), .val (.int p4), .val (.int v1), .val (.int v2), .val (.int v3), .val (.int u1), .val (.int u2), .val (.int u3), .val (.int p3), .unset, .unset, .unset, .unset, .unset, .unset] [(.int p3)]))
          exact J100 _ (if_neg hc100).symm
      by_cases hc74 : (p2 &&& (4 : Int32)) = (0 : Int32)
      · refine gs (fun t k => XS.ifYes X0.here hx rfl (pc0 := 74) (pc' := 82) rfl (hb hby at_74) rfl ((if0 _ _).trans (teq hc74).1) (by decide) (by decide) k) ?_
        show G (s₁.setTop (mkF m 82 #[.val (.int p0), .val (.int p1), .val (.int p2), .val (.int p3), .val (.int p4), .val (.int v1), .val (.int v2), .val (.int v3), .val (.int u1), .val (.int u2), .unset, .unset, .unset, .unset, .unset, .unset, .unset, .unset] []))
        refine gs (fun t k => XS.iloadN X0.here hx rfl (hb hby at_82) rfl k) ?_
        show G (s₁.setTop (mkF m 83 #[.val (.int p0), .val (.int p1), .val (.int p2), .val (.int p3), .val (.int p4), .val (.int v1), .val (.int v2), .val (.int v3), .val (.int u1), .val (.int u2), .unset, .unset, .unset, .unset, .unset, .unset, .unset, .unset] [(.int p1)]))
        refine gs (fun t k => XS.bipush X0.here hx rfl (hb hby at_83) k) ?_
        show G (s₁.setTop (mkF m 85 #[.val (.int p0), .val (.int p1), .val (.int p2), .val (.int p3), .val (.int p4), .val (.int v1), .val (.int v2), .val (.int v3), .val (.int u1), .val (.int u2), .unset, .unset, .unset, .unset, .unset, .unset, .unset, .unset] [(.int (16 : Int32)), (.int p1)]))
        refine gs (fun t k => XS.iushr X0.here hx rfl (hb hby at_85) rfl k) ?_
        show G (s₁.setTop (mkF m 86 #[.val (.int p0), .val (.int p1), .val (.int p2), .val (.int p3), .val (.int p4), .val (.int v1), .val (.int v2), .val (.int v3), .val (.int u1), .val (.int u2), .unset, .unset, .unset, .unset, .unset, .unset, .unset, .unset] [(.int ((p1.toUInt32 >>> ((16 : Int32) &&& 31).toUInt32).toInt32))]))
        refine gs (fun t k => XS.sipush X0.here hx rfl (hb hby at_86) k) ?_
        show G (s₁.setTop (mkF m 89 #[.val (.int p0), .val (.int p1), .val (.int p2), .val (.int p3), .val (.int p4), .val (.int v1), .val (.int v2), .val (.int v3), .val (.int u1), .val (.int u2), .unset, .unset, .unset, .unset, .unset, .unset, .unset, .unset] [(.int (255 : Int32)), (.int ((p1.toUInt32 >>> ((16 : Int32) &&& 31).toUInt32).toInt32))]))
        refine gs (fun t k => XS.iand X0.here hx rfl (hb hby at_89) rfl k) ?_
        show G (s₁.setTop (mkF m 90 #[.val (.int p0), .val (.int p1), .val (.int p2), .val (.int p3), .val (.int p4), .val (.int v1), .val (.int v2), .val (.int v3), .val (.int u1), .val (.int u2), .unset, .unset, .unset, .unset, .unset, .unset, .unset, .unset] [(.int (((p1.toUInt32 >>> ((16 : Int32) &&& 31).toUInt32).toInt32) &&& (255 : Int32)))]))
        refine gs (fun t k => XS.i2c X0.here hx rfl (hb hby at_90) rfl k) ?_
        show G (s₁.setTop (mkF m 91 #[.val (.int p0), .val (.int p1), .val (.int p2), .val (.int p3), .val (.int p4), .val (.int v1), .val (.int v2), .val (.int v3), .val (.int u1), .val (.int u2), .unset, .unset, .unset, .unset, .unset, .unset, .unset, .unset] [(.int ((((p1.toUInt32 >>> ((16 : Int32) &&& 31).toUInt32).toInt32) &&& (255 : Int32)).toUInt32.toUInt16.toUInt32.toInt32))]))
        exact J74 _ (if_pos hc74).symm
      · refine gs (fun t k => XS.ifNo X0.here hx rfl (hb hby at_74) rfl ((if0 _ _).trans (feq hc74).1) k) ?_
        show G (s₁.setTop (mkF m 77 #[.val (.int p0), .val (.int p1), .val (.int p2), .val (.int p3), .val (.int p4), .val (.int v1), .val (.int v2), .val (.int v3), .val (.int u1), .val (.int u2), .unset, .unset, .unset, .unset, .unset, .unset, .unset, .unset] []))
        refine gs (fun t k => XS.iload X0.here hx rfl (hb hby at_77) rfl k) ?_
        show G (s₁.setTop (mkF m 79 #[.val (.int p0), .val (.int p1), .val (.int p2), .val (.int p3), .val (.int p4), .val (.int v1), .val (.int v2), .val (.int v3), .val (.int u1), .val (.int u2), .unset, .unset, .unset, .unset, .unset, .unset, .unset, .unset] [(.int v3)]))
        refine gs (fun t k => XS.goto X0.here hx rfl (pc0 := 79) (pc' := 91) rfl (hb hby at_79) (by decide) (by decide) k) ?_
        show G (s₁.setTop (mkF m 91 #[.val (.int p0), .val (.int p1), .val (.int p2), .val (.int p3), .val (.int p4), .val (.int v1), .val (.int v2), .val (.int v3), .val (.int u1), .val (.int u2), .unset, .unset, .unset, .unset, .unset, .unset, .unset, .unset] [(.int v3)]))
        exact J74 _ (if_neg hc74).symm
    by_cases hc52 : (p2 &&& (2 : Int32)) = (0 : Int32)
    · refine gs (fun t k => XS.ifYes X0.here hx rfl (pc0 := 52) (pc' := 60) rfl (hb hby at_52) rfl ((if0 _ _).trans (teq hc52).1) (by decide) (by decide) k) ?_
      show G (s₁.setTop (mkF m 60 #[.val (.int p0), .val (.int p1), .val (.int p2), .val (.int p3), .val (.int p4), .val (.int v1), .val (.int v2), .val (.int v3), .val (.int u1), .unset, .unset, .unset, .unset, .unset, .unset, .unset, .unset, .unset] []))
      refine gs (fun t k => XS.iloadN X0.here hx rfl (hb hby at_60) rfl k) ?_
      show G (s₁.setTop (mkF m 61 #[.val (.int p0), .val (.int p1), .val (.int p2), .val (.int p3), .val (.int p4), .val (.int v1), .val (.int v2), .val (.int v3), .val (.int u1), .unset, .unset, .unset, .unset, .unset, .unset, .unset, .unset, .unset] [(.int p1)]))
      refine gs (fun t k => XS.bipush X0.here hx rfl (hb hby at_61) k) ?_
      show G (s₁.setTop (mkF m 63 #[.val (.int p0), .val (.int p1), .val (.int p2), .val (.int p3), .val (.int p4), .val (.int v1), .val (.int v2), .val (.int v3), .val (.int u1), .unset, .unset, .unset, .unset, .unset, .unset, .unset, .unset, .unset] [(.int (8 : Int32)), (.int p1)]))
      refine gs (fun t k => XS.iushr X0.here hx rfl (hb hby at_63) rfl k) ?_
      show G (s₁.setTop (mkF m 64 #[.val (.int p0), .val (.int p1), .val (.int p2), .val (.int p3), .val (.int p4), .val (.int v1), .val (.int v2), .val (.int v3), .val (.int u1), .unset, .unset, .unset, .unset, .unset, .unset, .unset, .unset, .unset] [(.int ((p1.toUInt32 >>> ((8 : Int32) &&& 31).toUInt32).toInt32))]))
      refine gs (fun t k => XS.sipush X0.here hx rfl (hb hby at_64) k) ?_
      show G (s₁.setTop (mkF m 67 #[.val (.int p0), .val (.int p1), .val (.int p2), .val (.int p3), .val (.int p4), .val (.int v1), .val (.int v2), .val (.int v3), .val (.int u1), .unset, .unset, .unset, .unset, .unset, .unset, .unset, .unset, .unset] [(.int (255 : Int32)), (.int ((p1.toUInt32 >>> ((8 : Int32) &&& 31).toUInt32).toInt32))]))
      refine gs (fun t k => XS.iand X0.here hx rfl (hb hby at_67) rfl k) ?_
      show G (s₁.setTop (mkF m 68 #[.val (.int p0), .val (.int p1), .val (.int p2), .val (.int p3), .val (.int p4), .val (.int v1), .val (.int v2), .val (.int v3), .val (.int u1), .unset, .unset, .unset, .unset, .unset, .unset, .unset, .unset, .unset] [(.int (((p1.toUInt32 >>> ((8 : Int32) &&& 31).toUInt32).toInt32) &&& (255 : Int32)))]))
      refine gs (fun t k => XS.i2c X0.here hx rfl (hb hby at_68) rfl k) ?_
      show G (s₁.setTop (mkF m 69 #[.val (.int p0), .val (.int p1), .val (.int p2), .val (.int p3), .val (.int p4), .val (.int v1), .val (.int v2), .val (.int v3), .val (.int u1), .unset, .unset, .unset, .unset, .unset, .unset, .unset, .unset, .unset] [(.int ((((p1.toUInt32 >>> ((8 : Int32) &&& 31).toUInt32).toInt32) &&& (255 : Int32)).toUInt32.toUInt16.toUInt32.toInt32))]))
      exact J52 _ (if_pos hc52).symm
    · refine gs (fun t k => XS.ifNo X0.here hx rfl (hb hby at_52) rfl ((if0 _ _).trans (feq hc52).1) k) ?_
      show G (s₁.setTop (mkF m 55 #[.val (.int p0), .val (.int p1), .val (.int p2), .val (.int p3), .val (.int p4), .val (.int v1), .val (.int v2), .val (.int v3), .val (.int u1), .unset, .unset, .unset, .unset, .unset, .unset, .unset, .unset, .unset] []))
      refine gs (fun t k => XS.iload X0.here hx rfl (hb hby at_55) rfl k) ?_
      show G (s₁.setTop (mkF m 57 #[.val (.int p0), .val (.int p1), .val (.int p2), .val (.int p3), .val (.int p4), .val (.int v1), .val (.int v2), .val (.int v3), .val (.int u1), .unset, .unset, .unset, .unset, .unset, .unset, .unset, .unset, .unset] [(.int v2)]))
      refine gs (fun t k => XS.goto X0.here hx rfl (pc0 := 57) (pc' := 69) rfl (hb hby at_57) (by decide) (by decide) k) ?_
      show G (s₁.setTop (mkF m 69 #[.val (.int p0), .val (.int p1), .val (.int p2), .val (.int p3), .val (.int p4), .val (.int v1), .val (.int v2), .val (.int v3), .val (.int u1), .unset, .unset, .unset, .unset, .unset, .unset, .unset, .unset, .unset] [(.int v2)]))
      exact J52 _ (if_neg hc52).symm
  by_cases hc33 : (p2 &&& (1 : Int32)) = (0 : Int32)
  · refine gs (fun t k => XS.ifYes X0.here hx rfl (pc0 := 33) (pc' := 41) rfl (hb hby at_33) rfl ((if0 _ _).trans (teq hc33).1) (by decide) (by decide) k) ?_
    show G (s₁.setTop (mkF m 41 #[.val (.int p0), .val (.int p1), .val (.int p2), .val (.int p3), .val (.int p4), .val (.int v1), .val (.int v2), .val (.int v3), .unset, .unset, .unset, .unset, .unset, .unset, .unset, .unset, .unset, .unset] []))
    refine gs (fun t k => XS.iloadN X0.here hx rfl (hb hby at_41) rfl k) ?_
    show G (s₁.setTop (mkF m 42 #[.val (.int p0), .val (.int p1), .val (.int p2), .val (.int p3), .val (.int p4), .val (.int v1), .val (.int v2), .val (.int v3), .unset, .unset, .unset, .unset, .unset, .unset, .unset, .unset, .unset, .unset] [(.int p1)]))
    refine gs (fun t k => XS.sipush X0.here hx rfl (hb hby at_42) k) ?_
    show G (s₁.setTop (mkF m 45 #[.val (.int p0), .val (.int p1), .val (.int p2), .val (.int p3), .val (.int p4), .val (.int v1), .val (.int v2), .val (.int v3), .unset, .unset, .unset, .unset, .unset, .unset, .unset, .unset, .unset, .unset] [(.int (255 : Int32)), (.int p1)]))
    refine gs (fun t k => XS.iand X0.here hx rfl (hb hby at_45) rfl k) ?_
    show G (s₁.setTop (mkF m 46 #[.val (.int p0), .val (.int p1), .val (.int p2), .val (.int p3), .val (.int p4), .val (.int v1), .val (.int v2), .val (.int v3), .unset, .unset, .unset, .unset, .unset, .unset, .unset, .unset, .unset, .unset] [(.int (p1 &&& (255 : Int32)))]))
    refine gs (fun t k => XS.i2c X0.here hx rfl (hb hby at_46) rfl k) ?_
    show G (s₁.setTop (mkF m 47 #[.val (.int p0), .val (.int p1), .val (.int p2), .val (.int p3), .val (.int p4), .val (.int v1), .val (.int v2), .val (.int v3), .unset, .unset, .unset, .unset, .unset, .unset, .unset, .unset, .unset, .unset] [(.int ((p1 &&& (255 : Int32)).toUInt32.toUInt16.toUInt32.toInt32))]))
    exact J33 _ (if_pos hc33).symm
  · refine gs (fun t k => XS.ifNo X0.here hx rfl (hb hby at_33) rfl ((if0 _ _).trans (feq hc33).1) k) ?_
    show G (s₁.setTop (mkF m 36 #[.val (.int p0), .val (.int p1), .val (.int p2), .val (.int p3), .val (.int p4), .val (.int v1), .val (.int v2), .val (.int v3), .unset, .unset, .unset, .unset, .unset, .unset, .unset, .unset, .unset, .unset] []))
    refine gs (fun t k => XS.iload X0.here hx rfl (hb hby at_36) rfl k) ?_
    show G (s₁.setTop (mkF m 38 #[.val (.int p0), .val (.int p1), .val (.int p2), .val (.int p3), .val (.int p4), .val (.int v1), .val (.int v2), .val (.int v3), .unset, .unset, .unset, .unset, .unset, .unset, .unset, .unset, .unset, .unset] [(.int v1)]))
    refine gs (fun t k => XS.goto X0.here hx rfl (pc0 := 38) (pc' := 47) rfl (hb hby at_38) (by decide) (by decide) k) ?_
    show G (s₁.setTop (mkF m 47 #[.val (.int p0), .val (.int p1), .val (.int p2), .val (.int p3), .val (.int p4), .val (.int v1), .val (.int v2), .val (.int v3), .unset, .unset, .unset, .unset, .unset, .unset, .unset, .unset, .unset, .unset] [(.int v1)]))
    exact J33 _ (if_neg hc33).symm
set_option maxRecDepth 65536 in
set_option maxHeartbeats 40000000 in
theorem comes_1 {Post : Tables → Env → Array Value → State → Outcome → State → Prop} (hpost : ∀ tb e args s v u, (limb_1_1.after args s (.returned v) u = true ∧ limb_1_2.after args s (.returned v) u = true ∧ True) → FrameEnd s (.returned v) u (Jvm.fieldLocs frame_1_writes args s ++ Jvm.arrayLocs frame_1_arrays args s ++ Jvm.staticLocs frame_1_statics s) 40 192 → Post tb e args s (.returned v) u) :
    ArmFor flags0 classFile x code maxLocals ret World_1 tables_1 room_1 Calls_1 rest_1 Pre_1 Post := by
  intro l hfl _ _ p e ha hc hk s m args below hf hA hF happ hP
  obtain ⟨hcalls, hrest, hpre⟩ := hP
  obtain ⟨-, -, -, hnamed, -, -, -, hat⟩ := (Spec.applies_iff hf).mp happ
  obtain ⟨hg, hn⟩ := and_e (Cond.before_iff.mp (show (Jvm.Cond.and given_1 narrow_1).before args s = true from hpre))
  obtain ⟨hg0, hg1⟩ := and_e hg
  obtain ⟨hv0, ht0⟩ := and_e hg1
  obtain ⟨hv1, ht1⟩ := and_e ht0
  obtain ⟨hv2, ht2⟩ := and_e ht1
  obtain ⟨hv3, ht3⟩ := and_e ht2
  have hv4 := ht3
  obtain ⟨w0, w1, w2, w3, w4, rfl⟩ : ∃ w0 w1 w2 w3 w4 : Value, args = #[w0, w1, w2, w3, w4] := by
    have hs : args.size = 5 := by simpa [Cond.value, given_1] using hg0
    obtain ⟨L⟩ := args
    match L, hs with
    | [w0, w1, w2, w3, w4], _ => exact ⟨w0, w1, w2, w3, w4, rfl⟩
  have hw := fun d (hd : d ∈ tables_1) => atoms_spec (ws := Jvm.Cond.code x code maxLocals ret :: tables_1) hat d (List.mem_cons_of_mem _ hd)
  have hfit : Fit s := fun {y c} hc i hi => by
    obtain ⟨ha, rfl⟩ := Array.getElem?_eq_some_iff.mp hc
    have q := List.all_eq_true.mp ((Array.all_eq_true_iff_forall_mem.mp hF) _ (Array.getElem_mem ha)) i (List.mem_range.mpr hi)
    simpa [Array.getElem?_eq_getElem hi] using q
  obtain ⟨hsets, hown0⟩ := atoms_of _ (rest_1_c_eq ▸ (show rest_1_c.before _ s = true from hrest))
  have hr0 := Cond.before_iff.mp hown0
  obtain ⟨i0, ei0⟩ := is_v hv0
  obtain rfl : w0 = (.int i0) := Option.some.inj ei0
  obtain ⟨i1, ei1⟩ := is_v hv1
  obtain rfl : w1 = (.int i1) := Option.some.inj ei1
  obtain ⟨i2, ei2⟩ := is_v hv2
  obtain rfl : w2 = (.int i2) := Option.some.inj ei2
  obtain ⟨i3, ei3⟩ := is_v hv3
  obtain rfl : w3 = (.int i3) := Option.some.inj ei3
  obtain ⟨i4, ei4⟩ := is_v hv4
  obtain rfl : w4 = (.int i4) := Option.some.inj ei4
  obtain ⟨cs, evc⟩ := is_v (Cond.before_iff.mp (hsets _ (List.mem_of_getElem? (i := 1) rfl)))
  have SC := Sta.start evc (Or.inl (hsets _ (List.mem_of_getElem? (i := 0) rfl)))
  have hcs : ¬ cs = (0 : Int32) := by
    have h := not_v (Cond.before_iff.mp (hsets _ (List.mem_of_getElem? (i := 2) rfl)))
    simpa [Cond.value, evc, Term.int_eval] using h
  obtain ⟨n, o, h1, h2, h3, _, L, rfl, ⟨rfl, N⟩, hq⟩ := rm0 l s _ hw tables_1 i0 i1 i2 i3 i4 cs s.heap s.heap.size (Nat.le_refl _) SC hcs p e ha hc hk s m _ below hf ((Spec.applies_iff_loose hf).mp happ).1 ⟨rfl, State.Warmed39.refl s, rfl⟩ trivial
  refine ⟨n, _, h1, h2, h3, hpost _ _ _ _ _ _ ⟨Cond.after_iff.mpr rfl, Cond.after_iff.mpr (eq_i res_at (Term.int_eval (1)) rfl), trivial⟩ ⟨hq.1, hq.2.1, (hq.2.2.sift fun y hy => Or.inr (N y hy)).mono (by decide) (by decide)⟩⟩
theorem main_1_1 : Claimed_1_1 := comes_1 fun _ _ _ _ _ _ h hF => ⟨h.1, hF⟩
theorem main_1_2 : Claimed_1_2 := comes_1 fun _ _ _ _ _ _ h hF => ⟨h.2.1, hF⟩
end Jvm.Pilot.@@N@@
namespace Jvm.Pilot.@@N@@
open Jvm Jvm.ClassFile Sem Op Lib Jvm.Free Jvm.Stand Jvm.Pilot.@@N@@.Jvm.D
/-! MADE BY PROGRAM (witnessworld.py) out of the Statement's table words and the real class files: 18 classes; the members and pool entries that the words name. The judged class is class 1, her method 1. -/
namespace start1
open Jvm.ClassFile
def u (s : String) : CpInfo := .utf8 (stringToUtf16 s)
/-- a pool by its gaps: so many unusable entries, then the entry; so many at the end -/
def gap : Nat → List CpInfo → List CpInfo
  | 0, r => r
  | n + 1, r => .unusable :: gap n r
def poolList (es : List (Nat × CpInfo)) (last : Nat) : List CpInfo := es.foldr (fun e r => gap e.1 (e.2 :: r)) (gap last [])
def pool (es : List (Nat × CpInfo)) (last : Nat) : Array CpInfo := ⟨poolList es last⟩
def fileOf (pool : Array CpInfo) (this : Nat) (attrs : Array Attribute := #[]) (ms : Array MethodInfo := #[]) (fl : Nat := 33) (sup : Nat := 0) (ifs : Array Nat := #[]) (fds : Array FieldInfo := #[]) : ClassFile where
  minorVersion := 0
  majorVersion := 65
  constantPool := pool
  accessFlags := fl
  thisClass := this
  superClass := sup
  interfaces := ifs
  fields := fds
  methods := ms
  attributes := attrs
def plain (name : String) (sup : Option ClassId) : Class where
  name := name
  kind := .ordinary
  loader := none
  accessFlags := 33
  super := sup
  interfaces := #[]
  cf := none
  fields := #[]
  methods := #[]
  instanceTypes := #[]
  staticTypes := #[]
  resolved := #[]
  callSites := []
  init := .initialized
  statics := none
  mirror := none

def pool0 : Array CpInfo := pool [(5, u "<init>"), (0, u "()V"), (1, .class_ 10), (1, u "java/lang/Object")] 113

def k0c0 : Code := { maxStack := 0, maxLocals := 1, code := object_method_1_code, exceptionTable := #[], attributes := #[] }
def k0m0 : Method := { name := "<init>", desc := "()V", sig := { parameters := [], returnType := none }, accessFlags := 1, code := some k0c0 }
/-- java/lang/Object -/
def k0 : Class := { plain "java/lang/Object" none with
  accessFlags := 33
  interfaces := #[]
  cf := some (fileOf pool0 8 #[] #[{ accessFlags := 1, nameIndex := 5, descriptorIndex := 6, attributes := #[] }] 33 0 #[] #[])
  fields := #[]
  methods := #[k0m0]
  instanceTypes := #[]
  staticTypes := #[]
  resolved := Array.replicate 124 none
  statics := none }

def pool1 : Array CpInfo := pool [(2, .class_ 4), (1, u "java/lang/Object"), (0, u "<init>"), (0, u "()V"), (0, .class_ 8), (0, u "com/example/consensus_to_coverage/consensustocoverage/trecfiles/Judgement"), (0, .methodref 10 11), (0, .class_ 12), (0, .nameAndType 13 14), (0, u "java/lang/String"), (0, u "valueOf"), (0, u "(C)Ljava/lang/String;"), (0, .methodref 7 16), (0, .nameAndType 5 17), (0, u "(Ljava/lang/String;Ljava/lang/String;Ljava/lang/String;I)V"), (0, .methodref 7 19), (0, .nameAndType 20 21), (0, u "equals"), (0, u "(Ljava/lang/Object;)Z"), (0, .class_ 23), (0, u "com/example/consensus_to_coverage/consensustocoverage/trecfiles/JudgementEqualsPinLaw"), (2, u "law"), (0, u "(IIIII)Z")] 3

def k1m0 : Method := { name := "<init>", desc := "()V", sig := { parameters := [], returnType := none }, accessFlags := 1, code := none }
def k1c1 : Code := { maxStack := 6, maxLocals := 18, code := code, exceptionTable := #[], attributes := #[] }
def k1m1 : Method := { name := "law", desc := "(IIIII)Z", sig := { parameters := [.int, .int, .int, .int, .int], returnType := some .boolean }, accessFlags := 9, code := some k1c1 }
/-- com/example/consensus_to_coverage/consensustocoverage/trecfiles/JudgementEqualsPinLaw -/
def k1 : Class := { plain "com/example/consensus_to_coverage/consensustocoverage/trecfiles/JudgementEqualsPinLaw" (some 0) with
  accessFlags := 49
  interfaces := #[]
  cf := some (fileOf pool1 22 #[] #[{ accessFlags := 1, nameIndex := 5, descriptorIndex := 6, attributes := #[] }, { accessFlags := 9, nameIndex := 26, descriptorIndex := 27, attributes := #[] }] 49 2 #[] #[])
  fields := #[]
  methods := #[k1m0, k1m1]
  instanceTypes := #[]
  staticTypes := #[]
  resolved := Array.replicate 31 none
  statics := none }

def pool2 : Array CpInfo := pool [(1, .methodref 2 3), (0, .class_ 4), (0, .nameAndType 5 6), (0, u "java/lang/Object"), (0, u "<init>"), (0, u "()V"), (0, .methodref 8 9), (0, .class_ 10), (0, .nameAndType 11 12), (0, u "java/util/Objects"), (0, u "requireNonNull"), (0, u "(Ljava/lang/Object;)Ljava/lang/Object;"), (0, .class_ 14), (0, u "java/lang/String"), (0, .fieldref 16 17), (0, .class_ 18), (0, .nameAndType 19 20), (0, u "com/example/consensus_to_coverage/consensustocoverage/trecfiles/Judgement"), (0, u "topic"), (0, u "Ljava/lang/String;"), (0, .fieldref 16 22), (0, .nameAndType 23 20), (0, u "subtopic"), (0, .fieldref 16 25), (0, .nameAndType 26 20), (0, u "docId"), (0, .fieldref 16 28), (0, .nameAndType 29 30), (0, u "grade"), (0, u "I"), (44, u "(Ljava/lang/String;Ljava/lang/String;Ljava/lang/String;I)V"), (0, .methodref 13 77), (0, .nameAndType 78 79), (0, u "equals"), (0, u "(Ljava/lang/Object;)Z"), (11, u "FIELD_COUNT")] 38

def k2c0 : Code := { maxStack := 2, maxLocals := 5, code := prog_55_method_1_code, exceptionTable := #[], attributes := #[] }
def k2m0 : Method := { name := "<init>", desc := "(Ljava/lang/String;Ljava/lang/String;Ljava/lang/String;I)V", sig := { parameters := [(.object "java/lang/String"), (.object "java/lang/String"), (.object "java/lang/String"), .int], returnType := none }, accessFlags := 1, code := some k2c0 }
def k2c1 : Code := { maxStack := 2, maxLocals := 3, code := prog_55_method_9_code, exceptionTable := #[], attributes := #[] }
def k2m1 : Method := { name := "equals", desc := "(Ljava/lang/Object;)Z", sig := { parameters := [(.object "java/lang/Object")], returnType := some .boolean }, accessFlags := 1, code := some k2c1 }
/-- com/example/consensus_to_coverage/consensustocoverage/trecfiles/Judgement -/
def k2 : Class := { plain "com/example/consensus_to_coverage/consensustocoverage/trecfiles/Judgement" (some 0) with
  accessFlags := 49
  interfaces := #[]
  cf := some (fileOf pool2 16 #[] #[{ accessFlags := 1, nameIndex := 5, descriptorIndex := 75, attributes := #[] }, { accessFlags := 1, nameIndex := 78, descriptorIndex := 79, attributes := #[] }] 49 2 #[] #[{ accessFlags := 26, nameIndex := 91, descriptorIndex := 30, attributes := #[] }, { accessFlags := 18, nameIndex := 19, descriptorIndex := 20, attributes := #[] }, { accessFlags := 18, nameIndex := 23, descriptorIndex := 20, attributes := #[] }, { accessFlags := 18, nameIndex := 26, descriptorIndex := 20, attributes := #[] }, { accessFlags := 18, nameIndex := 29, descriptorIndex := 30, attributes := #[] }])
  fields := #[{ name := "FIELD_COUNT", type := .int, accessFlags := 26, slot := 0, constantValue := 0 }, { name := "topic", type := (.object "java/lang/String"), accessFlags := 18, slot := 0, constantValue := 0 }, { name := "subtopic", type := (.object "java/lang/String"), accessFlags := 18, slot := 1, constantValue := 0 }, { name := "docId", type := (.object "java/lang/String"), accessFlags := 18, slot := 2, constantValue := 0 }, { name := "grade", type := .int, accessFlags := 18, slot := 3, constantValue := 0 }]
  methods := #[k2m0, k2m1]
  instanceTypes := #[(.object "java/lang/String"), (.object "java/lang/String"), (.object "java/lang/String"), .int]
  staticTypes := #[.int]
  resolved := Array.replicate 130 none
  statics := none }

def pool3 : Array CpInfo := pool [(1, .class_ 2), (0, u "java/io/Serializable"), (0, .class_ 4), (0, u "java/lang/Object")] 2

/-- java/io/Serializable -/
def k3 : Class := { plain "java/io/Serializable" (some 0) with
  accessFlags := 1537
  interfaces := #[]
  cf := some (fileOf pool3 1 #[] #[] 1537 3 #[] #[])
  fields := #[]
  methods := #[]
  instanceTypes := #[]
  staticTypes := #[]
  resolved := Array.replicate 7 none
  statics := none }

def pool4 : Array CpInfo := pool [(1, .class_ 2), (0, u "java/lang/Comparable"), (0, .class_ 4), (0, u "java/lang/Object")] 7

/-- java/lang/Comparable -/
def k4 : Class := { plain "java/lang/Comparable" (some 0) with
  accessFlags := 1537
  interfaces := #[]
  cf := some (fileOf pool4 1 #[] #[] 1537 3 #[] #[])
  fields := #[]
  methods := #[]
  instanceTypes := #[]
  staticTypes := #[]
  resolved := Array.replicate 12 none
  statics := none }

def pool5 : Array CpInfo := pool [(2, .class_ 4), (1, u "java/lang/CharSequence"), (42, .class_ 48), (0, u "java/lang/CharSequence$1CodePointIterator"), (10, .class_ 60), (0, u "java/lang/CharSequence$1CharIterator"), (5, .class_ 67), (0, u "java/lang/Object")] 63

/-- java/lang/CharSequence -/
def k5 : Class := { plain "java/lang/CharSequence" (some 0) with
  accessFlags := 1537
  interfaces := #[]
  cf := some (fileOf pool5 2 #[.nestMembers #[47, 59]] #[] 1537 66 #[] #[])
  fields := #[]
  methods := #[]
  instanceTypes := #[]
  staticTypes := #[]
  resolved := Array.replicate 131 none
  statics := none }

def pool6 : Array CpInfo := pool [(1, .class_ 2), (0, u "java/lang/constant/Constable"), (0, .class_ 4), (0, u "java/lang/Object")] 6

/-- java/lang/constant/Constable -/
def k6 : Class := { plain "java/lang/constant/Constable" (some 0) with
  accessFlags := 1537
  interfaces := #[]
  cf := some (fileOf pool6 1 #[] #[] 1537 3 #[] #[])
  fields := #[]
  methods := #[]
  instanceTypes := #[]
  staticTypes := #[]
  resolved := Array.replicate 11 none
  statics := none }

def pool7 : Array CpInfo := pool [(1, .class_ 2), (0, u "java/lang/constant/ConstantDesc"), (0, .class_ 4), (0, u "java/lang/Object")] 32

/-- java/lang/constant/ConstantDesc -/
def k7 : Class := { plain "java/lang/constant/ConstantDesc" (some 0) with
  accessFlags := 1537
  interfaces := #[]
  cf := some (fileOf pool7 1 #[] #[] 1537 3 #[] #[])
  fields := #[]
  methods := #[]
  instanceTypes := #[]
  staticTypes := #[]
  resolved := Array.replicate 37 none
  statics := none }

def pool8 : Array CpInfo := pool [(1, .methodref 2 3), (0, .class_ 4), (0, .nameAndType 5 6), (0, u "java/lang/Object"), (0, u "<init>"), (0, u "()V"), (2, .fieldref 10 11), (0, .class_ 12), (0, .nameAndType 13 14), (0, u "java/lang/String"), (0, u "value"), (0, u "[B"), (0, .fieldref 10 16), (0, .nameAndType 17 18), (0, u "coder"), (0, u "B"), (2, u "hash"), (0, u "I"), (2, u "hashIsZero"), (0, u "Z"), (11, .fieldref 10 39), (0, .nameAndType 40 26), (0, u "COMPACT_STRINGS"), (12, u "toBytes"), (53, .class_ 109), (1, u "java/lang/StringLatin1"), (99, .methodref 10 210), (0, .nameAndType 5 211), (0, u "([BB)V"), (157, u "(C)Z"), (171, .methodref 107 542), (0, .nameAndType 543 544), (0, u "equals"), (0, u "([B[B)Z"), (28, u "(Ljava/lang/Object;)Z"), (1, .class_ 576), (0, u "java/lang/CharSequence"), (22, u "CASE_INSENSITIVE_ORDER"), (0, u "Ljava/util/Comparator;"), (181, u "valueOf"), (0, u "(C)Ljava/lang/String;"), (231, .methodref 107 1016), (0, .nameAndType 1017 369), (0, u "canEncode"), (0, .methodref 107 1019), (0, .nameAndType 53 1020), (0, u "(C)[B"), (80, u "serialPersistentFields"), (0, u "[Ljava/io/ObjectStreamField;"), (0, .class_ 1104), (0, u "java/lang/String$CaseInsensitiveComparator"), (1, .class_ 1107), (0, u "java/io/Serializable"), (0, .class_ 1109), (0, u "java/lang/Comparable"), (0, .class_ 1111), (0, u "java/lang/constant/Constable"), (0, .class_ 1113), (0, u "java/lang/constant/ConstantDesc"), (2, u "serialVersionUID"), (0, u "J"), (3, u "REPL"), (0, u "C"), (2, u "LATIN1"), (1, u "UTF16")] 323

def k8m0 : Method := { name := "<init>", desc := "()V", sig := { parameters := [], returnType := none }, accessFlags := 1, code := none }
def k8c1 : Code := { maxStack := 2, maxLocals := 3, code := jdk_42_method_66_code, exceptionTable := #[], attributes := #[] }
def k8m1 : Method := { name := "equals", desc := "(Ljava/lang/Object;)Z", sig := { parameters := [(.object "java/lang/Object")], returnType := some .boolean }, accessFlags := 1, code := some k8c1 }
def k8c2 : Code := { maxStack := 4, maxLocals := 1, code := jdk_42_method_139_code, exceptionTable := #[], attributes := #[] }
def k8m2 : Method := { name := "valueOf", desc := "(C)Ljava/lang/String;", sig := { parameters := [.char], returnType := some (.object "java/lang/String") }, accessFlags := 9, code := some k8c2 }
def k8c3 : Code := { maxStack := 2, maxLocals := 3, code := jdk_42_method_151_code, exceptionTable := #[], attributes := #[] }
def k8m3 : Method := { name := "<init>", desc := "([BB)V", sig := { parameters := [(.array .byte), .byte], returnType := none }, accessFlags := 0, code := some k8c3 }
/-- java/lang/String -/
def k8 : Class := { plain "java/lang/String" (some 0) with
  accessFlags := 49
  interfaces := #[3, 4, 5, 6, 7]
  cf := some (fileOf pool8 10 #[.nestMembers #[1103]] #[{ accessFlags := 1, nameIndex := 5, descriptorIndex := 6, attributes := #[] }, { accessFlags := 1, nameIndex := 543, descriptorIndex := 573, attributes := #[] }, { accessFlags := 9, nameIndex := 782, descriptorIndex := 783, attributes := #[] }, { accessFlags := 0, nameIndex := 5, descriptorIndex := 211, attributes := #[] }] 49 2 #[1106, 1108, 575, 1110, 1112] #[{ accessFlags := 18, nameIndex := 13, descriptorIndex := 14, attributes := #[] }, { accessFlags := 18, nameIndex := 17, descriptorIndex := 18, attributes := #[] }, { accessFlags := 2, nameIndex := 21, descriptorIndex := 22, attributes := #[] }, { accessFlags := 2, nameIndex := 25, descriptorIndex := 26, attributes := #[] }, { accessFlags := 26, nameIndex := 1116, descriptorIndex := 1117, attributes := #[] }, { accessFlags := 24, nameIndex := 40, descriptorIndex := 26, attributes := #[] }, { accessFlags := 26, nameIndex := 1101, descriptorIndex := 1102, attributes := #[] }, { accessFlags := 26, nameIndex := 1121, descriptorIndex := 1122, attributes := #[] }, { accessFlags := 25, nameIndex := 599, descriptorIndex := 600, attributes := #[] }, { accessFlags := 24, nameIndex := 1125, descriptorIndex := 18, attributes := #[] }, { accessFlags := 24, nameIndex := 1127, descriptorIndex := 18, attributes := #[] }])
  fields := #[{ name := "value", type := (.array .byte), accessFlags := 18, slot := 0, constantValue := 0 }, { name := "coder", type := .byte, accessFlags := 18, slot := 1, constantValue := 0 }, { name := "hash", type := .int, accessFlags := 2, slot := 2, constantValue := 0 }, { name := "hashIsZero", type := .boolean, accessFlags := 2, slot := 3, constantValue := 0 }, { name := "serialVersionUID", type := .long, accessFlags := 26, slot := 0, constantValue := 0 }, { name := "COMPACT_STRINGS", type := .boolean, accessFlags := 24, slot := 1, constantValue := 0 }, { name := "serialPersistentFields", type := (.array (.object "java/io/ObjectStreamField")), accessFlags := 26, slot := 2, constantValue := 0 }, { name := "REPL", type := .char, accessFlags := 26, slot := 3, constantValue := 0 }, { name := "CASE_INSENSITIVE_ORDER", type := (.object "java/util/Comparator"), accessFlags := 25, slot := 4, constantValue := 0 }, { name := "LATIN1", type := .byte, accessFlags := 24, slot := 5, constantValue := 0 }, { name := "UTF16", type := .byte, accessFlags := 24, slot := 6, constantValue := 0 }]
  methods := #[k8m0, k8m1, k8m2, k8m3]
  instanceTypes := #[(.array .byte), .byte, .int, .boolean]
  staticTypes := #[.long, .boolean, (.array (.object "java/io/ObjectStreamField")), .char, (.object "java/util/Comparator"), .byte, .byte]
  resolved := Array.replicate 1451 none
  statics := some 0 }

def pool9 : Array CpInfo := pool [(4, .class_ 6), (1, u "java/lang/Object"), (0, u "<init>"), (0, u "()V"), (5, .class_ 16), (1, u "java/lang/StringLatin1"), (73, u "canEncode"), (14, u "(C)Z"), (15, u "$assertionsDisabled"), (0, u "Z"), (98, .class_ 223), (1, u "java/lang/StringLatin1$LinesSpliterator"), (57, u "equals"), (0, u "([B[B)Z"), (97, u "toBytes"), (1, u "(C)[B"), (7, .class_ 391), (0, u "java/lang/StringLatin1$CharsSpliterator")] 3

def k9m0 : Method := { name := "<init>", desc := "()V", sig := { parameters := [], returnType := none }, accessFlags := 0, code := none }
def k9c1 : Code := { maxStack := 2, maxLocals := 1, code := jdk_43_method_3_code, exceptionTable := #[], attributes := #[] }
def k9m1 : Method := { name := "canEncode", desc := "(C)Z", sig := { parameters := [.char], returnType := some .boolean }, accessFlags := 9, code := some k9c1 }
def k9c2 : Code := { maxStack := 3, maxLocals := 3, code := jdk_43_method_13_code, exceptionTable := #[], attributes := #[] }
def k9m2 : Method := { name := "equals", desc := "([B[B)Z", sig := { parameters := [(.array .byte), (.array .byte)], returnType := some .boolean }, accessFlags := 9, code := some k9c2 }
def k9c3 : Code := { maxStack := 4, maxLocals := 1, code := jdk_43_method_46_code, exceptionTable := #[], attributes := #[] }
def k9m3 : Method := { name := "toBytes", desc := "(C)[B", sig := { parameters := [.char], returnType := some (.array .byte) }, accessFlags := 9, code := some k9c3 }
/-- java/lang/StringLatin1 -/
def k9 : Class := { plain "java/lang/StringLatin1" (some 0) with
  accessFlags := 48
  interfaces := #[]
  cf := some (fileOf pool9 14 #[.nestMembers #[390, 221]] #[{ accessFlags := 0, nameIndex := 7, descriptorIndex := 8, attributes := #[] }, { accessFlags := 9, nameIndex := 90, descriptorIndex := 105, attributes := #[] }, { accessFlags := 9, nameIndex := 281, descriptorIndex := 282, attributes := #[] }, { accessFlags := 9, nameIndex := 380, descriptorIndex := 382, attributes := #[] }] 48 4 #[] #[{ accessFlags := 4120, nameIndex := 121, descriptorIndex := 122, attributes := #[] }])
  fields := #[{ name := "$assertionsDisabled", type := .boolean, accessFlags := 4120, slot := 0, constantValue := 0 }]
  methods := #[k9m0, k9m1, k9m2, k9m3]
  instanceTypes := #[]
  staticTypes := #[.boolean]
  resolved := Array.replicate 395 none
  statics := none }

def pool10 : Array CpInfo := pool [(2, .class_ 4), (1, u "java/lang/Object"), (0, u "<init>"), (0, u "()V"), (35, .class_ 44), (1, u "java/util/Objects"), (0, u "requireNonNull"), (0, u "(Ljava/lang/Object;)Ljava/lang/Object;")] 137

def k10m0 : Method := { name := "<init>", desc := "()V", sig := { parameters := [], returnType := none }, accessFlags := 2, code := none }
def k10c1 : Code := { maxStack := 2, maxLocals := 1, code := jdk_31_method_10_code, exceptionTable := #[], attributes := #[] }
def k10m1 : Method := { name := "requireNonNull", desc := "(Ljava/lang/Object;)Ljava/lang/Object;", sig := { parameters := [(.object "java/lang/Object")], returnType := some (.object "java/lang/Object") }, accessFlags := 9, code := some k10c1 }
/-- java/util/Objects -/
def k10 : Class := { plain "java/util/Objects" (some 0) with
  accessFlags := 49
  interfaces := #[]
  cf := some (fileOf pool10 42 #[] #[{ accessFlags := 2, nameIndex := 5, descriptorIndex := 6, attributes := #[] }, { accessFlags := 9, nameIndex := 45, descriptorIndex := 46, attributes := #[] }] 49 2 #[] #[])
  fields := #[]
  methods := #[k10m0, k10m1]
  instanceTypes := #[]
  staticTypes := #[]
  resolved := Array.replicate 184 none
  statics := none }

def pool11 : Array CpInfo := pool [(2, .class_ 4), (1, u "java/lang/Object"), (0, u "<init>"), (0, u "()V"), (17, .class_ 26), (1, u "jdk/internal/util/Preconditions"), (28, .class_ 56), (0, u "jdk/internal/util/Preconditions$4"), (57, .class_ 115), (0, u "jdk/internal/util/Preconditions$1"), (7, u "SIOOBE_FORMATTER"), (0, u "Ljava/util/function/BiFunction;"), (0, .class_ 126), (0, u "jdk/internal/util/Preconditions$2"), (3, u "AIOOBE_FORMATTER"), (0, .class_ 132), (0, u "jdk/internal/util/Preconditions$3"), (3, u "IOOBE_FORMATTER")] 57

def k11m0 : Method := { name := "<init>", desc := "()V", sig := { parameters := [], returnType := none }, accessFlags := 1, code := none }
/-- jdk/internal/util/Preconditions -/
def k11 : Class := { plain "jdk/internal/util/Preconditions" (some 0) with
  accessFlags := 33
  interfaces := #[]
  cf := some (fileOf pool11 24 #[.nestMembers #[55, 131, 125, 114]] #[{ accessFlags := 1, nameIndex := 5, descriptorIndex := 6, attributes := #[] }] 33 2 #[] #[{ accessFlags := 25, nameIndex := 123, descriptorIndex := 124, attributes := #[] }, { accessFlags := 25, nameIndex := 130, descriptorIndex := 124, attributes := #[] }, { accessFlags := 25, nameIndex := 136, descriptorIndex := 124, attributes := #[] }])
  fields := #[{ name := "SIOOBE_FORMATTER", type := (.object "java/util/function/BiFunction"), accessFlags := 25, slot := 0, constantValue := 0 }, { name := "AIOOBE_FORMATTER", type := (.object "java/util/function/BiFunction"), accessFlags := 25, slot := 1, constantValue := 0 }, { name := "IOOBE_FORMATTER", type := (.object "java/util/function/BiFunction"), accessFlags := 25, slot := 2, constantValue := 0 }]
  methods := #[k11m0]
  instanceTypes := #[]
  staticTypes := #[(.object "java/util/function/BiFunction"), (.object "java/util/function/BiFunction"), (.object "java/util/function/BiFunction")]
  resolved := Array.replicate 194 none
  statics := some 1 }

def pool12 : Array CpInfo := pool [(9, u "<init>"), (6, .class_ 18), (1, u "java/lang/Object"), (0, u "()V"), (1, .class_ 23), (1, u "jdk/internal/util/ArraysSupport"), (0, u "LOG2_ARRAY_LONG_INDEX_SCALE"), (0, u "I"), (2, u "U"), (0, u "Ljdk/internal/misc/Unsafe;"), (8, u "BIG_ENDIAN"), (0, u "Z"), (8, u "LOG2_BYTE_BIT_SIZE"), (4, u "LOG2_ARRAY_INT_INDEX_SCALE"), (54, u "JLA"), (0, u "Ljdk/internal/access/JavaLangAccess;"), (11, u "LOG2_ARRAY_BOOLEAN_INDEX_SCALE"), (9, u "LOG2_ARRAY_BYTE_INDEX_SCALE"), (5, u "LOG2_ARRAY_CHAR_INDEX_SCALE"), (5, u "LOG2_ARRAY_SHORT_INDEX_SCALE"), (18, u "LOG2_ARRAY_FLOAT_INDEX_SCALE"), (24, u "LOG2_ARRAY_DOUBLE_INDEX_SCALE"), (89, u "T_BOOLEAN"), (2, u "T_CHAR"), (1, u "T_FLOAT"), (1, u "T_DOUBLE"), (1, u "T_BYTE"), (1, u "T_SHORT"), (1, u "T_INT"), (1, u "T_LONG"), (1, u "SOFT_MAX_ARRAY_LENGTH")] 83

def k12m0 : Method := { name := "<init>", desc := "()V", sig := { parameters := [], returnType := none }, accessFlags := 2, code := none }
/-- jdk/internal/util/ArraysSupport -/
def k12 : Class := { plain "jdk/internal/util/ArraysSupport" (some 0) with
  accessFlags := 33
  interfaces := #[]
  cf := some (fileOf pool12 21 #[] #[{ accessFlags := 2, nameIndex := 9, descriptorIndex := 19, attributes := #[] }] 33 16 #[] #[{ accessFlags := 24, nameIndex := 28, descriptorIndex := 29, attributes := #[] }, { accessFlags := 26, nameIndex := 38, descriptorIndex := 39, attributes := #[] }, { accessFlags := 25, nameIndex := 121, descriptorIndex := 25, attributes := #[] }, { accessFlags := 25, nameIndex := 131, descriptorIndex := 25, attributes := #[] }, { accessFlags := 25, nameIndex := 137, descriptorIndex := 25, attributes := #[] }, { accessFlags := 25, nameIndex := 143, descriptorIndex := 25, attributes := #[] }, { accessFlags := 25, nameIndex := 53, descriptorIndex := 25, attributes := #[] }, { accessFlags := 25, nameIndex := 24, descriptorIndex := 25, attributes := #[] }, { accessFlags := 25, nameIndex := 162, descriptorIndex := 25, attributes := #[] }, { accessFlags := 25, nameIndex := 187, descriptorIndex := 25, attributes := #[] }, { accessFlags := 26, nameIndex := 48, descriptorIndex := 25, attributes := #[] }, { accessFlags := 25, nameIndex := 277, descriptorIndex := 25, attributes := #[] }, { accessFlags := 25, nameIndex := 280, descriptorIndex := 25, attributes := #[] }, { accessFlags := 25, nameIndex := 282, descriptorIndex := 25, attributes := #[] }, { accessFlags := 25, nameIndex := 284, descriptorIndex := 25, attributes := #[] }, { accessFlags := 25, nameIndex := 286, descriptorIndex := 25, attributes := #[] }, { accessFlags := 25, nameIndex := 288, descriptorIndex := 25, attributes := #[] }, { accessFlags := 25, nameIndex := 290, descriptorIndex := 25, attributes := #[] }, { accessFlags := 25, nameIndex := 292, descriptorIndex := 25, attributes := #[] }, { accessFlags := 26, nameIndex := 108, descriptorIndex := 109, attributes := #[] }, { accessFlags := 25, nameIndex := 294, descriptorIndex := 25, attributes := #[] }])
  fields := #[{ name := "U", type := (.object "jdk/internal/misc/Unsafe"), accessFlags := 24, slot := 0, constantValue := 0 }, { name := "BIG_ENDIAN", type := .boolean, accessFlags := 26, slot := 1, constantValue := 0 }, { name := "LOG2_ARRAY_BOOLEAN_INDEX_SCALE", type := .int, accessFlags := 25, slot := 2, constantValue := 0 }, { name := "LOG2_ARRAY_BYTE_INDEX_SCALE", type := .int, accessFlags := 25, slot := 3, constantValue := 0 }, { name := "LOG2_ARRAY_CHAR_INDEX_SCALE", type := .int, accessFlags := 25, slot := 4, constantValue := 0 }, { name := "LOG2_ARRAY_SHORT_INDEX_SCALE", type := .int, accessFlags := 25, slot := 5, constantValue := 0 }, { name := "LOG2_ARRAY_INT_INDEX_SCALE", type := .int, accessFlags := 25, slot := 6, constantValue := 0 }, { name := "LOG2_ARRAY_LONG_INDEX_SCALE", type := .int, accessFlags := 25, slot := 7, constantValue := 0 }, { name := "LOG2_ARRAY_FLOAT_INDEX_SCALE", type := .int, accessFlags := 25, slot := 8, constantValue := 0 }, { name := "LOG2_ARRAY_DOUBLE_INDEX_SCALE", type := .int, accessFlags := 25, slot := 9, constantValue := 0 }, { name := "LOG2_BYTE_BIT_SIZE", type := .int, accessFlags := 26, slot := 10, constantValue := 0 }, { name := "T_BOOLEAN", type := .int, accessFlags := 25, slot := 11, constantValue := 0 }, { name := "T_CHAR", type := .int, accessFlags := 25, slot := 12, constantValue := 0 }, { name := "T_FLOAT", type := .int, accessFlags := 25, slot := 13, constantValue := 0 }, { name := "T_DOUBLE", type := .int, accessFlags := 25, slot := 14, constantValue := 0 }, { name := "T_BYTE", type := .int, accessFlags := 25, slot := 15, constantValue := 0 }, { name := "T_SHORT", type := .int, accessFlags := 25, slot := 16, constantValue := 0 }, { name := "T_INT", type := .int, accessFlags := 25, slot := 17, constantValue := 0 }, { name := "T_LONG", type := .int, accessFlags := 25, slot := 18, constantValue := 0 }, { name := "JLA", type := (.object "jdk/internal/access/JavaLangAccess"), accessFlags := 26, slot := 19, constantValue := 0 }, { name := "SOFT_MAX_ARRAY_LENGTH", type := .int, accessFlags := 25, slot := 20, constantValue := 0 }]
  methods := #[k12m0]
  instanceTypes := #[]
  staticTypes := #[(.object "jdk/internal/misc/Unsafe"), .boolean, .int, .int, .int, .int, .int, .int, .int, .int, .int, .int, .int, .int, .int, .int, .int, .int, .int, (.object "jdk/internal/access/JavaLangAccess"), .int]
  resolved := Array.replicate 378 none
  statics := none }

def pool13 : Array CpInfo := pool [(1, u "java/lang/Cloneable"), (0, .class_ 1), (0, u "java/lang/Object"), (0, .class_ 3)] 3

/-- java/lang/Cloneable -/
def k13 : Class := { plain "java/lang/Cloneable" (some 0) with
  accessFlags := 1537
  interfaces := #[]
  cf := some (fileOf pool13 2 #[] #[] 1537 4 #[] #[])
  fields := #[]
  methods := #[]
  instanceTypes := #[]
  staticTypes := #[]
  resolved := Array.replicate 8 none
  statics := none }

/-- the primitive byte -/
def k14 : Class := { plain "byte" none with kind := .primitive 'B', accessFlags := 0x411 }
/-- [B -/
def k15 : Class := { plain "[B" (some 0) with kind := .array 14 .byte, interfaces := #[13, 3], accessFlags := 1041 }

/-- the primitive int -/
def k16 : Class := { plain "int" none with kind := .primitive 'I', accessFlags := 0x411 }
/-- [I -/
def k17 : Class := { plain "[I" (some 0) with kind := .array 16 .int, interfaces := #[13, 3], accessFlags := 1041 }

def heap : Heap := #[{ cls := 8, slots := #[.long 0, .int 1, .null, .int 0, .null, .int 0, .int 0], vm := .statics 8 },
  { cls := 11, slots := #[.null, .null, .null], vm := .statics 11 }]
def classes : Array Class := #[k0, k1, k2, k3, k4, k5, k6, k7, k8, k9, k10, k11, k12, k13, k14, k15, k16, k17]
def interned : List (Array UInt16 × Addr) := []
def slotsUsed : Nat := 10
def theMethod : MethodId := ⟨1, 1⟩
def args0 : Array Value := #[.int 5, .int 6, .int 7, .int 8, .int 9]
def aboutOver (below : List Frame) : State where
  vm := { classes := classes, interned := interned.toArray }
  heap := heap
  slotsUsed := slotsUsed
  threads := #[{ frames := .invoking theMethod args0 :: below }]
def below0 : List Frame := [.native { method := ⟨0, 0⟩, args := #[] }]
def about1 : State := aboutOver below0
def p0 : Program := .bare "" "" ""
def e0 : Env := launch0.env 0 0 0
theorem w_frames : about1.frames = Frame.invoking theMethod args0 :: below0 := rfl
set_option maxRecDepth 65536 in
theorem w_args : argsFit about1.vm theMethod args0 = true := by decide +kernel
set_option maxRecDepth 65536 in
theorem w_heap : heapFits about1 = true := by decide +kernel
set_option maxRecDepth 65536 in
theorem w_runnable : about1.curStatus? = some .runnable := by decide +kernel
set_option maxRecDepth 65536 in
theorem w_alone : about1.alone = true := by decide +kernel
set_option maxRecDepth 65536 in
theorem w_named : about1.methodNamed? x = some theMethod := by decide +kernel
set_option maxRecDepth 65536 in
theorem w_hears : about1.hears theMethod below0 = true := by decide +kernel
set_option maxRecDepth 65536 in
theorem w_ripe : about1.ripe theMethod args0 below0 = true := by decide +kernel
theorem w_running : about1.status = .running := rfl
set_option maxRecDepth 65536 in
theorem w_room : about1.hasRoom e0.platform room_1 = true :=
  launch0.hasRoom_least _ room_1 (by decide +kernel) (by decide +kernel) (by decide +kernel) (by decide +kernel) (by decide +kernel) (by decide +kernel)
theorem allAtoms_all (ts : List Jvm.Cond) (a : Array Jvm.Value) (st : Jvm.State) : (allAtoms ts).before a st = ts.all (fun c => c.before a st) := by
  induction ts with
  | nil => rfl
  | cons c t ih =>
    show (Jvm.Cond.and c (allAtoms t)).before a st = _
    rw [Jvm.Cond.before_and, ih, List.all_cons]
def words1 : List Jvm.Cond := Jvm.Cond.code x code maxLocals ret :: tables_1
/-- a 'code' word, met by the world's own term for the bytes: nothing is compared byte by byte -/
theorem code_word {y : MethodName} {bytes : ByteArray} {mx : Nat} {rt : Option FieldType} {a : Array Value} {s : State} {m : MethodId} {meth : Method} {c : Code} (h1 : s.methodNamed? y = some m) (h2 : s.vm.method? m = some meth) (h3 : meth.code = some c) (h4 : c.code = bytes)
    (h5 : (c.maxLocals == mx && c.exceptionTable.isEmpty && decide (c.maxStack ≤ mostOperands) && decide (meth.sig.returnType = rt) && !meth.locks && decide (parseMethodDescriptor y.desc = some meth.sig)) = true) : (Jvm.Cond.code y bytes mx rt).before a s = true := by
  simp only [Bool.and_eq_true, beq_iff_eq, Bool.not_eq_true', decide_eq_true_eq] at h5
  obtain ⟨⟨⟨⟨⟨g1, g2⟩, g3⟩, g4⟩, g5⟩, g6⟩ := h5
  simp [Cond.before, Cond.holds, Cond.value, h1, h2, h3, h4, g1, g2, g3, g4, g5, g6]
def isCode : Jvm.Cond → Bool
  | .code _ _ _ _ => true
  | _ => false
theorem all_split {L : List Jvm.Cond} {P : Jvm.Cond → Bool} (h1 : L.all (fun c => isCode c || P c) = true) (h2 : ∀ c ∈ L.filter isCode, P c = true) : L.all P = true := by
  refine List.all_eq_true.mpr fun c hc => ?_
  have h := List.all_eq_true.mp h1 c hc
  rcases Bool.eq_false_or_eq_true (isCode c) with hi | hi
  · exact h2 c (List.mem_filter.mpr ⟨hc, hi⟩)
  · simpa [hi] using h
set_option maxRecDepth 65536 in
theorem w_c0 : (Jvm.Cond.code x code maxLocals ret).before args0 about1 = true := code_word (m := ⟨1, 1⟩) (meth := k1m1) (c := k1c1) (by decide +kernel) rfl rfl rfl (by decide +kernel)
set_option maxRecDepth 65536 in
theorem w_c1 : (Jvm.Cond.code ({ cls := "java/lang/String", name := "valueOf", desc := "(C)Ljava/lang/String;" } : Jvm.MethodName) jdk_42_method_139_code (1 : Nat) (Option.some (Jvm.ClassFile.FieldType.object "java/lang/String"))).before args0 about1 = true := code_word (m := ⟨8, 2⟩) (meth := k8m2) (c := k8c2) (by decide +kernel) rfl rfl rfl (by decide +kernel)
set_option maxRecDepth 65536 in
theorem w_c2 : (Jvm.Cond.code ({ cls := "java/lang/StringLatin1", name := "canEncode", desc := "(C)Z" } : Jvm.MethodName) jdk_43_method_3_code (1 : Nat) (Option.some Jvm.ClassFile.FieldType.boolean)).before args0 about1 = true := code_word (m := ⟨9, 1⟩) (meth := k9m1) (c := k9c1) (by decide +kernel) rfl rfl rfl (by decide +kernel)
set_option maxRecDepth 65536 in
theorem w_c3 : (Jvm.Cond.code ({ cls := "java/lang/StringLatin1", name := "toBytes", desc := "(C)[B" } : Jvm.MethodName) jdk_43_method_46_code (1 : Nat) (Option.some (Jvm.ClassFile.FieldType.array Jvm.ClassFile.FieldType.byte))).before args0 about1 = true := code_word (m := ⟨9, 3⟩) (meth := k9m3) (c := k9c3) (by decide +kernel) rfl rfl rfl (by decide +kernel)
set_option maxRecDepth 65536 in
theorem w_c4 : (Jvm.Cond.code ({ cls := "java/lang/String", name := "<init>", desc := "([BB)V" } : Jvm.MethodName) jdk_42_method_151_code (3 : Nat) (Option.none : Option Jvm.ClassFile.FieldType)).before args0 about1 = true := code_word (m := ⟨8, 3⟩) (meth := k8m3) (c := k8c3) (by decide +kernel) rfl rfl rfl (by decide +kernel)
set_option maxRecDepth 65536 in
theorem w_c5 : (Jvm.Cond.code ({ cls := "java/lang/Object", name := "<init>", desc := "()V" } : Jvm.MethodName) object_method_1_code (1 : Nat) (Option.none : Option Jvm.ClassFile.FieldType)).before args0 about1 = true := code_word (m := ⟨0, 0⟩) (meth := k0m0) (c := k0c0) (by decide +kernel) rfl rfl rfl (by decide +kernel)
set_option maxRecDepth 65536 in
theorem w_c6 : (Jvm.Cond.code ({ cls := "com/example/consensus_to_coverage/consensustocoverage/trecfiles/Judgement", name := "<init>", desc := "(Ljava/lang/String;Ljava/lang/String;Ljava/lang/String;I)V" } : Jvm.MethodName) prog_55_method_1_code (5 : Nat) (Option.none : Option Jvm.ClassFile.FieldType)).before args0 about1 = true := code_word (m := ⟨2, 0⟩) (meth := k2m0) (c := k2c0) (by decide +kernel) rfl rfl rfl (by decide +kernel)
set_option maxRecDepth 65536 in
theorem w_c7 : (Jvm.Cond.code ({ cls := "java/util/Objects", name := "requireNonNull", desc := "(Ljava/lang/Object;)Ljava/lang/Object;" } : Jvm.MethodName) jdk_31_method_10_code (1 : Nat) (Option.some (Jvm.ClassFile.FieldType.object "java/lang/Object"))).before args0 about1 = true := code_word (m := ⟨10, 1⟩) (meth := k10m1) (c := k10c1) (by decide +kernel) rfl rfl rfl (by decide +kernel)
set_option maxRecDepth 65536 in
theorem w_c8 : (Jvm.Cond.code ({ cls := "com/example/consensus_to_coverage/consensustocoverage/trecfiles/Judgement", name := "equals", desc := "(Ljava/lang/Object;)Z" } : Jvm.MethodName) prog_55_method_9_code (3 : Nat) (Option.some Jvm.ClassFile.FieldType.boolean)).before args0 about1 = true := code_word (m := ⟨2, 1⟩) (meth := k2m1) (c := k2c1) (by decide +kernel) rfl rfl rfl (by decide +kernel)
set_option maxRecDepth 65536 in
theorem w_c9 : (Jvm.Cond.code ({ cls := "java/lang/String", name := "equals", desc := "(Ljava/lang/Object;)Z" } : Jvm.MethodName) jdk_42_method_66_code (3 : Nat) (Option.some Jvm.ClassFile.FieldType.boolean)).before args0 about1 = true := code_word (m := ⟨8, 1⟩) (meth := k8m1) (c := k8c1) (by decide +kernel) rfl rfl rfl (by decide +kernel)
set_option maxRecDepth 65536 in
theorem w_c10 : (Jvm.Cond.code ({ cls := "java/lang/StringLatin1", name := "equals", desc := "([B[B)Z" } : Jvm.MethodName) jdk_43_method_13_code (3 : Nat) (Option.some Jvm.ClassFile.FieldType.boolean)).before args0 about1 = true := code_word (m := ⟨9, 2⟩) (meth := k9m2) (c := k9c2) (by decide +kernel) rfl rfl rfl (by decide +kernel)
def codes1 : List Jvm.Cond := [Jvm.Cond.code x code maxLocals ret, Jvm.Cond.code ({ cls := "java/lang/String", name := "valueOf", desc := "(C)Ljava/lang/String;" } : Jvm.MethodName) jdk_42_method_139_code (1 : Nat) (Option.some (Jvm.ClassFile.FieldType.object "java/lang/String")), Jvm.Cond.code ({ cls := "java/lang/StringLatin1", name := "canEncode", desc := "(C)Z" } : Jvm.MethodName) jdk_43_method_3_code (1 : Nat) (Option.some Jvm.ClassFile.FieldType.boolean), Jvm.Cond.code ({ cls := "java/lang/StringLatin1", name := "toBytes", desc := "(C)[B" } : Jvm.MethodName) jdk_43_method_46_code (1 : Nat) (Option.some (Jvm.ClassFile.FieldType.array Jvm.ClassFile.FieldType.byte)), Jvm.Cond.code ({ cls := "java/lang/String", name := "<init>", desc := "([BB)V" } : Jvm.MethodName) jdk_42_method_151_code (3 : Nat) (Option.none : Option Jvm.ClassFile.FieldType), Jvm.Cond.code ({ cls := "java/lang/Object", name := "<init>", desc := "()V" } : Jvm.MethodName) object_method_1_code (1 : Nat) (Option.none : Option Jvm.ClassFile.FieldType), Jvm.Cond.code ({ cls := "com/example/consensus_to_coverage/consensustocoverage/trecfiles/Judgement", name := "<init>", desc := "(Ljava/lang/String;Ljava/lang/String;Ljava/lang/String;I)V" } : Jvm.MethodName) prog_55_method_1_code (5 : Nat) (Option.none : Option Jvm.ClassFile.FieldType), Jvm.Cond.code ({ cls := "java/util/Objects", name := "requireNonNull", desc := "(Ljava/lang/Object;)Ljava/lang/Object;" } : Jvm.MethodName) jdk_31_method_10_code (1 : Nat) (Option.some (Jvm.ClassFile.FieldType.object "java/lang/Object")), Jvm.Cond.code ({ cls := "com/example/consensus_to_coverage/consensustocoverage/trecfiles/Judgement", name := "equals", desc := "(Ljava/lang/Object;)Z" } : Jvm.MethodName) prog_55_method_9_code (3 : Nat) (Option.some Jvm.ClassFile.FieldType.boolean), Jvm.Cond.code ({ cls := "java/lang/String", name := "equals", desc := "(Ljava/lang/Object;)Z" } : Jvm.MethodName) jdk_42_method_66_code (3 : Nat) (Option.some Jvm.ClassFile.FieldType.boolean), Jvm.Cond.code ({ cls := "java/lang/StringLatin1", name := "equals", desc := "([B[B)Z" } : Jvm.MethodName) jdk_43_method_13_code (3 : Nat) (Option.some Jvm.ClassFile.FieldType.boolean)]
set_option maxRecDepth 65536 in
theorem codes_eq : words1.filter isCode = codes1 := rfl
theorem w_codes : ∀ c ∈ words1.filter isCode, c.before args0 about1 = true := by
  rw [codes_eq]
  intro c hc
  simp only [codes1, List.mem_cons, List.not_mem_nil, or_false] at hc
  rcases hc with rfl | rfl | rfl | rfl | rfl | rfl | rfl | rfl | rfl | rfl | rfl
  · exact w_c0
  · exact w_c1
  · exact w_c2
  · exact w_c3
  · exact w_c4
  · exact w_c5
  · exact w_c6
  · exact w_c7
  · exact w_c8
  · exact w_c9
  · exact w_c10
set_option maxRecDepth 65536 in
theorem w_t1 : (words1.take 24).all (fun c => isCode c || c.before args0 about1) = true := by decide +kernel
set_option maxRecDepth 65536 in
theorem w_t2 : ((words1.drop 24).take 24).all (fun c => isCode c || c.before args0 about1) = true := by decide +kernel
set_option maxRecDepth 65536 in
theorem w_t3 : ((words1.drop 24).drop 24).all (fun c => isCode c || c.before args0 about1) = true := by decide +kernel
theorem w_tables : (allAtoms (Jvm.Cond.code x code maxLocals ret :: tables_1)).before args0 about1 = true := by
  rw [allAtoms_all]
  show words1.all (fun c => c.before args0 about1) = true
  refine all_split ?_ w_codes
  rw [← List.take_append_drop 24 words1, List.all_append, w_t1, ← List.take_append_drop 24 (words1.drop 24), List.all_append, w_t2, w_t3]
  rfl
set_option maxRecDepth 65536 in
theorem w_rest : rest_1_c.before args0 about1 = true := by decide +kernel
set_option maxRecDepth 65536 in
theorem w_case : (Jvm.Cond.and given_1 narrow_1).before args0 about1 = true := by decide +kernel
theorem w_applies : (headSpec (Jvm.Cond.code x code maxLocals ret :: tables_1) room_1).applies x e0.platform about1 = true :=
  (Spec.applies_iff w_frames).mpr ⟨w_running, w_runnable, w_alone, w_named, w_hears, w_ripe, w_room, w_tables⟩
theorem atStart : AtStart classFile x code maxLocals ret World_1 tables_1 room_1 Calls_1 rest_1 Pre_1 launch0 p0 e0 about1 theMethod args0 below0 :=
  ⟨lists_1, trivial, launch0.admits_env _ _ _, launch0.least_env, fairChoices_fair.cas, fairChoices_fair.clock, w_frames, w_args, w_heap, w_applies, trivial, w_rest, w_case⟩
end start1
theorem witness_1 : WitnessClaimed_1 := ⟨start1.p0, start1.e0, start1.about1, start1.theMethod, start1.args0, start1.below0, start1.atStart⟩
end Jvm.Pilot.@@N@@
