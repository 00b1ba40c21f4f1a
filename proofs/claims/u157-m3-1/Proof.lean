import JvmDerived
import JvmDerived.Pilot.@@N@@Statement
import JvmDerived.Pilot.@@N@@Code
set_option linter.unusedVariables false
set_option linter.unusedSimpArgs false
namespace Jvm.RoadKit
open Sem ClassFile Op Lib Jvm.Stand Jvm.Free Jvm.LawKit
section New
variable {p : Program} {l : Launch} {e : Env} {R : Room} {s : State} {m : MethodId} {args : Array Value} {below : List Frame} {meth : Method} {c : Code} {T : State} {locs : List Loc} {cells slots : Nat}
theorem own_retI (X : Stand p l e R s m args below meth c T locs cells slots) (hx : p.tables.exec = Jvm.exec) {pc : Nat} {Ls : Array Slot} {z : Int32} {rest : List Value} (hret : meth.sig.returnType = some .int) (hd : decode c.code pc = .ok (.ireturn, 1)) {fs : List Frame}
    (hl : ∀ (f : JFrame) (acts : List Action), f.method = m → f.locked = none → f.entered = [] → (doReturn e (T.setTop f) acts (some (.int z))).1 = T.setFrames fs) : Steps p.tables e below (T.setTop (mkF m pc Ls (.int z :: rest))) (T.setFrames fs) :=
  retOut X hx hret rfl (Or.inl ⟨rfl, Or.inl rfl, z, rfl⟩) hd hl
theorem own_start {S S0 : State} {P : State → Outcome → Prop} (pre : ∀ t, Steps p.tables e below S t → Steps p.tables e below S0 t)
    (k : ∀ G : State → Prop, (∀ {U U' : State}, (∀ t, Steps p.tables e below U' t → Steps p.tables e below U t) → G U' → G U) → (∀ U, (∃ s₂ o, Steps p.tables e below U s₂ ∧ P s₂ o) → G U) → G S) :
    ∃ s₂ o, Steps p.tables e below S0 s₂ ∧ P s₂ o := by
  obtain ⟨t, o, h1, h2⟩ := k (fun U => ∃ s₂ o, Steps p.tables e below U s₂ ∧ P s₂ o) (fun f ⟨t, o, h1, h2⟩ => ⟨t, o, f t h1, h2⟩) (fun _ h => h)
  exact ⟨t, o, pre t h1, h2⟩
theorem own_lsw {g : JFrame} {target : State} (X : Stand p l e R s m args below meth c T locs cells slots) (hx : p.tables.exec = Jvm.exec) (hg : g.method = m) {dflt : Int} {ps : Array (Int × Int)} {len : Nat} {pc0 pc' : Nat} (hpc : g.pc = pc0) (hd : decode c.code g.pc = .ok (.lookupswitch dflt ps, len)) {i : Int32} {rest : List Value} (hs : g.stack = .int i :: rest)
    (hsort : (ps.toList.zip ps.toList.tail).all (fun q => decide (q.1.1 < q.2.1)) = true) {o : Int} (hoff : lookupswitch.offset ps.toList dflt i.toInt = o) (ho : 0 ≤ (pc0 : Int) + o) (hp : ((pc0 : Int) + o).toNat = pc') (hr : Steps p.tables e below (T.setTop { g with pc := pc', stack := rest }) target) : Steps p.tables e below (T.setTop g) target := by
  subst hg hpc hp hoff
  jvm_step X.here [X.here.top, hx, hd, hs, ho, lookupswitch.wp_chain]
  exact ⟨fun a b a1 b1 hm => by simpa using List.all_eq_true.mp hsort _ hm, hr⟩
theorem own_lt {a b : Int32} (h : a < b) : a.toInt < b.toInt := Int32.lt_iff_toInt_lt.mp h
theorem own_nlt {a b : Int32} (h : ¬ a < b) : b.toInt ≤ a.toInt := Int.not_lt.mp fun q => h (Int32.lt_iff_toInt_lt.mpr q)
theorem own_miss {a o : Int} {r : List (Int × Int)} {d k : Int} (h : a ≠ k) : lookupswitch.offset ((a, o) :: r) d k = lookupswitch.offset r d k := by rw [lookupswitch.offset_cons, if_neg h]
theorem own_nek {x K : Int32} {k : Int} (h : ¬ x = K) (e : K.toInt = k) : k ≠ x.toInt := fun q => h (Int32.toInt_inj.mp (q.symm.trans e.symm))
theorem own_sta_keep {Z : State} {h h' : Heap} {C n d : String} {v : Value} (F : Sta Z h C n d v) (K : Keep h h' []) : Sta Z h' C n d v := by
  obtain ⟨cf, i, k, f, st, cell, h1, h2, h3, h4, h5, r⟩ := F; exact ⟨cf, i, k, f, st, cell, h1, h2, h3, h4, K.2.1 _ _ h5 nin0, r⟩
theorem own_sta_keepE {Z : State} {h h' : Heap} {C n d D : String} {v : Value} {a : Addr} (F : Sta Z h C n d v) (K : Keep h h' [a]) (E : Exa Z h a D) : Sta Z h' C n d v := by
  obtain ⟨cf, i, k, f, st, cell, h1, h2, h3, h4, h5, h6, r⟩ := F
  obtain ⟨c2, k2, q1, -, -, q4, -⟩ := E
  refine ⟨cf, i, k, f, st, cell, h1, h2, h3, h4, K.2.1 _ _ h5 (ninS (fun z => ?_) nin0), h6, r⟩
  subst z; cases q1.symm.trans h5; rw [q4] at h6; cases h6
theorem own_arvset {Z : State} {h h' : Heap} {a : Addr} {c : Cell} {ty : FieldType} {k : ClassId} {z j : Int32} {vs : List Value} {dv v : Value} {N : Nat} (A : Arr Z h a c ty) (q1 : c.cls = k) (S : c.slots.size = z.toNatClampNeg) (q3 : ¬ z < 0) (H : Has c vs dv) (F : ∀ i, i < c.slots.size → fits ty (vs.getD i dv) = true) (hv : fits ty v = true) (W : Wr h h' a j.toNatClampNeg v) (i : Nat) (hj : j.toNatClampNeg = i) (hl : vs.length = N) (hi : i < N) :
    ∃ vs', vs'.length = N ∧ Arv Z h' a k ty z vs' dv := ⟨_, by rw [List.length_set]; exact hl, Arv.set A q1 S q3 H F hv W i hj (by rw [hl]; exact hi)⟩
end New
end Jvm.RoadKit
namespace Jvm.Pilot.@@N@@
open Jvm Jvm.ClassFile Sem Op Lib Jvm.Free Jvm.Stand Jvm.LawKit Jvm.RoadKit Bundle Jvm.Pilot.@@N@@.Jvm.D
theorem own_chr {x v : Int32} (h : v = (x &&& (255 : Int32)).toUInt32.toUInt16.toUInt32.toInt32) : 0 ≤ v.toInt ∧ v.toInt ≤ 255 := by
  rw [i2c_mask] at h
  subst h
  have h1 := c_and x 255 (by decide)
  have e : (255 : Int32).toInt = 255 := by decide
  omega
theorem own_n255 {v : Int32} (h : 0 ≤ v.toInt ∧ v.toInt ≤ 255) : ¬ (255 : Int32) < v := by
  have e : (255 : Int32).toInt = 255 := by decide
  rw [Int32.lt_iff_toInt_lt]; omega
theorem own_nar {v : Int32} (h : 0 ≤ v.toInt ∧ v.toInt ≤ 255) : ¬ (255 : Int32) < nar .char v := by
  have e : (255 : Int32).toInt = 255 := by decide
  have q := c_i2c v
  rw [Int32.lt_iff_toInt_lt]
  show ¬ (255 : Int32).toInt < (v.toUInt32.toUInt16.toUInt32.toInt32).toInt
  omega
def own_EL : List (String × Nat) := [("java/lang/String", 7)]
theorem own_ELw {Z : State} {a0 : Array Value} (hw : ∀ d ∈ tables_1, d.before a0 Z = true) : EW Z a0 own_EL := EW.cons (text := "") (hw _ (List.mem_of_getElem? (i := 19) rfl)) (by simp) EW.nil
theorem own_wS {Z : State} {a0 : Array Value} (hw : ∀ d ∈ tables_1, d.before a0 Z = true) : ∀ d ∈ Bundle.stringAtoms, d.before a0 Z = true := by
  intro d hd
  simp only [Bundle.stringAtoms, List.mem_cons, List.not_mem_nil, or_false] at hd
  rcases hd with rfl | rfl | rfl | rfl | rfl | rfl | rfl
  · exact (hw _ (List.mem_of_getElem? (i := 7) rfl))
  · exact (hw _ (List.mem_of_getElem? (i := 6) rfl))
  · exact (hw _ (List.mem_of_getElem? (i := 20) rfl))
  · exact (hw _ (List.mem_of_getElem? (i := 21) rfl))
  · exact (hw _ (List.mem_of_getElem? (i := 22) rfl))
  · exact (hw _ (List.mem_of_getElem? (i := 23) rfl))
  · exact (hw _ (List.mem_of_getElem? (i := 24) rfl))
theorem own_safe {Z : State} {h : Heap} {vm : Vm} {x : Addr} (hal : Z.vm.Alike vm) (E : Exa Z h x "java/lang/String") (F : Fld Z h x "java/lang/String" "value" "[B" .null) : Safe Z own_EL vm h x := fun B => by
  obtain ⟨p, -, u, a, -, q, -, S, hy⟩ := B
  obtain ⟨cell, k, e1, e2, -, -, -⟩ := E
  obtain ⟨cell', cf, k', i, f, f1, f2, -, -, -, -, f3⟩ := F
  obtain ⟨cS, ⟨⟨s1, -, -, ⟨cv, kv, iv, s4, -⟩, -, -, -, s8, -, s10, -⟩, -, -⟩, -, hB, -⟩ := S
  cases e1.symm.trans f1
  rcases hy with rfl | rfl
  · obtain ⟨kv', z4⟩ := ff_back (U := Wst Z vm h) hal s4
    cases f2.symm.trans z4
    cases (show h[q.sa]? = some q.sC from s1).symm.trans e1
    rw [s8] at f3
    cases f3
  · cases (show h[q.sd]? = some q.SA from s10).symm.trans e1
    have hB' : Z.vm.findClass "[B" = some q.SA.cls := by rw [← hal.findClass]; exact hB
    exact ids_ne e2 hB' (by decide) rfl
def own_Str (Z : State) (h : Heap) (b : Addr) (n : Int32) : Prop := ∃ (t : Addr) (k : ClassId) (vs : List Value), Exa Z h b "java/lang/String" ∧ Fld Z h b "java/lang/String" "value" "[B" (.ref t) ∧ Fld Z h b "java/lang/String" "coder" "B" (.int (0 : Int32)) ∧ Arv Z h t k .byte n vs (.int (0 : Int32))
theorem own_str_ext {Z : State} {h h' : Heap} {b : Addr} {x : Int32} (F : own_Str Z h b x) (E : Ext h h') : own_Str Z h' b x := by
  obtain ⟨t, k, vs, a1, a2, a3, a4⟩ := F; exact ⟨t, k, vs, a1.ext E, a2.ext E, a3.ext E, a4.ext E⟩
theorem own_str_keep {Z : State} {h h' : Heap} {b : Addr} {x : Int32} (F : own_Str Z h b x) (K : Keep h h' []) : own_Str Z h' b x := by
  obtain ⟨t, k, vs, a1, a2, a3, a4⟩ := F; exact ⟨t, k, vs, a1.keep K, a2.keep K nin0, a3.keep K nin0, a4.keep K nin0⟩
theorem own_str_keepE {Z : State} {h h' : Heap} {b j : Addr} {x : Int32} {J : String} {a0 : Array Value} {n : Nat} (F : own_Str Z h b x) (K : Keep h h' [j]) (E : Exa Z h j J) (hn : "java/lang/String" ≠ J) (wi : (Jvm.Cond.instantiable J n).before a0 Z = true) : own_Str Z h' b x := by
  obtain ⟨t, k, vs, a1, a2, a3, a4⟩ := F
  have n1 := ne_exa a1 E hn
  obtain ⟨c, A, r⟩ := a4
  have n2 := (ne_arr E wi A).symm
  exact ⟨t, k, vs, a1.keep K, a2.keep K (ninS n1 nin0), a3.keep K (ninS n1 nin0), Arv.keep ⟨c, A, r⟩ K (ninS n2 nin0)⟩
def own_len (p : Int32) : Int32 := (p &&& (2147483647 : Int32)) % (3 : Int32)
theorem own_len_cases (p : Int32) : own_len p = 0 ∨ own_len p = 1 ∨ own_len p = 2 := by
  have h1 := c_and p 2147483647 (by decide)
  have h2 := (c_irem (p &&& 2147483647) 3 3 (by decide)).1 h1.1
  have hc : (own_len p).toInt = 0 ∨ (own_len p).toInt = 1 ∨ (own_len p).toInt = 2 := by
    unfold own_len; rw [h2]; omega
  rcases hc with e | e | e
  · exact Or.inl (Int32.toInt_inj.mp e)
  · exact Or.inr (Or.inl (Int32.toInt_inj.mp e))
  · exact Or.inr (Or.inr (Int32.toInt_inj.mp e))
theorem own_shr (x : Int32) : (0 : Int32) >>> x = 0 := by
  apply Int32.toBitVec_inj.mp
  simp
theorem d6_0 : decode jdk_52_method_21_code 0 = .ok (.iconst 0, 1) := by decide +kernel
theorem d6_1 : decode jdk_52_method_21_code 1 = .ok (.istore 5, 2) := by decide +kernel
theorem d6_3 : decode jdk_52_method_21_code 3 = .ok (.iload 5, 2) := by decide +kernel
theorem d6_5 : decode jdk_52_method_21_code 5 = .ok (.iload 4, 2) := by decide +kernel
theorem d6_7 : decode jdk_52_method_21_code 7 = .ok (.if_icmp .ge 37, 3) := by decide +kernel
theorem d6_10 : decode jdk_52_method_21_code 10 = .ok (.aload_n 0, 1) := by decide +kernel
theorem d6_11 : decode jdk_52_method_21_code 11 = .ok (.iload_n 1, 1) := by decide +kernel
theorem d6_12 : decode jdk_52_method_21_code 12 = .ok (.caload, 1) := by decide +kernel
theorem d6_13 : decode jdk_52_method_21_code 13 = .ok (.istore 6, 2) := by decide +kernel
theorem d6_15 : decode jdk_52_method_21_code 15 = .ok (.iload 6, 2) := by decide +kernel
theorem d6_17 : decode jdk_52_method_21_code 17 = .ok (.sipush 255, 3) := by decide +kernel
theorem d6_20 : decode jdk_52_method_21_code 20 = .ok (.if_icmp .le 6, 3) := by decide +kernel
theorem d6_26 : decode jdk_52_method_21_code 26 = .ok (.aload_n 2, 1) := by decide +kernel
theorem d6_27 : decode jdk_52_method_21_code 27 = .ok (.iload_n 3, 1) := by decide +kernel
theorem d6_28 : decode jdk_52_method_21_code 28 = .ok (.iload 6, 2) := by decide +kernel
theorem d6_30 : decode jdk_52_method_21_code 30 = .ok (.i2b, 1) := by decide +kernel
theorem d6_31 : decode jdk_52_method_21_code 31 = .ok (.bastore, 1) := by decide +kernel
theorem d6_32 : decode jdk_52_method_21_code 32 = .ok (.iinc 1 1, 3) := by decide +kernel
theorem d6_35 : decode jdk_52_method_21_code 35 = .ok (.iinc 3 1, 3) := by decide +kernel
theorem d6_38 : decode jdk_52_method_21_code 38 = .ok (.iinc 5 1, 3) := by decide +kernel
theorem d6_41 : decode jdk_52_method_21_code 41 = .ok (.goto (-38), 3) := by decide +kernel
theorem d6_44 : decode jdk_52_method_21_code 44 = .ok (.iload 4, 2) := by decide +kernel
theorem d6_46 : decode jdk_52_method_21_code 46 = .ok (.ireturn, 1) := by decide +kernel
theorem pn_java_lang_StringUTF16 : plainName "java/lang/StringUTF16" = true := by first | (simp [plainName, overriddenIn]; done) | decide +kernel
theorem ef_6 (m : MethodId) (a0_ : Addr) (a2_ : Addr) : entryFrame m #[(.ref a0_), (.int (0 : Int32)), (.ref a2_), (.int (0 : Int32)), (.int (2 : Int32))] 7 = mkF m 0 #[.val (.ref a0_), .val (.int (0 : Int32)), .val (.ref a2_), .val (.int (0 : Int32)), .val (.int (2 : Int32)), .unset, .unset] [] := by first | (simp [entryFrame, mkF, argsToLocals, Value.category]; done) | rfl
def Q6 (Z : State) (a2_ : Addr) (h0 : Heap) (n0 : Nat) (v : Option Value) (h : Heap) (L : List Loc) : Prop := v = some (.int (2 : Int32)) ∧ Fr n0 L ∧ Keep h0 h [a2_] ∧ ∃ (k : ClassId) (vs : List Value), Arv Z h a2_ k .byte (2 : Int32) vs (.int (0 : Int32))
set_option maxRecDepth 65536 in
set_option maxHeartbeats 40000000 in
theorem rm6 (l : Launch) (Z : State) (a0 : Array Value) (hw : ∀ d ∈ tables_1, d.before a0 Z = true) (ws : List Jvm.Cond) (a0_ : Addr) (a2_ : Addr) (x y : Int32) (kq1 : ClassId) (kq2 : ClassId) (h0 : Heap) (n0 : Nat) (Z0 : n0 ≤ h0.size) (V1 : Arv Z h0 a0_ kq1 .char (2 : Int32) [.int x, .int y] (.int (0 : Int32))) (rx : ¬ (255 : Int32) < x) (ry : ¬ (255 : Int32) < y) (V2 : Arv Z h0 a2_ kq2 .byte (2 : Int32) [.int (0 : Int32), .int (0 : Int32)] (.int (0 : Int32))) (ne : a0_ ≠ a2_) (g_a2_ : n0 ≤ a2_) :
    MetFree l (⟨"java/lang/StringUTF16", "compress", "([CI[BII)I"⟩ : MethodName) (head1 (Jvm.Cond.code (⟨"java/lang/StringUTF16", "compress", "([CI[BII)I"⟩ : MethodName) jdk_52_method_21_code 7 (some .int) :: ws) ({ frames := 0, cells := 0, slots := 0, locals := 0 } : Room)) (fun a U => a = #[(.ref a0_), (.int (0 : Int32)), (.ref a2_), (.int (0 : Int32)), (.int (2 : Int32))] ∧ Z.Warmed39 U.vm ∧ U.heap = h0) (fun _ _ _ _ _ => True) (fun _ U o U' => ∃ v L, o = .returned v ∧ Q6 Z a2_ h0 n0 v U'.heap L ∧ FrameEnd U o U' L ({ frames := 0, cells := 0, slots := 0, locals := 0 } : Room).cells ({ frames := 0, cells := 0, slots := 0, locals := 0 } : Room).slots) := by
  refine MetFree.of_bodySF (plainFor_of_name pn_java_lang_StringUTF16) hisR ?_
  intro p e s m args below meth c s₁ Bd hml0 hP hK
  obtain ⟨rfl, hZ, hh⟩ := hP
  have hx := Bd.exec
  have hby := Bd.bytes
  have hml : c.maxLocals = 7 := hml0
  have hown : s.vm.findClass "java/lang/StringUTF16" = some m.cls := findClass_of_methodNamed Bd.named
  have hnm := (name_of_methodNamed Bd.named Bd.method).1
  have X0 : Stand p l e ({ frames := 0, cells := 0, slots := 0, locals := 0 } : Room) s m #[(.ref a0_), (.int (0 : Int32)), (.ref a2_), (.int (0 : Int32)), (.int (2 : Int32))] below meth c s₁ [] 0 0 := Stand.of_body Bd
  have e0 : s₁.heap = h0 := by rw [← hh, Bd.state]; rfl
  have N0 := Fr.nil n0
  have pre0 : ∀ t, Steps p.tables e below (s₁.setTop (mkF m 0 #[.val (.ref a0_), .val (.int (0 : Int32)), .val (.ref a2_), .val (.int (0 : Int32)), .val (.int (2 : Int32)), .unset, .unset] [])) t → Steps p.tables e below (s₁.setTop (entryFrame m #[(.ref a0_), (.int (0 : Int32)), (.ref a2_), (.int (0 : Int32)), (.int (2 : Int32))] 7)) t := fun t k => castTop (ef_6 m a0_ a2_) k
  have K0 := Keep.refl h0 [a2_]
  refine own_start pre0 fun G gs gl => ?_
  show G (s₁.setTop (mkF m 0 #[.val (.ref a0_), .val (.int (0 : Int32)), .val (.ref a2_), .val (.int (0 : Int32)), .val (.int (2 : Int32)), .unset, .unset] []))
  refine gs (fun t k => XS.iconst X0.here hx rfl (hb hby d6_0) k) ?_
  show G (s₁.setTop (mkF m 1 #[.val (.ref a0_), .val (.int (0 : Int32)), .val (.ref a2_), .val (.int (0 : Int32)), .val (.int (2 : Int32)), .unset, .unset] [(.int (0 : Int32))]))
  refine gs (fun t k => XS.istore X0.here hx rfl (hb hby d6_1) rfl (l' := #[.val (.ref a0_), .val (.int (0 : Int32)), .val (.ref a2_), .val (.int (0 : Int32)), .val (.int (2 : Int32)), .val (.int (0 : Int32)), .unset]) rfl k) ?_
  show G (s₁.setTop (mkF m 3 #[.val (.ref a0_), .val (.int (0 : Int32)), .val (.ref a2_), .val (.int (0 : Int32)), .val (.int (2 : Int32)), .val (.int (0 : Int32)), .unset] []))
  refine gs (fun t k => XS.iload X0.here hx rfl (hb hby d6_3) rfl k) ?_
  show G (s₁.setTop (mkF m 5 #[.val (.ref a0_), .val (.int (0 : Int32)), .val (.ref a2_), .val (.int (0 : Int32)), .val (.int (2 : Int32)), .val (.int (0 : Int32)), .unset] [(.int (0 : Int32))]))
  refine gs (fun t k => XS.iload X0.here hx rfl (hb hby d6_5) rfl k) ?_
  show G (s₁.setTop (mkF m 7 #[.val (.ref a0_), .val (.int (0 : Int32)), .val (.ref a2_), .val (.int (0 : Int32)), .val (.int (2 : Int32)), .val (.int (0 : Int32)), .unset] [(.int (2 : Int32)), (.int (0 : Int32))]))
  refine gs (fun t k => XS.icmpNo X0.here hx rfl (hb hby d6_7) rfl (tlt (by decide : (0 : Int32) < (2 : Int32))).2.1 k) ?_
  show G (s₁.setTop (mkF m 10 #[.val (.ref a0_), .val (.int (0 : Int32)), .val (.ref a2_), .val (.int (0 : Int32)), .val (.int (2 : Int32)), .val (.int (0 : Int32)), .unset] []))
  refine gs (fun t k => XS.aloadN X0.here hx rfl (hb hby d6_10) rfl rfl k) ?_
  show G (s₁.setTop (mkF m 11 #[.val (.ref a0_), .val (.int (0 : Int32)), .val (.ref a2_), .val (.int (0 : Int32)), .val (.int (2 : Int32)), .val (.int (0 : Int32)), .unset] [(.ref a0_)]))
  refine gs (fun t k => XS.iloadN X0.here hx rfl (hb hby d6_11) rfl k) ?_
  show G (s₁.setTop (mkF m 12 #[.val (.ref a0_), .val (.int (0 : Int32)), .val (.ref a2_), .val (.int (0 : Int32)), .val (.int (2 : Int32)), .val (.int (0 : Int32)), .unset] [(.int (0 : Int32)), (.ref a0_)]))
  obtain ⟨lc1, lA1, -, lS1, lN1, lH1, -⟩ := id V1
  have lin1 : ¬ ((0 : Int32) < 0 ∨ lc1.slots.size ≤ ((0 : Int32)).toNatClampNeg) := inb_of lS1 ⟨by decide, by decide⟩
  have lat1 : lc1.slots[((0 : Int32)).toNatClampNeg]? = some (.int x) := lH1 0 (by rw [lS1]; decide)
  refine gs (fun t k => X0.caload hx (j := (0 : Int32)) (v := (.int x)) (by rw [e0]; exact lA1.1) (State.isArrayOf_alike hZ.alike lA1.2.1) lA1.2.2 lin1 lat1 (g := (mkF m 12 #[.val (.ref a0_), .val (.int (0 : Int32)), .val (.ref a2_), .val (.int (0 : Int32)), .val (.int (2 : Int32)), .val (.int (0 : Int32)), .unset] [(.int (0 : Int32)), (.ref a0_)])) rfl rfl (hb hby d6_12) _ k) ?_
  show G (s₁.setTop (mkF m 13 #[.val (.ref a0_), .val (.int (0 : Int32)), .val (.ref a2_), .val (.int (0 : Int32)), .val (.int (2 : Int32)), .val (.int (0 : Int32)), .unset] [(.int x)]))
  refine gs (fun t k => XS.istore X0.here hx rfl (hb hby d6_13) rfl (l' := #[.val (.ref a0_), .val (.int (0 : Int32)), .val (.ref a2_), .val (.int (0 : Int32)), .val (.int (2 : Int32)), .val (.int (0 : Int32)), .val (.int x)]) rfl k) ?_
  show G (s₁.setTop (mkF m 15 #[.val (.ref a0_), .val (.int (0 : Int32)), .val (.ref a2_), .val (.int (0 : Int32)), .val (.int (2 : Int32)), .val (.int (0 : Int32)), .val (.int x)] []))
  refine gs (fun t k => XS.iload X0.here hx rfl (hb hby d6_15) rfl k) ?_
  show G (s₁.setTop (mkF m 17 #[.val (.ref a0_), .val (.int (0 : Int32)), .val (.ref a2_), .val (.int (0 : Int32)), .val (.int (2 : Int32)), .val (.int (0 : Int32)), .val (.int x)] [(.int x)]))
  refine gs (fun t k => XS.sipush X0.here hx rfl (hb hby d6_17) k) ?_
  show G (s₁.setTop (mkF m 20 #[.val (.ref a0_), .val (.int (0 : Int32)), .val (.ref a2_), .val (.int (0 : Int32)), .val (.int (2 : Int32)), .val (.int (0 : Int32)), .val (.int x)] [(.int (255 : Int32)), (.int x)]))
  refine gs (fun t k => XS.icmpYes X0.here hx rfl (pc0 := 20) (pc' := 26) rfl (hb hby d6_20) rfl (flt rx).2.2.2 (by decide) (by decide) k) ?_
  show G (s₁.setTop (mkF m 26 #[.val (.ref a0_), .val (.int (0 : Int32)), .val (.ref a2_), .val (.int (0 : Int32)), .val (.int (2 : Int32)), .val (.int (0 : Int32)), .val (.int x)] []))
  refine gs (fun t k => XS.aloadN X0.here hx rfl (hb hby d6_26) rfl rfl k) ?_
  show G (s₁.setTop (mkF m 27 #[.val (.ref a0_), .val (.int (0 : Int32)), .val (.ref a2_), .val (.int (0 : Int32)), .val (.int (2 : Int32)), .val (.int (0 : Int32)), .val (.int x)] [(.ref a2_)]))
  refine gs (fun t k => XS.iloadN X0.here hx rfl (hb hby d6_27) rfl k) ?_
  show G (s₁.setTop (mkF m 28 #[.val (.ref a0_), .val (.int (0 : Int32)), .val (.ref a2_), .val (.int (0 : Int32)), .val (.int (2 : Int32)), .val (.int (0 : Int32)), .val (.int x)] [(.int (0 : Int32)), (.ref a2_)]))
  refine gs (fun t k => XS.iload X0.here hx rfl (hb hby d6_28) rfl k) ?_
  show G (s₁.setTop (mkF m 30 #[.val (.ref a0_), .val (.int (0 : Int32)), .val (.ref a2_), .val (.int (0 : Int32)), .val (.int (2 : Int32)), .val (.int (0 : Int32)), .val (.int x)] [(.int x), (.int (0 : Int32)), (.ref a2_)]))
  refine gs (fun t k => XS.i2b X0.here hx rfl (hb hby d6_30) rfl k) ?_
  show G (s₁.setTop (mkF m 31 #[.val (.ref a0_), .val (.int (0 : Int32)), .val (.ref a2_), .val (.int (0 : Int32)), .val (.int (2 : Int32)), .val (.int (0 : Int32)), .val (.int x)] [(.int (x.toInt8.toInt32)), (.int (0 : Int32)), (.ref a2_)]))
  obtain ⟨vc2, vA2, vq2, vS2, vN2, vH2, vG2⟩ := V2
  have hin2 : ¬ ((0 : Int32) < 0 ∨ vc2.slots.size ≤ ((0 : Int32)).toNatClampNeg) := inb_of vS2 ⟨by decide, by decide⟩
  obtain ⟨T2, h2, X2, e2, W2, st2⟩ := stB X0 hx hZ e0 vA2 (j := (0 : Int32)) hin2 (g := (mkF m 31 #[.val (.ref a0_), .val (.int (0 : Int32)), .val (.ref a2_), .val (.int (0 : Int32)), .val (.int (2 : Int32)), .val (.int (0 : Int32)), .val (.int x)] [(.int (x.toInt8.toInt32)), (.int (0 : Int32)), (.ref a2_)])) rfl rfl (hb hby d6_31)
  have V1_q3 := V1.other W2 ne
  have K4 := K0.wr W2 (Or.inl (List.mem_of_getElem? (i := 0) rfl))
  have V_a2__q2 := Arv.set vA2 vq2 vS2 vN2 vH2 vG2 (fits_nar_byte _) W2 0 rfl (Nat.le_of_ble_eq_true rfl)
  have N2 := Fr.snoc X2 N0 g_a2_
  refine gs (fun t k => st2 _ k) ?_
  show G (T2.setTop (mkF m 32 #[.val (.ref a0_), .val (.int (0 : Int32)), .val (.ref a2_), .val (.int (0 : Int32)), .val (.int (2 : Int32)), .val (.int (0 : Int32)), .val (.int x)] []))
  refine gs (fun t k => XS.iinc X2.here hx rfl (hb hby d6_32) rfl (l' := #[.val (.ref a0_), .val (.int (1 : Int32)), .val (.ref a2_), .val (.int (0 : Int32)), .val (.int (2 : Int32)), .val (.int (0 : Int32)), .val (.int x)]) rfl k) ?_
  show G (T2.setTop (mkF m 35 #[.val (.ref a0_), .val (.int (1 : Int32)), .val (.ref a2_), .val (.int (0 : Int32)), .val (.int (2 : Int32)), .val (.int (0 : Int32)), .val (.int x)] []))
  refine gs (fun t k => XS.iinc X2.here hx rfl (hb hby d6_35) rfl (l' := #[.val (.ref a0_), .val (.int (1 : Int32)), .val (.ref a2_), .val (.int (1 : Int32)), .val (.int (2 : Int32)), .val (.int (0 : Int32)), .val (.int x)]) rfl k) ?_
  show G (T2.setTop (mkF m 38 #[.val (.ref a0_), .val (.int (1 : Int32)), .val (.ref a2_), .val (.int (1 : Int32)), .val (.int (2 : Int32)), .val (.int (0 : Int32)), .val (.int x)] []))
  refine gs (fun t k => XS.iinc X2.here hx rfl (hb hby d6_38) rfl (l' := #[.val (.ref a0_), .val (.int (1 : Int32)), .val (.ref a2_), .val (.int (1 : Int32)), .val (.int (2 : Int32)), .val (.int (1 : Int32)), .val (.int x)]) rfl k) ?_
  show G (T2.setTop (mkF m 41 #[.val (.ref a0_), .val (.int (1 : Int32)), .val (.ref a2_), .val (.int (1 : Int32)), .val (.int (2 : Int32)), .val (.int (1 : Int32)), .val (.int x)] []))
  refine gs (fun t k => XS.goto X2.here hx rfl (pc0 := 41) (pc' := 3) rfl (hb hby d6_41) (by decide) (by decide) k) ?_
  show G (T2.setTop (mkF m 3 #[.val (.ref a0_), .val (.int (1 : Int32)), .val (.ref a2_), .val (.int (1 : Int32)), .val (.int (2 : Int32)), .val (.int (1 : Int32)), .val (.int x)] []))
  refine gs (fun t k => XS.iload X2.here hx rfl (hb hby d6_3) rfl k) ?_
  show G (T2.setTop (mkF m 5 #[.val (.ref a0_), .val (.int (1 : Int32)), .val (.ref a2_), .val (.int (1 : Int32)), .val (.int (2 : Int32)), .val (.int (1 : Int32)), .val (.int x)] [(.int (1 : Int32))]))
  refine gs (fun t k => XS.iload X2.here hx rfl (hb hby d6_5) rfl k) ?_
  show G (T2.setTop (mkF m 7 #[.val (.ref a0_), .val (.int (1 : Int32)), .val (.ref a2_), .val (.int (1 : Int32)), .val (.int (2 : Int32)), .val (.int (1 : Int32)), .val (.int x)] [(.int (2 : Int32)), (.int (1 : Int32))]))
  refine gs (fun t k => XS.icmpNo X2.here hx rfl (hb hby d6_7) rfl (tlt (by decide : (1 : Int32) < (2 : Int32))).2.1 k) ?_
  show G (T2.setTop (mkF m 10 #[.val (.ref a0_), .val (.int (1 : Int32)), .val (.ref a2_), .val (.int (1 : Int32)), .val (.int (2 : Int32)), .val (.int (1 : Int32)), .val (.int x)] []))
  refine gs (fun t k => XS.aloadN X2.here hx rfl (hb hby d6_10) rfl rfl k) ?_
  show G (T2.setTop (mkF m 11 #[.val (.ref a0_), .val (.int (1 : Int32)), .val (.ref a2_), .val (.int (1 : Int32)), .val (.int (2 : Int32)), .val (.int (1 : Int32)), .val (.int x)] [(.ref a0_)]))
  refine gs (fun t k => XS.iloadN X2.here hx rfl (hb hby d6_11) rfl k) ?_
  show G (T2.setTop (mkF m 12 #[.val (.ref a0_), .val (.int (1 : Int32)), .val (.ref a2_), .val (.int (1 : Int32)), .val (.int (2 : Int32)), .val (.int (1 : Int32)), .val (.int x)] [(.int (1 : Int32)), (.ref a0_)]))
  obtain ⟨lc5, lA5, -, lS5, lN5, lH5, -⟩ := id V1_q3
  have lin5 : ¬ ((1 : Int32) < 0 ∨ lc5.slots.size ≤ ((1 : Int32)).toNatClampNeg) := inb_of lS5 ⟨by decide, by decide⟩
  have lat5 : lc5.slots[((1 : Int32)).toNatClampNeg]? = some (.int y) := lH5 1 (by rw [lS5]; decide)
  refine gs (fun t k => X2.caload hx (j := (1 : Int32)) (v := (.int y)) (by rw [e2]; exact lA5.1) (State.isArrayOf_alike hZ.alike lA5.2.1) lA5.2.2 lin5 lat5 (g := (mkF m 12 #[.val (.ref a0_), .val (.int (1 : Int32)), .val (.ref a2_), .val (.int (1 : Int32)), .val (.int (2 : Int32)), .val (.int (1 : Int32)), .val (.int x)] [(.int (1 : Int32)), (.ref a0_)])) rfl rfl (hb hby d6_12) _ k) ?_
  show G (T2.setTop (mkF m 13 #[.val (.ref a0_), .val (.int (1 : Int32)), .val (.ref a2_), .val (.int (1 : Int32)), .val (.int (2 : Int32)), .val (.int (1 : Int32)), .val (.int x)] [(.int y)]))
  refine gs (fun t k => XS.istore X2.here hx rfl (hb hby d6_13) rfl (l' := #[.val (.ref a0_), .val (.int (1 : Int32)), .val (.ref a2_), .val (.int (1 : Int32)), .val (.int (2 : Int32)), .val (.int (1 : Int32)), .val (.int y)]) rfl k) ?_
  show G (T2.setTop (mkF m 15 #[.val (.ref a0_), .val (.int (1 : Int32)), .val (.ref a2_), .val (.int (1 : Int32)), .val (.int (2 : Int32)), .val (.int (1 : Int32)), .val (.int y)] []))
  refine gs (fun t k => XS.iload X2.here hx rfl (hb hby d6_15) rfl k) ?_
  show G (T2.setTop (mkF m 17 #[.val (.ref a0_), .val (.int (1 : Int32)), .val (.ref a2_), .val (.int (1 : Int32)), .val (.int (2 : Int32)), .val (.int (1 : Int32)), .val (.int y)] [(.int y)]))
  refine gs (fun t k => XS.sipush X2.here hx rfl (hb hby d6_17) k) ?_
  show G (T2.setTop (mkF m 20 #[.val (.ref a0_), .val (.int (1 : Int32)), .val (.ref a2_), .val (.int (1 : Int32)), .val (.int (2 : Int32)), .val (.int (1 : Int32)), .val (.int y)] [(.int (255 : Int32)), (.int y)]))
  refine gs (fun t k => XS.icmpYes X2.here hx rfl (pc0 := 20) (pc' := 26) rfl (hb hby d6_20) rfl (flt ry).2.2.2 (by decide) (by decide) k) ?_
  show G (T2.setTop (mkF m 26 #[.val (.ref a0_), .val (.int (1 : Int32)), .val (.ref a2_), .val (.int (1 : Int32)), .val (.int (2 : Int32)), .val (.int (1 : Int32)), .val (.int y)] []))
  refine gs (fun t k => XS.aloadN X2.here hx rfl (hb hby d6_26) rfl rfl k) ?_
  show G (T2.setTop (mkF m 27 #[.val (.ref a0_), .val (.int (1 : Int32)), .val (.ref a2_), .val (.int (1 : Int32)), .val (.int (2 : Int32)), .val (.int (1 : Int32)), .val (.int y)] [(.ref a2_)]))
  refine gs (fun t k => XS.iloadN X2.here hx rfl (hb hby d6_27) rfl k) ?_
  show G (T2.setTop (mkF m 28 #[.val (.ref a0_), .val (.int (1 : Int32)), .val (.ref a2_), .val (.int (1 : Int32)), .val (.int (2 : Int32)), .val (.int (1 : Int32)), .val (.int y)] [(.int (1 : Int32)), (.ref a2_)]))
  refine gs (fun t k => XS.iload X2.here hx rfl (hb hby d6_28) rfl k) ?_
  show G (T2.setTop (mkF m 30 #[.val (.ref a0_), .val (.int (1 : Int32)), .val (.ref a2_), .val (.int (1 : Int32)), .val (.int (2 : Int32)), .val (.int (1 : Int32)), .val (.int y)] [(.int y), (.int (1 : Int32)), (.ref a2_)]))
  refine gs (fun t k => XS.i2b X2.here hx rfl (hb hby d6_30) rfl k) ?_
  show G (T2.setTop (mkF m 31 #[.val (.ref a0_), .val (.int (1 : Int32)), .val (.ref a2_), .val (.int (1 : Int32)), .val (.int (2 : Int32)), .val (.int (1 : Int32)), .val (.int y)] [(.int (y.toInt8.toInt32)), (.int (1 : Int32)), (.ref a2_)]))
  obtain ⟨vc6, vA6, vq6, vS6, vN6, vH6, vG6⟩ := V_a2__q2
  have hin6 : ¬ ((1 : Int32) < 0 ∨ vc6.slots.size ≤ ((1 : Int32)).toNatClampNeg) := inb_of vS6 ⟨by decide, by decide⟩
  obtain ⟨T6, h6, X6, e6, W6, st6⟩ := stB X2 hx hZ e2 vA6 (j := (1 : Int32)) hin6 (g := (mkF m 31 #[.val (.ref a0_), .val (.int (1 : Int32)), .val (.ref a2_), .val (.int (1 : Int32)), .val (.int (2 : Int32)), .val (.int (1 : Int32)), .val (.int y)] [(.int (y.toInt8.toInt32)), (.int (1 : Int32)), (.ref a2_)])) rfl rfl (hb hby d6_31)
  have V1_q7 := V1_q3.other W6 ne
  have K8 := K4.wr W6 (Or.inl (List.mem_of_getElem? (i := 0) rfl))
  have V_a2__q6 := Arv.set vA6 vq6 vS6 vN6 vH6 vG6 (fits_nar_byte _) W6 1 rfl (Nat.le_of_ble_eq_true rfl)
  have N6 := Fr.snoc X6 N2 g_a2_
  refine gs (fun t k => st6 _ k) ?_
  show G (T6.setTop (mkF m 32 #[.val (.ref a0_), .val (.int (1 : Int32)), .val (.ref a2_), .val (.int (1 : Int32)), .val (.int (2 : Int32)), .val (.int (1 : Int32)), .val (.int y)] []))
  refine gs (fun t k => XS.iinc X6.here hx rfl (hb hby d6_32) rfl (l' := #[.val (.ref a0_), .val (.int (2 : Int32)), .val (.ref a2_), .val (.int (1 : Int32)), .val (.int (2 : Int32)), .val (.int (1 : Int32)), .val (.int y)]) rfl k) ?_
  show G (T6.setTop (mkF m 35 #[.val (.ref a0_), .val (.int (2 : Int32)), .val (.ref a2_), .val (.int (1 : Int32)), .val (.int (2 : Int32)), .val (.int (1 : Int32)), .val (.int y)] []))
  refine gs (fun t k => XS.iinc X6.here hx rfl (hb hby d6_35) rfl (l' := #[.val (.ref a0_), .val (.int (2 : Int32)), .val (.ref a2_), .val (.int (2 : Int32)), .val (.int (2 : Int32)), .val (.int (1 : Int32)), .val (.int y)]) rfl k) ?_
  show G (T6.setTop (mkF m 38 #[.val (.ref a0_), .val (.int (2 : Int32)), .val (.ref a2_), .val (.int (2 : Int32)), .val (.int (2 : Int32)), .val (.int (1 : Int32)), .val (.int y)] []))
  refine gs (fun t k => XS.iinc X6.here hx rfl (hb hby d6_38) rfl (l' := #[.val (.ref a0_), .val (.int (2 : Int32)), .val (.ref a2_), .val (.int (2 : Int32)), .val (.int (2 : Int32)), .val (.int (2 : Int32)), .val (.int y)]) rfl k) ?_
  show G (T6.setTop (mkF m 41 #[.val (.ref a0_), .val (.int (2 : Int32)), .val (.ref a2_), .val (.int (2 : Int32)), .val (.int (2 : Int32)), .val (.int (2 : Int32)), .val (.int y)] []))
  refine gs (fun t k => XS.goto X6.here hx rfl (pc0 := 41) (pc' := 3) rfl (hb hby d6_41) (by decide) (by decide) k) ?_
  show G (T6.setTop (mkF m 3 #[.val (.ref a0_), .val (.int (2 : Int32)), .val (.ref a2_), .val (.int (2 : Int32)), .val (.int (2 : Int32)), .val (.int (2 : Int32)), .val (.int y)] []))
  refine gs (fun t k => XS.iload X6.here hx rfl (hb hby d6_3) rfl k) ?_
  show G (T6.setTop (mkF m 5 #[.val (.ref a0_), .val (.int (2 : Int32)), .val (.ref a2_), .val (.int (2 : Int32)), .val (.int (2 : Int32)), .val (.int (2 : Int32)), .val (.int y)] [(.int (2 : Int32))]))
  refine gs (fun t k => XS.iload X6.here hx rfl (hb hby d6_5) rfl k) ?_
  show G (T6.setTop (mkF m 7 #[.val (.ref a0_), .val (.int (2 : Int32)), .val (.ref a2_), .val (.int (2 : Int32)), .val (.int (2 : Int32)), .val (.int (2 : Int32)), .val (.int y)] [(.int (2 : Int32)), (.int (2 : Int32))]))
  refine gs (fun t k => XS.icmpYes X6.here hx rfl (pc0 := 7) (pc' := 44) rfl (hb hby d6_7) rfl (flt (by decide : ¬ ((2 : Int32) < (2 : Int32)))).2.1 (by decide) (by decide) k) ?_
  show G (T6.setTop (mkF m 44 #[.val (.ref a0_), .val (.int (2 : Int32)), .val (.ref a2_), .val (.int (2 : Int32)), .val (.int (2 : Int32)), .val (.int (2 : Int32)), .val (.int y)] []))
  refine gs (fun t k => XS.iload X6.here hx rfl (hb hby d6_44) rfl k) ?_
  show G (T6.setTop (mkF m 46 #[.val (.ref a0_), .val (.int (2 : Int32)), .val (.ref a2_), .val (.int (2 : Int32)), .val (.int (2 : Int32)), .val (.int (2 : Int32)), .val (.int y)] [(.int (2 : Int32))]))
  obtain ⟨fs, hr, hrun, hended, hW, hsame⟩ := X6.leave (v := some (.int (2 : Int32))) (fun h => by rw [Bd.returns] at h; cases h)
  refine gl _ ⟨_, _, own_retI X6 hx Bd.returns (hb hby d6_46) hr, hrun, hended, _, _, rfl, ?_, ⟨_, rfl⟩, hW, hsame.mono (by decide) (by decide)⟩
  show Q6 Z a2_ h0 n0 _ T6.heap _
  rw [e6]
  exact ⟨rfl, N6, K8, _, _, V_a2__q6⟩
theorem pd_0 : parseMethodDescriptor "([CI[BII)I" = some ⟨[(.array .char), .int, (.array .byte), .int, .int], some .int⟩ := by decide +kernel
theorem d5_0 : decode jdk_52_method_16_code 0 = .ok (.iload_n 2, 1) := by decide +kernel
theorem d5_1 : decode jdk_52_method_16_code 1 = .ok (.newarray .byte, 2) := by decide +kernel
theorem d5_3 : decode jdk_52_method_16_code 3 = .ok (.astore_n 3, 1) := by decide +kernel
theorem d5_4 : decode jdk_52_method_16_code 4 = .ok (.aload_n 0, 1) := by decide +kernel
theorem d5_5 : decode jdk_52_method_16_code 5 = .ok (.iload_n 1, 1) := by decide +kernel
theorem d5_6 : decode jdk_52_method_16_code 6 = .ok (.aload_n 3, 1) := by decide +kernel
theorem d5_7 : decode jdk_52_method_16_code 7 = .ok (.iconst 0, 1) := by decide +kernel
theorem d5_8 : decode jdk_52_method_16_code 8 = .ok (.iload_n 2, 1) := by decide +kernel
theorem d5_9 : decode jdk_52_method_16_code 9 = .ok (.invokestatic 115, 3) := by decide +kernel
theorem d5_12 : decode jdk_52_method_16_code 12 = .ok (.istore 4, 2) := by decide +kernel
theorem d5_14 : decode jdk_52_method_16_code 14 = .ok (.iload 4, 2) := by decide +kernel
theorem d5_16 : decode jdk_52_method_16_code 16 = .ok (.iload_n 2, 1) := by decide +kernel
theorem d5_17 : decode jdk_52_method_16_code 17 = .ok (.if_icmp .eq 40, 3) := by decide +kernel
theorem d5_57 : decode jdk_52_method_16_code 57 = .ok (.aload_n 3, 1) := by decide +kernel
theorem d5_58 : decode jdk_52_method_16_code 58 = .ok (.areturn, 1) := by decide +kernel
theorem ef_5 (m : MethodId) (a0_ : Addr) : entryFrame m #[(.ref a0_), (.int (0 : Int32)), (.int (2 : Int32))] 6 = mkF m 0 #[.val (.ref a0_), .val (.int (0 : Int32)), .val (.int (2 : Int32)), .unset, .unset, .unset] [] := by first | (simp [entryFrame, mkF, argsToLocals, Value.category]; done) | rfl
def Q5 (Z : State) (h0 : Heap) (n0 : Nat) (v : Option Value) (h : Heap) (L : List Loc) : Prop := ∃ t : Addr, v = some (.ref t) ∧ Fr n0 L ∧ Keep h0 h [] ∧ ∃ (k : ClassId) (vs : List Value), Arv Z h t k .byte (2 : Int32) vs (.int (0 : Int32))
set_option maxRecDepth 65536 in
set_option maxHeartbeats 40000000 in
theorem rm5 (l : Launch) (Z : State) (a0 : Array Value) (hw : ∀ d ∈ tables_1, d.before a0 Z = true) (ws : List Jvm.Cond) (a0_ : Addr) (x y : Int32) (kq1 : ClassId) (h0 : Heap) (n0 : Nat) (Z0 : n0 ≤ h0.size) (V1 : Arv Z h0 a0_ kq1 .char (2 : Int32) [.int x, .int y] (.int (0 : Int32))) (rx : ¬ (255 : Int32) < x) (ry : ¬ (255 : Int32) < y) :
    MetFree l (⟨"java/lang/StringUTF16", "compress", "([CII)[B"⟩ : MethodName) (head1 (Jvm.Cond.code (⟨"java/lang/StringUTF16", "compress", "([CII)[B"⟩ : MethodName) jdk_52_method_16_code 6 (some (.array .byte)) :: ws) ({ frames := 1, cells := 1, slots := 2, locals := 18 } : Room)) (fun a U => a = #[(.ref a0_), (.int (0 : Int32)), (.int (2 : Int32))] ∧ Z.Warmed39 U.vm ∧ U.heap = h0) (fun _ _ _ _ _ => True) (fun _ U o U' => ∃ v L, o = .returned v ∧ Q5 Z h0 n0 v U'.heap L ∧ FrameEnd U o U' L ({ frames := 1, cells := 1, slots := 2, locals := 18 } : Room).cells ({ frames := 1, cells := 1, slots := 2, locals := 18 } : Room).slots) := by
  refine MetFree.of_bodySF (plainFor_of_name pn_java_lang_StringUTF16) hisR ?_
  intro p e s m args below meth c s₁ Bd hml0 hP hK
  obtain ⟨rfl, hZ, hh⟩ := hP
  have hx := Bd.exec
  have hby := Bd.bytes
  have hml : c.maxLocals = 6 := hml0
  have hown : s.vm.findClass "java/lang/StringUTF16" = some m.cls := findClass_of_methodNamed Bd.named
  have hnm := (name_of_methodNamed Bd.named Bd.method).1
  have X0 : Stand p l e ({ frames := 1, cells := 1, slots := 2, locals := 18 } : Room) s m #[(.ref a0_), (.int (0 : Int32)), (.int (2 : Int32))] below meth c s₁ [] 0 0 := Stand.of_body Bd
  have e0 : s₁.heap = h0 := by rw [← hh, Bd.state]; rfl
  have N0 := Fr.nil n0
  have pre0 : ∀ t, Steps p.tables e below (s₁.setTop (mkF m 0 #[.val (.ref a0_), .val (.int (0 : Int32)), .val (.int (2 : Int32)), .unset, .unset, .unset] [])) t → Steps p.tables e below (s₁.setTop (entryFrame m #[(.ref a0_), (.int (0 : Int32)), (.int (2 : Int32))] 6)) t := fun t k => castTop (ef_5 m a0_) k
  have K0 := Keep.refl h0 []
  refine own_start pre0 fun G gs gl => ?_
  show G (s₁.setTop (mkF m 0 #[.val (.ref a0_), .val (.int (0 : Int32)), .val (.int (2 : Int32)), .unset, .unset, .unset] []))
  refine gs (fun t k => XS.iloadN X0.here hx rfl (hb hby d5_0) rfl k) ?_
  show G (s₁.setTop (mkF m 1 #[.val (.ref a0_), .val (.int (0 : Int32)), .val (.int (2 : Int32)), .unset, .unset, .unset] [(.int (2 : Int32))]))
  obtain ⟨T1, h1, k1, X1, e1, E1, A1, st1⟩ := newP X0 hx hZ (hw _ (List.mem_of_getElem? (i := 20) rfl)) e0 (g := (mkF m 1 #[.val (.ref a0_), .val (.int (0 : Int32)), .val (.int (2 : Int32)), .unset, .unset, .unset] [(.int (2 : Int32))])) rfl (hb hby d5_1) rfl (by decide) (cap := 2) (by decide) (by decide) (by decide) (by decide)
  obtain ⟨b1, g1⟩ : ∃ z, z = h0.size := ⟨_, rfl⟩
  rw [← g1] at A1 st1
  have sz_b1 : h0.size ≤ b1 := Nat.le_trans K0.1 (Nat.le_of_eq g1.symm)
  have g_b1 : n0 ≤ b1 := Nat.le_trans Z0 sz_b1
  have ne_a0__b1 : a0_ ≠ b1 := Nat.ne_of_lt (Nat.lt_of_lt_of_le V1.lt (Nat.le_of_eq g1.symm))
  have V1_q2 := V1.ext E1
  have K3 := K0.ext E1
  have V_b1 : Arv Z h1 b1 k1 .byte (2 : Int32) [(.int (0 : Int32)), (.int (0 : Int32))] (.int (0 : Int32)) := (Arv.new A1 (by decide)).pad (pad_rep [] (.int (0 : Int32)) 2)
  refine gs (fun t k => st1 _ k) ?_
  show G (T1.setTop (mkF m 3 #[.val (.ref a0_), .val (.int (0 : Int32)), .val (.int (2 : Int32)), .unset, .unset, .unset] [(.ref b1)]))
  refine gs (fun t k => XS.astoreN X1.here hx rfl (hb hby d5_3) rfl rfl (l' := #[.val (.ref a0_), .val (.int (0 : Int32)), .val (.int (2 : Int32)), .val (.ref b1), .unset, .unset]) rfl k) ?_
  show G (T1.setTop (mkF m 4 #[.val (.ref a0_), .val (.int (0 : Int32)), .val (.int (2 : Int32)), .val (.ref b1), .unset, .unset] []))
  refine gs (fun t k => XS.aloadN X1.here hx rfl (hb hby d5_4) rfl rfl k) ?_
  show G (T1.setTop (mkF m 5 #[.val (.ref a0_), .val (.int (0 : Int32)), .val (.int (2 : Int32)), .val (.ref b1), .unset, .unset] [(.ref a0_)]))
  refine gs (fun t k => XS.iloadN X1.here hx rfl (hb hby d5_5) rfl k) ?_
  show G (T1.setTop (mkF m 6 #[.val (.ref a0_), .val (.int (0 : Int32)), .val (.int (2 : Int32)), .val (.ref b1), .unset, .unset] [(.int (0 : Int32)), (.ref a0_)]))
  refine gs (fun t k => XS.aloadN X1.here hx rfl (hb hby d5_6) rfl rfl k) ?_
  show G (T1.setTop (mkF m 7 #[.val (.ref a0_), .val (.int (0 : Int32)), .val (.int (2 : Int32)), .val (.ref b1), .unset, .unset] [(.ref b1), (.int (0 : Int32)), (.ref a0_)]))
  refine gs (fun t k => XS.iconst X1.here hx rfl (hb hby d5_7) k) ?_
  show G (T1.setTop (mkF m 8 #[.val (.ref a0_), .val (.int (0 : Int32)), .val (.int (2 : Int32)), .val (.ref b1), .unset, .unset] [(.int (0 : Int32)), (.ref b1), (.int (0 : Int32)), (.ref a0_)]))
  refine gs (fun t k => XS.iloadN X1.here hx rfl (hb hby d5_8) rfl k) ?_
  show G (T1.setTop (mkF m 9 #[.val (.ref a0_), .val (.int (0 : Int32)), .val (.int (2 : Int32)), .val (.ref b1), .unset, .unset] [(.int (2 : Int32)), (.int (0 : Int32)), (.ref b1), (.int (0 : Int32)), (.ref a0_)]))
  obtain ⟨_, _, ⟨T4, L4, k4, n4⟩, -, X4, ⟨Lc4, hQ4, l4, y4, z4⟩, st4⟩ := Jvm.LawKit.callS X1 hx (y := (⟨"java/lang/StringUTF16", "compress", "([CI[BII)I"⟩ : MethodName)) hown (mvT hZ (hw _ (List.mem_of_getElem? (i := 32) rfl))) (mvT hZ (hw _ (List.mem_of_getElem? (i := 33) rfl))) (mvT hZ (hw _ (List.mem_of_getElem? (i := 30) rfl))) (mvT hZ (hw _ (List.mem_of_getElem? (i := 34) rfl))) (by decide) (backOf (W := 0) (rm6 l Z a0 hw [] a0_ b1 x y kq1 _ h1 n0 (Nat.le_trans Z0 K3.1) V1_q2 rx ry V_b1 ne_a0__b1 g_b1) hZ (hw _ (List.mem_of_getElem? (i := 34) rfl)) (hw _ (List.mem_of_getElem? (i := 30) rfl)) (by decide) (by decide)) (g := (mkF m 9 #[.val (.ref a0_), .val (.int (0 : Int32)), .val (.int (2 : Int32)), .val (.ref b1), .unset, .unset] [(.int (2 : Int32)), (.int (0 : Int32)), (.ref b1), (.int (0 : Int32)), (.ref a0_)])) rfl (by rw [hml]; rfl) (argsL := [(.ref a0_), (.int (0 : Int32)), (.ref b1), (.int (0 : Int32)), (.int (2 : Int32))]) (rest := []) (lenOf pd_0 rfl) rfl (by show 2 * 0 + _ ≤ _; exact Nat.le_of_eq rfl) (hb hby d5_9) (fun _ _ => ⟨rfl, e1, (by decide : 1 + 0 ≤ _), (by decide : 2 + 0 ≤ _)⟩)
  dsimp only [Pt.U, Pt.locs, Pt.cells, Pt.slots] at X4 l4 y4 z4 st4 hQ4
  subst y4 z4
  obtain ⟨rfl, N4q, Kc4, kk4, vs4, VN4⟩ := hQ4
  have N4 : Fr n0 L4 := by rw [l4]; exact Fr.app N0 N4q
  refine gs (fun t k => st4 _ k) ?_
  have V1_q5 := V1_q2.keep Kc4 (ninS ne_a0__b1 nin0)
  have K6 := K3.trans Kc4 (allS (Or.inr sz_b1) all0)
  show G (T4.setTop (mkF m 12 #[.val (.ref a0_), .val (.int (0 : Int32)), .val (.int (2 : Int32)), .val (.ref b1), .unset, .unset] [(.int (2 : Int32))]))
  refine gs (fun t k => XS.istore X4.here hx rfl (hb hby d5_12) rfl (l' := #[.val (.ref a0_), .val (.int (0 : Int32)), .val (.int (2 : Int32)), .val (.ref b1), .val (.int (2 : Int32)), .unset]) rfl k) ?_
  show G (T4.setTop (mkF m 14 #[.val (.ref a0_), .val (.int (0 : Int32)), .val (.int (2 : Int32)), .val (.ref b1), .val (.int (2 : Int32)), .unset] []))
  refine gs (fun t k => XS.iload X4.here hx rfl (hb hby d5_14) rfl k) ?_
  show G (T4.setTop (mkF m 16 #[.val (.ref a0_), .val (.int (0 : Int32)), .val (.int (2 : Int32)), .val (.ref b1), .val (.int (2 : Int32)), .unset] [(.int (2 : Int32))]))
  refine gs (fun t k => XS.iloadN X4.here hx rfl (hb hby d5_16) rfl k) ?_
  show G (T4.setTop (mkF m 17 #[.val (.ref a0_), .val (.int (0 : Int32)), .val (.int (2 : Int32)), .val (.ref b1), .val (.int (2 : Int32)), .unset] [(.int (2 : Int32)), (.int (2 : Int32))]))
  refine gs (fun t k => XS.icmpYes X4.here hx rfl (pc0 := 17) (pc' := 57) rfl (hb hby d5_17) rfl (teq (by decide : (2 : Int32) = (2 : Int32))).1 (by decide) (by decide) k) ?_
  show G (T4.setTop (mkF m 57 #[.val (.ref a0_), .val (.int (0 : Int32)), .val (.int (2 : Int32)), .val (.ref b1), .val (.int (2 : Int32)), .unset] []))
  refine gs (fun t k => XS.aloadN X4.here hx rfl (hb hby d5_57) rfl rfl k) ?_
  show G (T4.setTop (mkF m 58 #[.val (.ref a0_), .val (.int (0 : Int32)), .val (.int (2 : Int32)), .val (.ref b1), .val (.int (2 : Int32)), .unset] [(.ref b1)]))
  obtain ⟨fs, hr, hrun, hended, hW, hsame⟩ := X4.leave (v := some (.ref b1)) (fun h => by rw [Bd.returns] at h; cases h)
  refine gl _ ⟨_, _, retOut X4 hx Bd.returns rfl (Or.inr (Or.inr (Or.inr (Or.inr ⟨rfl, rfl, rfl⟩)))) (hb hby d5_58) hr, hrun, hended, _, _, rfl, ?_, ⟨_, rfl⟩, hW, hsame.mono (by decide) (by decide)⟩
  show Q5 Z h0 n0 _ T4.heap _
  exact ⟨_, rfl, N4, K6, _, _, VN4⟩
theorem d7_0 : decode jdk_52_method_15_code 0 = .ok (.iload_n 1, 1) := by decide +kernel
theorem d7_1 : decode jdk_52_method_15_code 1 = .ok (.aload_n 0, 1) := by decide +kernel
theorem d7_2 : decode jdk_52_method_15_code 2 = .ok (.arraylength, 1) := by decide +kernel
theorem d7_3 : decode jdk_52_method_15_code 3 = .ok (.isub, 1) := by decide +kernel
theorem d7_4 : decode jdk_52_method_15_code 4 = .ok (.bipush 31, 2) := by decide +kernel
theorem d7_6 : decode jdk_52_method_15_code 6 = .ok (.iushr, 1) := by decide +kernel
theorem d7_7 : decode jdk_52_method_15_code 7 = .ok (.i2b, 1) := by decide +kernel
theorem d7_8 : decode jdk_52_method_15_code 8 = .ok (.ireturn, 1) := by decide +kernel
theorem ef_7 (m : MethodId) (a0_ : Addr) : entryFrame m #[(.ref a0_), (.int (2 : Int32))] 2 = mkF m 0 #[.val (.ref a0_), .val (.int (2 : Int32))] [] := by first | (simp [entryFrame, mkF, argsToLocals, Value.category]; done) | rfl
def Q7 (h0 : Heap) (n0 : Nat) (v : Option Value) (h : Heap) (L : List Loc) : Prop := v = some (.int (0 : Int32)) ∧ Fr n0 L ∧ h = h0
set_option maxRecDepth 65536 in
set_option maxHeartbeats 40000000 in
theorem rm7 (l : Launch) (Z : State) (a0 : Array Value) (hw : ∀ d ∈ tables_1, d.before a0 Z = true) (ws : List Jvm.Cond) (a0_ : Addr) (kq : ClassId) (vs : List Value) (h0 : Heap) (n0 : Nat) (Z0 : n0 ≤ h0.size) (V : Arv Z h0 a0_ kq .byte (2 : Int32) vs (.int (0 : Int32))) :
    MetFree l (⟨"java/lang/StringUTF16", "coderFromArrayLen", "([BI)B"⟩ : MethodName) (head1 (Jvm.Cond.code (⟨"java/lang/StringUTF16", "coderFromArrayLen", "([BI)B"⟩ : MethodName) jdk_52_method_15_code 2 (some .byte) :: ws) ({ frames := 0, cells := 0, slots := 0, locals := 0 } : Room)) (fun a U => a = #[(.ref a0_), (.int (2 : Int32))] ∧ Z.Warmed39 U.vm ∧ U.heap = h0) (fun _ _ _ _ _ => True) (fun _ U o U' => ∃ v L, o = .returned v ∧ Q7 h0 n0 v U'.heap L ∧ FrameEnd U o U' L ({ frames := 0, cells := 0, slots := 0, locals := 0 } : Room).cells ({ frames := 0, cells := 0, slots := 0, locals := 0 } : Room).slots) := by
  refine MetFree.of_bodySF (plainFor_of_name pn_java_lang_StringUTF16) hisR ?_
  intro p e s m args below meth c s₁ Bd hml0 hP hK
  obtain ⟨rfl, hZ, hh⟩ := hP
  have hx := Bd.exec
  have hby := Bd.bytes
  have hml : c.maxLocals = 2 := hml0
  have hown : s.vm.findClass "java/lang/StringUTF16" = some m.cls := findClass_of_methodNamed Bd.named
  have hnm := (name_of_methodNamed Bd.named Bd.method).1
  have X0 : Stand p l e ({ frames := 0, cells := 0, slots := 0, locals := 0 } : Room) s m #[(.ref a0_), (.int (2 : Int32))] below meth c s₁ [] 0 0 := Stand.of_body Bd
  have e0 : s₁.heap = h0 := by rw [← hh, Bd.state]; rfl
  have N0 := Fr.nil n0
  have pre0 : ∀ t, Steps p.tables e below (s₁.setTop (mkF m 0 #[.val (.ref a0_), .val (.int (2 : Int32))] [])) t → Steps p.tables e below (s₁.setTop (entryFrame m #[(.ref a0_), (.int (2 : Int32))] 2)) t := fun t k => castTop (ef_7 m a0_) k
  have K0 := Keep.refl h0 []
  refine own_start pre0 fun G gs gl => ?_
  show G (s₁.setTop (mkF m 0 #[.val (.ref a0_), .val (.int (2 : Int32))] []))
  obtain ⟨c1, A1, -, S1, M1, -, -⟩ := V
  show G (s₁.setTop (mkF m 0 #[.val (.ref a0_), .val (.int (2 : Int32))] []))
  refine gs (fun t k => XS.iloadN X0.here hx rfl (hb hby d7_0) rfl k) ?_
  show G (s₁.setTop (mkF m 1 #[.val (.ref a0_), .val (.int (2 : Int32))] [(.int (2 : Int32))]))
  refine gs (fun t k => XS.aloadN X0.here hx rfl (hb hby d7_1) rfl rfl k) ?_
  show G (s₁.setTop (mkF m 2 #[.val (.ref a0_), .val (.int (2 : Int32))] [(.ref a0_), (.int (2 : Int32))]))
  refine gs (fun t k => X0.arraylength hx (by rw [e0]; exact A1.1) (State.isArrayOf_alike hZ.alike A1.2.1) (g := (mkF m 2 #[.val (.ref a0_), .val (.int (2 : Int32))] [(.ref a0_), (.int (2 : Int32))])) rfl rfl (hb hby d7_2) _ k) ?_
  rw [len_of S1 M1]
  show G (s₁.setTop (mkF m 3 #[.val (.ref a0_), .val (.int (2 : Int32))] [(.int (2 : Int32)), (.int (2 : Int32))]))
  refine gs (fun t k => XS.isub X0.here hx rfl (hb hby d7_3) rfl k) ?_
  show G (s₁.setTop (mkF m 4 #[.val (.ref a0_), .val (.int (2 : Int32))] [(.int ((2 : Int32) - (2 : Int32)))]))
  refine gs (fun t k => XS.bipush X0.here hx rfl (hb hby d7_4) k) ?_
  show G (s₁.setTop (mkF m 6 #[.val (.ref a0_), .val (.int (2 : Int32))] [(.int (31 : Int32)), (.int ((2 : Int32) - (2 : Int32)))]))
  refine gs (fun t k => XS.iushr X0.here hx rfl (hb hby d7_6) rfl k) ?_
  show G (s₁.setTop (mkF m 7 #[.val (.ref a0_), .val (.int (2 : Int32))] [(.int ((((2 : Int32) - (2 : Int32)).toUInt32 >>> ((31 : Int32) &&& 31).toUInt32).toInt32))]))
  refine gs (fun t k => XS.i2b X0.here hx rfl (hb hby d7_7) rfl k) ?_
  show G (s₁.setTop (mkF m 8 #[.val (.ref a0_), .val (.int (2 : Int32))] [(.int (((((2 : Int32) - (2 : Int32)).toUInt32 >>> ((31 : Int32) &&& 31).toUInt32).toInt32).toInt8.toInt32))]))
  obtain ⟨fs, hr, hrun, hended, hW, hsame⟩ := X0.leave (v := some (.int (((((2 : Int32) - (2 : Int32)).toUInt32 >>> ((31 : Int32) &&& 31).toUInt32).toInt32).toInt8.toInt32))) (fun h => by rw [Bd.returns] at h; cases h)
  refine gl _ ⟨_, _, retN X0 hx (t := .byte) Bd.returns (by simp) (hb hby d7_8) hr, hrun, hended, _, _, rfl, ?_, ⟨_, rfl⟩, hW, hsame.mono (by decide) (by decide)⟩
  show Q7 h0 n0 _ s₁.heap _
  rw [e0]
  exact ⟨congrArg (fun z => some (Value.int z)) (by decide), N0, rfl⟩
theorem pd_1 : parseMethodDescriptor "([CII)[B" = some ⟨[(.array .char), .int, .int], some (.array .byte)⟩ := by decide +kernel
theorem pd_2 : parseMethodDescriptor "([BI)B" = some ⟨[(.array .byte), .int], some .byte⟩ := by decide +kernel
theorem d3_0 : decode jdk_42_method_149_code 0 = .ok (.aload_n 0, 1) := by decide +kernel
theorem d3_1 : decode jdk_42_method_149_code 1 = .ok (.invokespecial 1, 3) := by decide +kernel
theorem d3_4 : decode jdk_42_method_149_code 4 = .ok (.iload_n 3, 1) := by decide +kernel
theorem d3_5 : decode jdk_42_method_149_code 5 = .ok (.ifCond .ne 22, 3) := by decide +kernel
theorem d3_8 : decode jdk_42_method_149_code 8 = .ok (.aload_n 0, 1) := by decide +kernel
theorem d3_9 : decode jdk_42_method_149_code 9 = .ok (.ldc 7, 2) := by decide +kernel
theorem d3_11 : decode jdk_42_method_149_code 11 = .ok (.getfield 9, 3) := by decide +kernel
theorem d3_14 : decode jdk_42_method_149_code 14 = .ok (.putfield 9, 3) := by decide +kernel
theorem d3_17 : decode jdk_42_method_149_code 17 = .ok (.aload_n 0, 1) := by decide +kernel
theorem d3_18 : decode jdk_42_method_149_code 18 = .ok (.ldc 7, 2) := by decide +kernel
theorem d3_20 : decode jdk_42_method_149_code 20 = .ok (.getfield 15, 3) := by decide +kernel
theorem d3_23 : decode jdk_42_method_149_code 23 = .ok (.putfield 15, 3) := by decide +kernel
theorem d3_26 : decode jdk_42_method_149_code 26 = .ok (.return_, 1) := by decide +kernel
theorem d3_27 : decode jdk_42_method_149_code 27 = .ok (.getstatic 38, 3) := by decide +kernel
theorem d3_30 : decode jdk_42_method_149_code 30 = .ok (.ifCond .eq 28, 3) := by decide +kernel
theorem d3_33 : decode jdk_42_method_149_code 33 = .ok (.aload_n 1, 1) := by decide +kernel
theorem d3_34 : decode jdk_42_method_149_code 34 = .ok (.iload_n 2, 1) := by decide +kernel
theorem d3_35 : decode jdk_42_method_149_code 35 = .ok (.iload_n 3, 1) := by decide +kernel
theorem d3_36 : decode jdk_42_method_149_code 36 = .ok (.invokestatic 177, 3) := by decide +kernel
theorem d3_39 : decode jdk_42_method_149_code 39 = .ok (.astore 5, 2) := by decide +kernel
theorem d3_41 : decode jdk_42_method_149_code 41 = .ok (.aload_n 0, 1) := by decide +kernel
theorem d3_42 : decode jdk_42_method_149_code 42 = .ok (.aload 5, 2) := by decide +kernel
theorem d3_44 : decode jdk_42_method_149_code 44 = .ok (.iload_n 3, 1) := by decide +kernel
theorem d3_45 : decode jdk_42_method_149_code 45 = .ok (.invokestatic 47, 3) := by decide +kernel
theorem d3_48 : decode jdk_42_method_149_code 48 = .ok (.putfield 15, 3) := by decide +kernel
theorem d3_51 : decode jdk_42_method_149_code 51 = .ok (.aload_n 0, 1) := by decide +kernel
theorem d3_52 : decode jdk_42_method_149_code 52 = .ok (.aload 5, 2) := by decide +kernel
theorem d3_54 : decode jdk_42_method_149_code 54 = .ok (.putfield 9, 3) := by decide +kernel
theorem d3_57 : decode jdk_42_method_149_code 57 = .ok (.return_, 1) := by decide +kernel
theorem pn_java_lang_String : plainName "java/lang/String" = true := by first | (simp [plainName, overriddenIn]; done) | decide +kernel
theorem ef_3 (m : MethodId) (a0_ : Addr) (a1_ : Addr) : entryFrame m #[(.ref a0_), (.ref a1_), (.int (0 : Int32)), (.int (2 : Int32)), .null] 6 = mkF m 0 #[.val (.ref a0_), .val (.ref a1_), .val (.int (0 : Int32)), .val (.int (2 : Int32)), .val .null, .unset] [] := by first | (simp [entryFrame, mkF, argsToLocals, Value.category]; done) | rfl
def Q3 (Z : State) (a0_ : Addr) (h0 : Heap) (n0 : Nat) (v : Option Value) (h : Heap) (L : List Loc) : Prop := v = none ∧ Fr n0 L ∧ Keep h0 h [a0_] ∧ Exa Z h a0_ "java/lang/String" ∧ ∃ (t : Addr) (k : ClassId) (vs : List Value), Fld Z h a0_ "java/lang/String" "value" "[B" (.ref t) ∧ Fld Z h a0_ "java/lang/String" "coder" "B" (.int (0 : Int32)) ∧ Arv Z h t k .byte (2 : Int32) vs (.int (0 : Int32))
set_option maxRecDepth 65536 in
set_option maxHeartbeats 40000000 in
theorem rm3 (l : Launch) (Z : State) (a0 : Array Value) (hw : ∀ d ∈ tables_1, d.before a0 Z = true) (ws : List Jvm.Cond) (a0_ : Addr) (a1_ : Addr) (x y : Int32) (kq1 : ClassId) (cs : Int32) (h0 : Heap) (n0 : Nat) (Z0 : n0 ≤ h0.size) (E_a : Exa Z h0 a0_ "java/lang/String") (F_v : Fld Z h0 a0_ "java/lang/String" "value" "[B" .null) (F_c : Fld Z h0 a0_ "java/lang/String" "coder" "B" (.int (0 : Int32))) (g_a0_ : n0 ≤ a0_) (V1 : Arv Z h0 a1_ kq1 .char (2 : Int32) [.int x, .int y] (.int (0 : Int32))) (rx : ¬ (255 : Int32) < x) (ry : ¬ (255 : Int32) < y) (SC : Sta Z h0 "java/lang/String" "COMPACT_STRINGS" "Z" (.int cs)) (hcs : ¬ cs = (0 : Int32)) :
    MetFree l (⟨"java/lang/String", "<init>", "([CIILjava/lang/Void;)V"⟩ : MethodName) (head1 (Jvm.Cond.code (⟨"java/lang/String", "<init>", "([CIILjava/lang/Void;)V"⟩ : MethodName) jdk_42_method_149_code 6 none :: ws) ({ frames := 2, cells := 1, slots := 2, locals := 35 } : Room)) (fun a U => a = #[(.ref a0_), (.ref a1_), (.int (0 : Int32)), (.int (2 : Int32)), .null] ∧ Z.Warmed39 U.vm ∧ U.heap = h0) (fun _ _ _ _ _ => True) (fun _ U o U' => ∃ v L, o = .returned v ∧ Q3 Z a0_ h0 n0 v U'.heap L ∧ FrameEnd U o U' L ({ frames := 2, cells := 1, slots := 2, locals := 35 } : Room).cells ({ frames := 2, cells := 1, slots := 2, locals := 35 } : Room).slots) := by
  refine MetFree.of_bodySF (plainFor_of_name pn_java_lang_String) hisR ?_
  intro p e s m args below meth c s₁ Bd hml0 hP hK
  obtain ⟨rfl, hZ, hh⟩ := hP
  have hx := Bd.exec
  have hby := Bd.bytes
  have hml : c.maxLocals = 6 := hml0
  have hown : s.vm.findClass "java/lang/String" = some m.cls := findClass_of_methodNamed Bd.named
  have hnm := (name_of_methodNamed Bd.named Bd.method).1
  have X0 : Stand p l e ({ frames := 2, cells := 1, slots := 2, locals := 35 } : Room) s m #[(.ref a0_), (.ref a1_), (.int (0 : Int32)), (.int (2 : Int32)), .null] below meth c s₁ [] 0 0 := Stand.of_body Bd
  have e0 : s₁.heap = h0 := by rw [← hh, Bd.state]; rfl
  have N0 := Fr.nil n0
  have pre0 : ∀ t, Steps p.tables e below (s₁.setTop (mkF m 0 #[.val (.ref a0_), .val (.ref a1_), .val (.int (0 : Int32)), .val (.int (2 : Int32)), .val .null, .unset] [])) t → Steps p.tables e below (s₁.setTop (entryFrame m #[(.ref a0_), (.ref a1_), (.int (0 : Int32)), (.int (2 : Int32)), .null] 6)) t := fun t k => castTop (ef_3 m a0_ a1_) k
  have K0 := Keep.refl h0 [a0_]
  refine own_start pre0 fun G gs gl => ?_
  show G (s₁.setTop (mkF m 0 #[.val (.ref a0_), .val (.ref a1_), .val (.int (0 : Int32)), .val (.int (2 : Int32)), .val .null, .unset] []))
  refine gs (fun t k => XS.aloadN X0.here hx rfl (hb hby d3_0) rfl rfl k) ?_
  show G (s₁.setTop (mkF m 1 #[.val (.ref a0_), .val (.ref a1_), .val (.int (0 : Int32)), .val (.int (2 : Int32)), .val .null, .unset] [(.ref a0_)]))
  obtain ⟨T1, X1, e1, st1⟩ := initO X0 hx hZ hown (hw _ (List.mem_of_getElem? (i := 16) rfl)) (hw _ (List.mem_of_getElem? (i := 17) rfl)) (hw _ (List.mem_of_getElem? (i := 18) rfl)) e0 (g := (mkF m 1 #[.val (.ref a0_), .val (.ref a1_), .val (.int (0 : Int32)), .val (.int (2 : Int32)), .val .null, .unset] [(.ref a0_)])) rfl (by rw [hml]; rfl) rfl (hb hby d3_1) (by decide) (W := 0) (by show 2 * 0 + _ ≤ _; exact Nat.le_of_eq rfl) (by decide)
  refine gs (fun t k => st1 _ k) ?_
  show G (T1.setTop (mkF m 4 #[.val (.ref a0_), .val (.ref a1_), .val (.int (0 : Int32)), .val (.int (2 : Int32)), .val .null, .unset] []))
  refine gs (fun t k => XS.iloadN X1.here hx rfl (hb hby d3_4) rfl k) ?_
  show G (T1.setTop (mkF m 5 #[.val (.ref a0_), .val (.ref a1_), .val (.int (0 : Int32)), .val (.int (2 : Int32)), .val .null, .unset] [(.int (2 : Int32))]))
  refine gs (fun t k => XS.ifYes X1.here hx rfl (pc0 := 5) (pc' := 27) rfl (hb hby d3_5) rfl ((if0 _ _).trans (feq (by decide : ¬ ((2 : Int32) = (0 : Int32)))).2) (by decide) (by decide) k) ?_
  show G (T1.setTop (mkF m 27 #[.val (.ref a0_), .val (.ref a1_), .val (.int (0 : Int32)), .val (.int (2 : Int32)), .val .null, .unset] []))
  obtain ⟨T2, X2, e2, st2⟩ := getS2 X1 hx hZ hown (host := "") (Or.inl (hw _ (List.mem_of_getElem? (i := 27) rfl))) Via.refl e1 SC (g := (mkF m 27 #[.val (.ref a0_), .val (.ref a1_), .val (.int (0 : Int32)), .val (.int (2 : Int32)), .val .null, .unset] [])) rfl (hb hby d3_27)
  refine gs (fun t k => st2 _ k) ?_
  show G (T2.setTop (mkF m 30 #[.val (.ref a0_), .val (.ref a1_), .val (.int (0 : Int32)), .val (.int (2 : Int32)), .val .null, .unset] [(.int cs)]))
  refine gs (fun t k => XS.ifNo X2.here hx rfl (hb hby d3_30) rfl ((if0 _ _).trans (feq hcs).1) k) ?_
  show G (T2.setTop (mkF m 33 #[.val (.ref a0_), .val (.ref a1_), .val (.int (0 : Int32)), .val (.int (2 : Int32)), .val .null, .unset] []))
  refine gs (fun t k => XS.aloadN X2.here hx rfl (hb hby d3_33) rfl rfl k) ?_
  show G (T2.setTop (mkF m 34 #[.val (.ref a0_), .val (.ref a1_), .val (.int (0 : Int32)), .val (.int (2 : Int32)), .val .null, .unset] [(.ref a1_)]))
  refine gs (fun t k => XS.iloadN X2.here hx rfl (hb hby d3_34) rfl k) ?_
  show G (T2.setTop (mkF m 35 #[.val (.ref a0_), .val (.ref a1_), .val (.int (0 : Int32)), .val (.int (2 : Int32)), .val .null, .unset] [(.int (0 : Int32)), (.ref a1_)]))
  refine gs (fun t k => XS.iloadN X2.here hx rfl (hb hby d3_35) rfl k) ?_
  show G (T2.setTop (mkF m 36 #[.val (.ref a0_), .val (.ref a1_), .val (.int (0 : Int32)), .val (.int (2 : Int32)), .val .null, .unset] [(.int (2 : Int32)), (.int (0 : Int32)), (.ref a1_)]))
  obtain ⟨_, _, ⟨T3, L3, k3, n3⟩, -, X3, ⟨Lc3, hQ3, l3, y3, z3⟩, st3⟩ := Jvm.LawKit.callS X2 hx (y := (⟨"java/lang/StringUTF16", "compress", "([CII)[B"⟩ : MethodName)) hown (mvT hZ (hw _ (List.mem_of_getElem? (i := 28) rfl))) (mvT hZ (hw _ (List.mem_of_getElem? (i := 29) rfl))) (mvT hZ (hw _ (List.mem_of_getElem? (i := 30) rfl))) (mvT hZ (hw _ (List.mem_of_getElem? (i := 31) rfl))) (by decide) (backOf (W := 0) (rm5 l Z a0 hw [] a1_ x y kq1 h0 n0 (Nat.le_trans Z0 K0.1) V1 rx ry) hZ (hw _ (List.mem_of_getElem? (i := 31) rfl)) (hw _ (List.mem_of_getElem? (i := 30) rfl)) (by decide) (by decide)) (g := (mkF m 36 #[.val (.ref a0_), .val (.ref a1_), .val (.int (0 : Int32)), .val (.int (2 : Int32)), .val .null, .unset] [(.int (2 : Int32)), (.int (0 : Int32)), (.ref a1_)])) rfl (by rw [hml]; rfl) (argsL := [(.ref a1_), (.int (0 : Int32)), (.int (2 : Int32))]) (rest := []) (lenOf pd_1 rfl) rfl (by show 2 * 0 + _ ≤ _; exact Nat.le_of_eq rfl) (hb hby d3_36) (fun _ _ => ⟨rfl, e2, (by decide : 0 + 1 ≤ _), (by decide : 0 + 2 ≤ _)⟩)
  dsimp only [Pt.U, Pt.locs, Pt.cells, Pt.slots] at X3 l3 y3 z3 st3 hQ3
  subst y3 z3
  obtain ⟨tb, rfl, N3q, Kc3, kb, vb, VB⟩ := hQ3
  have N3 : Fr n0 L3 := by rw [l3]; exact Fr.app N0 N3q
  refine gs (fun t k => st3 _ k) ?_
  have E_a_q4 := E_a.keep Kc3
  have F_v_q5 := F_v.keep Kc3 nin0
  have F_c_q6 := F_c.keep Kc3 nin0
  have SC_q7 := own_sta_keep SC Kc3
  have V1_q8 := V1.keep Kc3 nin0
  have K9 := K0.trans Kc3 all0
  have ne_tb : tb ≠ a0_ := (ne_arr E_a_q4 (hw _ (List.mem_of_getElem? (i := 6) rfl)) (VB.choose_spec.1)).symm
  show G (T3.setTop (mkF m 39 #[.val (.ref a0_), .val (.ref a1_), .val (.int (0 : Int32)), .val (.int (2 : Int32)), .val .null, .unset] [(.ref tb)]))
  refine gs (fun t k => XS.astore X3.here hx rfl (hb hby d3_39) rfl rfl (l' := #[.val (.ref a0_), .val (.ref a1_), .val (.int (0 : Int32)), .val (.int (2 : Int32)), .val .null, .val (.ref tb)]) rfl k) ?_
  show G (T3.setTop (mkF m 41 #[.val (.ref a0_), .val (.ref a1_), .val (.int (0 : Int32)), .val (.int (2 : Int32)), .val .null, .val (.ref tb)] []))
  refine gs (fun t k => XS.aloadN X3.here hx rfl (hb hby d3_41) rfl rfl k) ?_
  show G (T3.setTop (mkF m 42 #[.val (.ref a0_), .val (.ref a1_), .val (.int (0 : Int32)), .val (.int (2 : Int32)), .val .null, .val (.ref tb)] [(.ref a0_)]))
  refine gs (fun t k => XS.aload X3.here hx rfl (hb hby d3_42) rfl rfl k) ?_
  show G (T3.setTop (mkF m 44 #[.val (.ref a0_), .val (.ref a1_), .val (.int (0 : Int32)), .val (.int (2 : Int32)), .val .null, .val (.ref tb)] [(.ref tb), (.ref a0_)]))
  refine gs (fun t k => XS.iloadN X3.here hx rfl (hb hby d3_44) rfl k) ?_
  show G (T3.setTop (mkF m 45 #[.val (.ref a0_), .val (.ref a1_), .val (.int (0 : Int32)), .val (.int (2 : Int32)), .val .null, .val (.ref tb)] [(.int (2 : Int32)), (.ref tb), (.ref a0_)]))
  obtain ⟨_, _, ⟨T10, L10, k10, n10⟩, -, X10, ⟨Lc10, hQ10, l10, y10, z10⟩, st10⟩ := Jvm.LawKit.callS X3 hx (y := (⟨"java/lang/StringUTF16", "coderFromArrayLen", "([BI)B"⟩ : MethodName)) hown (mvT hZ (hw _ (List.mem_of_getElem? (i := 35) rfl))) (mvT hZ (hw _ (List.mem_of_getElem? (i := 36) rfl))) (mvT hZ (hw _ (List.mem_of_getElem? (i := 30) rfl))) (mvT hZ (hw _ (List.mem_of_getElem? (i := 37) rfl))) (by decide) (backOf (W := 1) (rm7 l Z a0 hw [] tb kb vb T3.heap n0 (Nat.le_trans Z0 K9.1) VB) hZ (hw _ (List.mem_of_getElem? (i := 37) rfl)) (hw _ (List.mem_of_getElem? (i := 30) rfl)) (by decide) (by decide)) (g := (mkF m 45 #[.val (.ref a0_), .val (.ref a1_), .val (.int (0 : Int32)), .val (.int (2 : Int32)), .val .null, .val (.ref tb)] [(.int (2 : Int32)), (.ref tb), (.ref a0_)])) rfl (by rw [hml]; rfl) (argsL := [(.ref tb), (.int (2 : Int32))]) (rest := [(.ref a0_)]) (lenOf pd_2 rfl) rfl (by show 2 * 0 + _ ≤ _; exact Nat.le_of_eq rfl) (hb hby d3_45) (fun _ _ => ⟨rfl, rfl, (by decide : 1 + 0 ≤ _), (by decide : 2 + 0 ≤ _)⟩)
  dsimp only [Pt.U, Pt.locs, Pt.cells, Pt.slots] at X10 l10 y10 z10 st10 hQ10
  subst y10 z10
  obtain ⟨rfl, N10q, e10⟩ := hQ10
  have N10 : Fr n0 L10 := by rw [l10]; exact Fr.app N3 N10q
  refine gs (fun t k => st10 _ k) ?_
  show G (T10.setTop (mkF m 48 #[.val (.ref a0_), .val (.ref a1_), .val (.int (0 : Int32)), .val (.int (2 : Int32)), .val .null, .val (.ref tb)] [(.int (0 : Int32)), (.ref a0_)]))
  obtain ⟨T11, h11, X11, e11, W11, st11⟩ := putFN X10 hx hZ hown (hw _ (List.mem_of_getElem? (i := 26) rfl)) Via.refl e10 F_c_q6 E_a_q4 (Or.inr ⟨(hw _ (List.mem_of_getElem? (i := 22) rfl)), rfl, hnm⟩) (hw _ (List.mem_of_getElem? (i := 6) rfl)) (ty := .byte) (v' := (.int ((0 : Int32).toInt8.toInt32))) (by decide) rfl (fits_nar_byte _) (g := (mkF m 48 #[.val (.ref a0_), .val (.ref a1_), .val (.int (0 : Int32)), .val (.int (2 : Int32)), .val .null, .val (.ref tb)] [(.int (0 : Int32)), (.ref a0_)])) rfl rfl (hb hby d3_48)
  have E_a_q12 := E_a_q4.wr W11
  have F_v_q13 := F_v_q5.other W11 (Or.inr (slot_ne (Or.inr (hw _ (List.mem_of_getElem? (i := 21) rfl))) (Or.inr (hw _ (List.mem_of_getElem? (i := 22) rfl))) (by decide) (t := (.array .byte)) (t' := .byte) (by decide) (by decide)))
  have F_c_q14 := F_c_q6.same W11
  have SC_q15 := SC_q7.wr W11
  have VB_q16 := VB.other W11 ne_tb
  have K17 := K9.wr W11 (Or.inl (List.mem_of_getElem? (i := 0) rfl))
  have N11 := Fr.snoc X11 N10 g_a0_
  refine gs (fun t k => st11 _ k) ?_
  show G (T11.setTop (mkF m 51 #[.val (.ref a0_), .val (.ref a1_), .val (.int (0 : Int32)), .val (.int (2 : Int32)), .val .null, .val (.ref tb)] []))
  refine gs (fun t k => XS.aloadN X11.here hx rfl (hb hby d3_51) rfl rfl k) ?_
  show G (T11.setTop (mkF m 52 #[.val (.ref a0_), .val (.ref a1_), .val (.int (0 : Int32)), .val (.int (2 : Int32)), .val .null, .val (.ref tb)] [(.ref a0_)]))
  refine gs (fun t k => XS.aload X11.here hx rfl (hb hby d3_52) rfl rfl k) ?_
  show G (T11.setTop (mkF m 54 #[.val (.ref a0_), .val (.ref a1_), .val (.int (0 : Int32)), .val (.int (2 : Int32)), .val .null, .val (.ref tb)] [(.ref tb), (.ref a0_)]))
  obtain ⟨T18, h18, X18, e18, W18, st18⟩ := putF X11 hx hZ hown (host := "") (Or.inl (hw _ (List.mem_of_getElem? (i := 25) rfl))) Via.refl e11 F_v_q13 E_a_q12 (Or.inr ⟨(hw _ (List.mem_of_getElem? (i := 21) rfl)), rfl, hnm⟩) (hw _ (List.mem_of_getElem? (i := 6) rfl)) (ty := (.array .byte)) (by decide) rfl rfl (g := (mkF m 54 #[.val (.ref a0_), .val (.ref a1_), .val (.int (0 : Int32)), .val (.int (2 : Int32)), .val .null, .val (.ref tb)] [(.ref tb), (.ref a0_)])) rfl rfl (hb hby d3_54)
  have E_a_q19 := E_a_q12.wr W18
  have F_v_q20 := F_v_q13.same W18
  have F_c_q21 := F_c_q14.other W18 (Or.inr (slot_ne (Or.inr (hw _ (List.mem_of_getElem? (i := 22) rfl))) (Or.inr (hw _ (List.mem_of_getElem? (i := 21) rfl))) (by decide) (t := .byte) (t' := (.array .byte)) (by decide) (by decide)))
  have SC_q22 := SC_q15.wr W18
  have VB_q23 := VB_q16.other W18 ne_tb
  have K24 := K17.wr W18 (Or.inl (List.mem_of_getElem? (i := 0) rfl))
  have N18 := Fr.snoc X18 N11 g_a0_
  refine gs (fun t k => st18 _ k) ?_
  show G (T18.setTop (mkF m 57 #[.val (.ref a0_), .val (.ref a1_), .val (.int (0 : Int32)), .val (.int (2 : Int32)), .val .null, .val (.ref tb)] []))
  obtain ⟨fs, hr, hrun, hended, hW, hsame⟩ := X18.leave (v := none) (fun _ => rfl)
  refine gl _ ⟨_, _, X18.returnOut hx Bd.returns (hb hby d3_57) hr, hrun, hended, _, _, rfl, ?_, ⟨_, rfl⟩, hW, hsame.mono (by decide) (by decide)⟩
  show Q3 Z a0_ h0 n0 _ T18.heap _
  rw [e18]
  exact ⟨rfl, N18, K24, E_a_q19, _, _, _, F_v_q20, F_c_q21, VB_q23⟩
theorem pd_3 : parseMethodDescriptor "([CIILjava/lang/Void;)V" = some ⟨[(.array .char), .int, .int, (.object "java/lang/Void")], none⟩ := by decide +kernel
theorem d2_0 : decode jdk_42_method_3_code 0 = .ok (.aload_n 0, 1) := by decide +kernel
theorem d2_1 : decode jdk_42_method_3_code 1 = .ok (.aload_n 1, 1) := by decide +kernel
theorem d2_2 : decode jdk_42_method_3_code 2 = .ok (.iconst 0, 1) := by decide +kernel
theorem d2_3 : decode jdk_42_method_3_code 3 = .ok (.aload_n 1, 1) := by decide +kernel
theorem d2_4 : decode jdk_42_method_3_code 4 = .ok (.arraylength, 1) := by decide +kernel
theorem d2_5 : decode jdk_42_method_3_code 5 = .ok (.aconst_null, 1) := by decide +kernel
theorem d2_6 : decode jdk_42_method_3_code 6 = .ok (.invokespecial 27, 3) := by decide +kernel
theorem d2_9 : decode jdk_42_method_3_code 9 = .ok (.return_, 1) := by decide +kernel
theorem ef_2 (m : MethodId) (a0_ : Addr) (a1_ : Addr) : entryFrame m #[(.ref a0_), (.ref a1_)] 2 = mkF m 0 #[.val (.ref a0_), .val (.ref a1_)] [] := by first | (simp [entryFrame, mkF, argsToLocals, Value.category]; done) | rfl
def Q2 (Z : State) (a0_ : Addr) (h0 : Heap) (n0 : Nat) (v : Option Value) (h : Heap) (L : List Loc) : Prop := v = none ∧ Fr n0 L ∧ Keep h0 h [a0_] ∧ Exa Z h a0_ "java/lang/String" ∧ ∃ (t : Addr) (k : ClassId) (vs : List Value), Fld Z h a0_ "java/lang/String" "value" "[B" (.ref t) ∧ Fld Z h a0_ "java/lang/String" "coder" "B" (.int (0 : Int32)) ∧ Arv Z h t k .byte (2 : Int32) vs (.int (0 : Int32))
set_option maxRecDepth 65536 in
set_option maxHeartbeats 40000000 in
theorem rm2 (l : Launch) (Z : State) (a0 : Array Value) (hw : ∀ d ∈ tables_1, d.before a0 Z = true) (ws : List Jvm.Cond) (a0_ : Addr) (a1_ : Addr) (x y : Int32) (kq1 : ClassId) (cs : Int32) (h0 : Heap) (n0 : Nat) (Z0 : n0 ≤ h0.size) (E_a : Exa Z h0 a0_ "java/lang/String") (F_v : Fld Z h0 a0_ "java/lang/String" "value" "[B" .null) (F_c : Fld Z h0 a0_ "java/lang/String" "coder" "B" (.int (0 : Int32))) (g_a0_ : n0 ≤ a0_) (V1 : Arv Z h0 a1_ kq1 .char (2 : Int32) [.int x, .int y] (.int (0 : Int32))) (rx : ¬ (255 : Int32) < x) (ry : ¬ (255 : Int32) < y) (SC : Sta Z h0 "java/lang/String" "COMPACT_STRINGS" "Z" (.int cs)) (hcs : ¬ cs = (0 : Int32)) :
    MetFree l (⟨"java/lang/String", "<init>", "([C)V"⟩ : MethodName) (head1 (Jvm.Cond.code (⟨"java/lang/String", "<init>", "([C)V"⟩ : MethodName) jdk_42_method_3_code 2 none :: ws) ({ frames := 3, cells := 1, slots := 2, locals := 52 } : Room)) (fun a U => a = #[(.ref a0_), (.ref a1_)] ∧ Z.Warmed39 U.vm ∧ U.heap = h0) (fun _ _ _ _ _ => True) (fun _ U o U' => ∃ v L, o = .returned v ∧ Q2 Z a0_ h0 n0 v U'.heap L ∧ FrameEnd U o U' L ({ frames := 3, cells := 1, slots := 2, locals := 52 } : Room).cells ({ frames := 3, cells := 1, slots := 2, locals := 52 } : Room).slots) := by
  refine MetFree.of_bodySF (plainFor_of_name pn_java_lang_String) hisR ?_
  intro p e s m args below meth c s₁ Bd hml0 hP hK
  obtain ⟨rfl, hZ, hh⟩ := hP
  have hx := Bd.exec
  have hby := Bd.bytes
  have hml : c.maxLocals = 2 := hml0
  have hown : s.vm.findClass "java/lang/String" = some m.cls := findClass_of_methodNamed Bd.named
  have hnm := (name_of_methodNamed Bd.named Bd.method).1
  have X0 : Stand p l e ({ frames := 3, cells := 1, slots := 2, locals := 52 } : Room) s m #[(.ref a0_), (.ref a1_)] below meth c s₁ [] 0 0 := Stand.of_body Bd
  have e0 : s₁.heap = h0 := by rw [← hh, Bd.state]; rfl
  have N0 := Fr.nil n0
  have pre0 : ∀ t, Steps p.tables e below (s₁.setTop (mkF m 0 #[.val (.ref a0_), .val (.ref a1_)] [])) t → Steps p.tables e below (s₁.setTop (entryFrame m #[(.ref a0_), (.ref a1_)] 2)) t := fun t k => castTop (ef_2 m a0_ a1_) k
  have K0 := Keep.refl h0 [a0_]
  refine own_start pre0 fun G gs gl => ?_
  show G (s₁.setTop (mkF m 0 #[.val (.ref a0_), .val (.ref a1_)] []))
  obtain ⟨c1, A1, -, S1, M1, -, -⟩ := id V1
  show G (s₁.setTop (mkF m 0 #[.val (.ref a0_), .val (.ref a1_)] []))
  refine gs (fun t k => XS.aloadN X0.here hx rfl (hb hby d2_0) rfl rfl k) ?_
  show G (s₁.setTop (mkF m 1 #[.val (.ref a0_), .val (.ref a1_)] [(.ref a0_)]))
  refine gs (fun t k => XS.aloadN X0.here hx rfl (hb hby d2_1) rfl rfl k) ?_
  show G (s₁.setTop (mkF m 2 #[.val (.ref a0_), .val (.ref a1_)] [(.ref a1_), (.ref a0_)]))
  refine gs (fun t k => XS.iconst X0.here hx rfl (hb hby d2_2) k) ?_
  show G (s₁.setTop (mkF m 3 #[.val (.ref a0_), .val (.ref a1_)] [(.int (0 : Int32)), (.ref a1_), (.ref a0_)]))
  refine gs (fun t k => XS.aloadN X0.here hx rfl (hb hby d2_3) rfl rfl k) ?_
  show G (s₁.setTop (mkF m 4 #[.val (.ref a0_), .val (.ref a1_)] [(.ref a1_), (.int (0 : Int32)), (.ref a1_), (.ref a0_)]))
  refine gs (fun t k => X0.arraylength hx (by rw [e0]; exact A1.1) (State.isArrayOf_alike hZ.alike A1.2.1) (g := (mkF m 4 #[.val (.ref a0_), .val (.ref a1_)] [(.ref a1_), (.int (0 : Int32)), (.ref a1_), (.ref a0_)])) rfl rfl (hb hby d2_4) _ k) ?_
  rw [len_of S1 M1]
  show G (s₁.setTop (mkF m 5 #[.val (.ref a0_), .val (.ref a1_)] [(.int (2 : Int32)), (.int (0 : Int32)), (.ref a1_), (.ref a0_)]))
  refine gs (fun t k => XS.aconstNull X0.here hx rfl (hb hby d2_5) k) ?_
  show G (s₁.setTop (mkF m 6 #[.val (.ref a0_), .val (.ref a1_)] [.null, (.int (2 : Int32)), (.int (0 : Int32)), (.ref a1_), (.ref a0_)]))
  obtain ⟨_, _, ⟨T1, L1, k1, n1⟩, -, X1, ⟨Lc1, hQ1, l1, y1, z1⟩, st1⟩ := X0.specialBack hx (y := (⟨"java/lang/String", "<init>", "([CIILjava/lang/Void;)V"⟩ : MethodName)) rfl hown (mvT hZ (hw _ (List.mem_of_getElem? (i := 12) rfl))) (mvT hZ (hw _ (List.mem_of_getElem? (i := 13) rfl))) (mvT hZ (hw _ (List.mem_of_getElem? (i := 15) rfl))) (by decide) (backOf (W := 0) (rm3 l Z a0 hw [] a0_ a1_ x y kq1 cs h0 n0 Z0 E_a F_v F_c g_a0_ V1 rx ry SC hcs) hZ (hw _ (List.mem_of_getElem? (i := 15) rfl)) (hw _ (List.mem_of_getElem? (i := 7) rfl)) (by decide) (by decide)) (g := (mkF m 6 #[.val (.ref a0_), .val (.ref a1_)] [.null, (.int (2 : Int32)), (.int (0 : Int32)), (.ref a1_), (.ref a0_)])) rfl (by rw [hml]; rfl) (Steps.refl _) (a := a0_) (argsL := [(.ref a1_), (.int (0 : Int32)), (.int (2 : Int32)), .null]) (rest := []) (lenOf pd_3 rfl) rfl (by show 2 * 0 + _ ≤ _; exact Nat.le_of_eq rfl) (hb hby d2_6) (fun _ _ => ⟨rfl, e0, (by decide : 0 + 1 ≤ _), (by decide : 0 + 2 ≤ _)⟩)
  dsimp only [Pt.U, Pt.locs, Pt.cells, Pt.slots] at X1 l1 y1 z1 st1 hQ1
  subst y1 z1
  obtain ⟨rfl, N1q, Kc1, rest1⟩ := hQ1
  have N1 : Fr n0 L1 := by rw [l1]; exact Fr.app N0 N1q
  refine gs (fun t k => st1.trans k) ?_
  show G (T1.setTop (mkF m 9 #[.val (.ref a0_), .val (.ref a1_)] []))
  obtain ⟨fs, hr, hrun, hended, hW, hsame⟩ := X1.leave (v := none) (fun _ => rfl)
  refine gl _ ⟨_, _, X1.returnOut hx Bd.returns (hb hby d2_9) hr, hrun, hended, _, _, rfl, ?_, ⟨_, rfl⟩, hW, hsame.mono (by decide) (by decide)⟩
  show Q2 Z a0_ h0 n0 _ T1.heap _
  exact ⟨rfl, N1, Kc1, rest1⟩
theorem d16_0 : decode jdk_43_method_3_code 0 = .ok (.iload_n 0, 1) := by decide +kernel
theorem d16_1 : decode jdk_43_method_3_code 1 = .ok (.sipush 255, 3) := by decide +kernel
theorem d16_4 : decode jdk_43_method_3_code 4 = .ok (.if_icmp .gt 7, 3) := by decide +kernel
theorem d16_7 : decode jdk_43_method_3_code 7 = .ok (.iconst 1, 1) := by decide +kernel
theorem d16_8 : decode jdk_43_method_3_code 8 = .ok (.goto 4, 3) := by decide +kernel
theorem d16_12 : decode jdk_43_method_3_code 12 = .ok (.ireturn, 1) := by decide +kernel
theorem pn_java_lang_StringLatin1 : plainName "java/lang/StringLatin1" = true := by first | (simp [plainName, overriddenIn]; done) | decide +kernel
theorem ef_16 (m : MethodId) (p0 : Int32) : entryFrame m #[(.int p0)] 1 = mkF m 0 #[.val (.int p0)] [] := by first | (simp [entryFrame, mkF, argsToLocals, Value.category]; done) | rfl
def Q16 (h0 : Heap) (n0 : Nat) (v : Option Value) (h : Heap) (L : List Loc) : Prop := v = some (.int (1 : Int32)) ∧ Fr n0 L ∧ h = h0
set_option maxRecDepth 65536 in
set_option maxHeartbeats 40000000 in
theorem rm16 (l : Launch) (Z : State) (a0 : Array Value) (hw : ∀ d ∈ tables_1, d.before a0 Z = true) (ws : List Jvm.Cond) (p0 : Int32)  (h0 : Heap) (n0 : Nat) (Z0 : n0 ≤ h0.size) (hp : ¬ (255 : Int32) < p0) :
    MetFree l (⟨"java/lang/StringLatin1", "canEncode", "(C)Z"⟩ : MethodName) (head1 (Jvm.Cond.code (⟨"java/lang/StringLatin1", "canEncode", "(C)Z"⟩ : MethodName) jdk_43_method_3_code 1 (some .boolean) :: ws) ({ frames := 0, cells := 0, slots := 0, locals := 0 } : Room)) (fun a U => a = #[(.int p0)] ∧ Z.Warmed39 U.vm ∧ U.heap = h0) (fun _ _ _ _ _ => True) (fun _ U o U' => ∃ v L, o = .returned v ∧ Q16 h0 n0 v U'.heap L ∧ FrameEnd U o U' L ({ frames := 0, cells := 0, slots := 0, locals := 0 } : Room).cells ({ frames := 0, cells := 0, slots := 0, locals := 0 } : Room).slots) := by
  refine MetFree.of_bodySF (plainFor_of_name pn_java_lang_StringLatin1) hisR ?_
  intro p e s m args below meth c s₁ Bd hml0 hP hK
  obtain ⟨rfl, hZ, hh⟩ := hP
  have hx := Bd.exec
  have hby := Bd.bytes
  have hml : c.maxLocals = 1 := hml0
  have hown : s.vm.findClass "java/lang/StringLatin1" = some m.cls := findClass_of_methodNamed Bd.named
  have hnm := (name_of_methodNamed Bd.named Bd.method).1
  have X0 : Stand p l e ({ frames := 0, cells := 0, slots := 0, locals := 0 } : Room) s m #[(.int p0)] below meth c s₁ [] 0 0 := Stand.of_body Bd
  have e0 : s₁.heap = h0 := by rw [← hh, Bd.state]; rfl
  have N0 := Fr.nil n0
  have pre0 : ∀ t, Steps p.tables e below (s₁.setTop (mkF m 0 #[.val (.int p0)] [])) t → Steps p.tables e below (s₁.setTop (entryFrame m #[(.int p0)] 1)) t := fun t k => castTop (ef_16 m p0) k
  have K0 := Keep.refl h0 []
  refine own_start pre0 fun G gs gl => ?_
  show G (s₁.setTop (mkF m 0 #[.val (.int p0)] []))
  refine gs (fun t k => XS.iloadN X0.here hx rfl (hb hby d16_0) rfl k) ?_
  show G (s₁.setTop (mkF m 1 #[.val (.int p0)] [(.int p0)]))
  refine gs (fun t k => XS.sipush X0.here hx rfl (hb hby d16_1) k) ?_
  show G (s₁.setTop (mkF m 4 #[.val (.int p0)] [(.int (255 : Int32)), (.int p0)]))
  refine gs (fun t k => XS.icmpNo X0.here hx rfl (hb hby d16_4) rfl (flt hp).2.2.1 k) ?_
  show G (s₁.setTop (mkF m 7 #[.val (.int p0)] []))
  refine gs (fun t k => XS.iconst X0.here hx rfl (hb hby d16_7) k) ?_
  show G (s₁.setTop (mkF m 8 #[.val (.int p0)] [(.int (1 : Int32))]))
  refine gs (fun t k => XS.goto X0.here hx rfl (pc0 := 8) (pc' := 12) rfl (hb hby d16_8) (by decide) (by decide) k) ?_
  show G (s₁.setTop (mkF m 12 #[.val (.int p0)] [(.int (1 : Int32))]))
  obtain ⟨fs, hr, hrun, hended, hW, hsame⟩ := X0.leave (v := some (.int (1 : Int32))) (fun h => by rw [Bd.returns] at h; cases h)
  refine gl _ ⟨_, _, retN X0 hx (t := .boolean) Bd.returns (by simp) (hb hby d16_12) hr, hrun, hended, _, _, rfl, ?_, ⟨_, rfl⟩, hW, hsame.mono (by decide) (by decide)⟩
  show Q16 h0 n0 _ s₁.heap _
  rw [e0]
  exact ⟨rfl, N0, rfl⟩
theorem d17_0 : decode jdk_43_method_46_code 0 = .ok (.iconst 1, 1) := by decide +kernel
theorem d17_1 : decode jdk_43_method_46_code 1 = .ok (.newarray .byte, 2) := by decide +kernel
theorem d17_3 : decode jdk_43_method_46_code 3 = .ok (.dup, 1) := by decide +kernel
theorem d17_4 : decode jdk_43_method_46_code 4 = .ok (.iconst 0, 1) := by decide +kernel
theorem d17_5 : decode jdk_43_method_46_code 5 = .ok (.iload_n 0, 1) := by decide +kernel
theorem d17_6 : decode jdk_43_method_46_code 6 = .ok (.i2b, 1) := by decide +kernel
theorem d17_7 : decode jdk_43_method_46_code 7 = .ok (.bastore, 1) := by decide +kernel
theorem d17_8 : decode jdk_43_method_46_code 8 = .ok (.areturn, 1) := by decide +kernel
theorem ef_17 (m : MethodId) (p0 : Int32) : entryFrame m #[(.int p0)] 1 = mkF m 0 #[.val (.int p0)] [] := by first | (simp [entryFrame, mkF, argsToLocals, Value.category]; done) | rfl
def Q17 (Z : State) (h0 : Heap) (n0 : Nat) (v : Option Value) (h : Heap) (L : List Loc) : Prop := ∃ (t : Addr) (k : ClassId) (vs : List Value), v = some (.ref t) ∧ Fr n0 L ∧ Keep h0 h [] ∧ Arv Z h t k .byte (1 : Int32) vs (.int (0 : Int32))
set_option maxRecDepth 65536 in
set_option maxHeartbeats 40000000 in
theorem rm17 (l : Launch) (Z : State) (a0 : Array Value) (hw : ∀ d ∈ tables_1, d.before a0 Z = true) (ws : List Jvm.Cond) (p0 : Int32)  (h0 : Heap) (n0 : Nat) (Z0 : n0 ≤ h0.size)  :
    MetFree l (⟨"java/lang/StringLatin1", "toBytes", "(C)[B"⟩ : MethodName) (head1 (Jvm.Cond.code (⟨"java/lang/StringLatin1", "toBytes", "(C)[B"⟩ : MethodName) jdk_43_method_46_code 1 (some (.array .byte)) :: ws) ({ frames := 0, cells := 1, slots := 1, locals := 0 } : Room)) (fun a U => a = #[(.int p0)] ∧ Z.Warmed39 U.vm ∧ U.heap = h0) (fun _ _ _ _ _ => True) (fun _ U o U' => ∃ v L, o = .returned v ∧ Q17 Z h0 n0 v U'.heap L ∧ FrameEnd U o U' L ({ frames := 0, cells := 1, slots := 1, locals := 0 } : Room).cells ({ frames := 0, cells := 1, slots := 1, locals := 0 } : Room).slots) := by
  refine MetFree.of_bodySF (plainFor_of_name pn_java_lang_StringLatin1) hisR ?_
  intro p e s m args below meth c s₁ Bd hml0 hP hK
  obtain ⟨rfl, hZ, hh⟩ := hP
  have hx := Bd.exec
  have hby := Bd.bytes
  have hml : c.maxLocals = 1 := hml0
  have hown : s.vm.findClass "java/lang/StringLatin1" = some m.cls := findClass_of_methodNamed Bd.named
  have hnm := (name_of_methodNamed Bd.named Bd.method).1
  have X0 : Stand p l e ({ frames := 0, cells := 1, slots := 1, locals := 0 } : Room) s m #[(.int p0)] below meth c s₁ [] 0 0 := Stand.of_body Bd
  have e0 : s₁.heap = h0 := by rw [← hh, Bd.state]; rfl
  have N0 := Fr.nil n0
  have pre0 : ∀ t, Steps p.tables e below (s₁.setTop (mkF m 0 #[.val (.int p0)] [])) t → Steps p.tables e below (s₁.setTop (entryFrame m #[(.int p0)] 1)) t := fun t k => castTop (ef_17 m p0) k
  have K0 := Keep.refl h0 []
  refine own_start pre0 fun G gs gl => ?_
  show G (s₁.setTop (mkF m 0 #[.val (.int p0)] []))
  refine gs (fun t k => XS.iconst X0.here hx rfl (hb hby d17_0) k) ?_
  show G (s₁.setTop (mkF m 1 #[.val (.int p0)] [(.int (1 : Int32))]))
  obtain ⟨T1, h1, k1, X1, e1, E1, A1, st1⟩ := newP X0 hx hZ (hw _ (List.mem_of_getElem? (i := 20) rfl)) e0 (g := (mkF m 1 #[.val (.int p0)] [(.int (1 : Int32))])) rfl (hb hby d17_1) rfl (by decide) (cap := 1) (by decide) (by decide) (by decide) (by decide)
  obtain ⟨b1, g1⟩ : ∃ z, z = h0.size := ⟨_, rfl⟩
  rw [← g1] at A1 st1
  have sz_b1 : h0.size ≤ b1 := Nat.le_trans K0.1 (Nat.le_of_eq g1.symm)
  have g_b1 : n0 ≤ b1 := Nat.le_trans Z0 sz_b1
  have K2 := K0.ext E1
  have V_b1 : Arv Z h1 b1 k1 .byte (1 : Int32) [(.int (0 : Int32))] (.int (0 : Int32)) := (Arv.new A1 (by decide)).pad (pad_rep [] (.int (0 : Int32)) 1)
  refine gs (fun t k => st1 _ k) ?_
  show G (T1.setTop (mkF m 3 #[.val (.int p0)] [(.ref b1)]))
  refine gs (fun t k => XS.dup X1.here hx rfl (hb hby d17_3) rfl rfl k) ?_
  show G (T1.setTop (mkF m 4 #[.val (.int p0)] [(.ref b1), (.ref b1)]))
  refine gs (fun t k => XS.iconst X1.here hx rfl (hb hby d17_4) k) ?_
  show G (T1.setTop (mkF m 5 #[.val (.int p0)] [(.int (0 : Int32)), (.ref b1), (.ref b1)]))
  refine gs (fun t k => XS.iloadN X1.here hx rfl (hb hby d17_5) rfl k) ?_
  show G (T1.setTop (mkF m 6 #[.val (.int p0)] [(.int p0), (.int (0 : Int32)), (.ref b1), (.ref b1)]))
  refine gs (fun t k => XS.i2b X1.here hx rfl (hb hby d17_6) rfl k) ?_
  show G (T1.setTop (mkF m 7 #[.val (.int p0)] [(.int (p0.toInt8.toInt32)), (.int (0 : Int32)), (.ref b1), (.ref b1)]))
  obtain ⟨vc3, vA3, vq3, vS3, vN3, vH3, vG3⟩ := V_b1
  have hin3 : ¬ ((0 : Int32) < 0 ∨ vc3.slots.size ≤ ((0 : Int32)).toNatClampNeg) := inb_of vS3 ⟨by decide, by decide⟩
  obtain ⟨T3, h3, X3, e3, W3, st3⟩ := stB X1 hx hZ e1 vA3 (j := (0 : Int32)) hin3 (g := (mkF m 7 #[.val (.int p0)] [(.int (p0.toInt8.toInt32)), (.int (0 : Int32)), (.ref b1), (.ref b1)])) rfl rfl (hb hby d17_7)
  have K4 := K2.wr W3 (Or.inr sz_b1)
  have V_b1_q3 := Arv.set vA3 vq3 vS3 vN3 vH3 vG3 (fits_nar_byte _) W3 0 rfl (Nat.le_of_ble_eq_true rfl)
  have N3 := Fr.snoc X3 N0 g_b1
  refine gs (fun t k => st3 _ k) ?_
  show G (T3.setTop (mkF m 8 #[.val (.int p0)] [(.ref b1)]))
  obtain ⟨fs, hr, hrun, hended, hW, hsame⟩ := X3.leave (v := some (.ref b1)) (fun h => by rw [Bd.returns] at h; cases h)
  refine gl _ ⟨_, _, retOut X3 hx Bd.returns rfl (Or.inr (Or.inr (Or.inr (Or.inr ⟨rfl, rfl, rfl⟩)))) (hb hby d17_8) hr, hrun, hended, _, _, rfl, ?_, ⟨_, rfl⟩, hW, hsame.mono (by decide) (by decide)⟩
  show Q17 Z h0 n0 _ T3.heap _
  rw [e3]
  exact ⟨_, _, _, rfl, N3, K4, V_b1_q3⟩
theorem d18_0 : decode jdk_42_method_151_code 0 = .ok (.aload_n 0, 1) := by decide +kernel
theorem d18_1 : decode jdk_42_method_151_code 1 = .ok (.invokespecial 1, 3) := by decide +kernel
theorem d18_4 : decode jdk_42_method_151_code 4 = .ok (.aload_n 0, 1) := by decide +kernel
theorem d18_5 : decode jdk_42_method_151_code 5 = .ok (.aload_n 1, 1) := by decide +kernel
theorem d18_6 : decode jdk_42_method_151_code 6 = .ok (.putfield 9, 3) := by decide +kernel
theorem d18_9 : decode jdk_42_method_151_code 9 = .ok (.aload_n 0, 1) := by decide +kernel
theorem d18_10 : decode jdk_42_method_151_code 10 = .ok (.iload_n 2, 1) := by decide +kernel
theorem d18_11 : decode jdk_42_method_151_code 11 = .ok (.putfield 15, 3) := by decide +kernel
theorem d18_14 : decode jdk_42_method_151_code 14 = .ok (.return_, 1) := by decide +kernel
theorem ef_18 (m : MethodId) (a0_ : Addr) (a1_ : Addr) (p2 : Int32) : entryFrame m #[(.ref a0_), (.ref a1_), (.int p2)] 3 = mkF m 0 #[.val (.ref a0_), .val (.ref a1_), .val (.int p2)] [] := by first | (simp [entryFrame, mkF, argsToLocals, Value.category]; done) | rfl
def Q18 (Z : State) (a0_ a1_ : Addr) (p2 : Int32) (h0 : Heap) (n0 : Nat) (v : Option Value) (h : Heap) (L : List Loc) : Prop := v = none ∧ Fr n0 L ∧ Keep h0 h [a0_] ∧ Exa Z h a0_ "java/lang/String" ∧ Fld Z h a0_ "java/lang/String" "value" "[B" (.ref a1_) ∧ Fld Z h a0_ "java/lang/String" "coder" "B" (.int p2.toInt8.toInt32)
set_option maxRecDepth 65536 in
set_option maxHeartbeats 40000000 in
theorem rm18 (l : Launch) (Z : State) (a0 : Array Value) (hw : ∀ d ∈ tables_1, d.before a0 Z = true) (ws : List Jvm.Cond) (a0_ : Addr) (a1_ : Addr) (p2 : Int32)  (h0 : Heap) (n0 : Nat) (Z0 : n0 ≤ h0.size) (E_a : Exa Z h0 a0_ "java/lang/String") (F_v : Fld Z h0 a0_ "java/lang/String" "value" "[B" .null) (F_c : Fld Z h0 a0_ "java/lang/String" "coder" "B" (.int (0 : Int32))) (g_a0_ : n0 ≤ a0_) :
    MetFree l (⟨"java/lang/String", "<init>", "([BB)V"⟩ : MethodName) (head1 (Jvm.Cond.code (⟨"java/lang/String", "<init>", "([BB)V"⟩ : MethodName) jdk_42_method_151_code 3 none :: ws) ({ frames := 1, cells := 0, slots := 0, locals := 12 } : Room)) (fun a U => a = #[(.ref a0_), (.ref a1_), (.int p2)] ∧ Z.Warmed39 U.vm ∧ U.heap = h0) (fun _ _ _ _ _ => True) (fun _ U o U' => ∃ v L, o = .returned v ∧ Q18 Z a0_ a1_ p2 h0 n0 v U'.heap L ∧ FrameEnd U o U' L ({ frames := 1, cells := 0, slots := 0, locals := 12 } : Room).cells ({ frames := 1, cells := 0, slots := 0, locals := 12 } : Room).slots) := by
  refine MetFree.of_bodySF (plainFor_of_name pn_java_lang_String) hisR ?_
  intro p e s m args below meth c s₁ Bd hml0 hP hK
  obtain ⟨rfl, hZ, hh⟩ := hP
  have hx := Bd.exec
  have hby := Bd.bytes
  have hml : c.maxLocals = 3 := hml0
  have hown : s.vm.findClass "java/lang/String" = some m.cls := findClass_of_methodNamed Bd.named
  have hnm := (name_of_methodNamed Bd.named Bd.method).1
  have X0 : Stand p l e ({ frames := 1, cells := 0, slots := 0, locals := 12 } : Room) s m #[(.ref a0_), (.ref a1_), (.int p2)] below meth c s₁ [] 0 0 := Stand.of_body Bd
  have e0 : s₁.heap = h0 := by rw [← hh, Bd.state]; rfl
  have N0 := Fr.nil n0
  have pre0 : ∀ t, Steps p.tables e below (s₁.setTop (mkF m 0 #[.val (.ref a0_), .val (.ref a1_), .val (.int p2)] [])) t → Steps p.tables e below (s₁.setTop (entryFrame m #[(.ref a0_), (.ref a1_), (.int p2)] 3)) t := fun t k => castTop (ef_18 m a0_ a1_ p2) k
  have K0 := Keep.refl h0 [a0_]
  refine own_start pre0 fun G gs gl => ?_
  show G (s₁.setTop (mkF m 0 #[.val (.ref a0_), .val (.ref a1_), .val (.int p2)] []))
  refine gs (fun t k => XS.aloadN X0.here hx rfl (hb hby d18_0) rfl rfl k) ?_
  show G (s₁.setTop (mkF m 1 #[.val (.ref a0_), .val (.ref a1_), .val (.int p2)] [(.ref a0_)]))
  obtain ⟨T1, X1, e1, st1⟩ := initO X0 hx hZ hown (hw _ (List.mem_of_getElem? (i := 16) rfl)) (hw _ (List.mem_of_getElem? (i := 17) rfl)) (hw _ (List.mem_of_getElem? (i := 18) rfl)) e0 (g := (mkF m 1 #[.val (.ref a0_), .val (.ref a1_), .val (.int p2)] [(.ref a0_)])) rfl (by rw [hml]; rfl) rfl (hb hby d18_1) (by decide) (W := 0) (by show 2 * 0 + _ ≤ _; exact Nat.le_of_eq rfl) (by decide)
  refine gs (fun t k => st1 _ k) ?_
  show G (T1.setTop (mkF m 4 #[.val (.ref a0_), .val (.ref a1_), .val (.int p2)] []))
  refine gs (fun t k => XS.aloadN X1.here hx rfl (hb hby d18_4) rfl rfl k) ?_
  show G (T1.setTop (mkF m 5 #[.val (.ref a0_), .val (.ref a1_), .val (.int p2)] [(.ref a0_)]))
  refine gs (fun t k => XS.aloadN X1.here hx rfl (hb hby d18_5) rfl rfl k) ?_
  show G (T1.setTop (mkF m 6 #[.val (.ref a0_), .val (.ref a1_), .val (.int p2)] [(.ref a1_), (.ref a0_)]))
  obtain ⟨T2, h2, X2, e2, W2, st2⟩ := putF X1 hx hZ hown (host := "") (Or.inl (hw _ (List.mem_of_getElem? (i := 25) rfl))) Via.refl e1 F_v E_a (Or.inr ⟨(hw _ (List.mem_of_getElem? (i := 21) rfl)), rfl, hnm⟩) (hw _ (List.mem_of_getElem? (i := 6) rfl)) (ty := (.array .byte)) (by decide) rfl rfl (g := (mkF m 6 #[.val (.ref a0_), .val (.ref a1_), .val (.int p2)] [(.ref a1_), (.ref a0_)])) rfl rfl (hb hby d18_6)
  have E_a_q3 := E_a.wr W2
  have F_v_q4 := F_v.same W2
  have F_c_q5 := F_c.other W2 (Or.inr (slot_ne (Or.inr (hw _ (List.mem_of_getElem? (i := 22) rfl))) (Or.inr (hw _ (List.mem_of_getElem? (i := 21) rfl))) (by decide) (t := .byte) (t' := (.array .byte)) (by decide) (by decide)))
  have K6 := K0.wr W2 (Or.inl (List.mem_of_getElem? (i := 0) rfl))
  have N2 := Fr.snoc X2 N0 g_a0_
  refine gs (fun t k => st2 _ k) ?_
  show G (T2.setTop (mkF m 9 #[.val (.ref a0_), .val (.ref a1_), .val (.int p2)] []))
  refine gs (fun t k => XS.aloadN X2.here hx rfl (hb hby d18_9) rfl rfl k) ?_
  show G (T2.setTop (mkF m 10 #[.val (.ref a0_), .val (.ref a1_), .val (.int p2)] [(.ref a0_)]))
  refine gs (fun t k => XS.iloadN X2.here hx rfl (hb hby d18_10) rfl k) ?_
  show G (T2.setTop (mkF m 11 #[.val (.ref a0_), .val (.ref a1_), .val (.int p2)] [(.int p2), (.ref a0_)]))
  obtain ⟨T7, h7, X7, e7, W7, st7⟩ := putFN X2 hx hZ hown (hw _ (List.mem_of_getElem? (i := 26) rfl)) Via.refl e2 F_c_q5 E_a_q3 (Or.inr ⟨(hw _ (List.mem_of_getElem? (i := 22) rfl)), rfl, hnm⟩) (hw _ (List.mem_of_getElem? (i := 6) rfl)) (ty := .byte) (v' := (.int (p2.toInt8.toInt32))) (by decide) rfl (fits_nar_byte _) (g := (mkF m 11 #[.val (.ref a0_), .val (.ref a1_), .val (.int p2)] [(.int p2), (.ref a0_)])) rfl rfl (hb hby d18_11)
  have E_a_q8 := E_a_q3.wr W7
  have F_v_q9 := F_v_q4.other W7 (Or.inr (slot_ne (Or.inr (hw _ (List.mem_of_getElem? (i := 21) rfl))) (Or.inr (hw _ (List.mem_of_getElem? (i := 22) rfl))) (by decide) (t := (.array .byte)) (t' := .byte) (by decide) (by decide)))
  have F_c_q10 := F_c_q5.same W7
  have K11 := K6.wr W7 (Or.inl (List.mem_of_getElem? (i := 0) rfl))
  have N7 := Fr.snoc X7 N2 g_a0_
  refine gs (fun t k => st7 _ k) ?_
  show G (T7.setTop (mkF m 14 #[.val (.ref a0_), .val (.ref a1_), .val (.int p2)] []))
  obtain ⟨fs, hr, hrun, hended, hW, hsame⟩ := X7.leave (v := none) (fun _ => rfl)
  refine gl _ ⟨_, _, X7.returnOut hx Bd.returns (hb hby d18_14) hr, hrun, hended, _, _, rfl, ?_, ⟨_, rfl⟩, hW, hsame.mono (by decide) (by decide)⟩
  show Q18 Z a0_ a1_ p2 h0 n0 _ T7.heap _
  rw [e7]
  exact ⟨rfl, N7, K11, E_a_q8, F_v_q9, F_c_q10⟩
theorem pd_4 : parseMethodDescriptor "(C)Z" = some ⟨[.char], some .boolean⟩ := by decide +kernel
theorem pd_5 : parseMethodDescriptor "(C)[B" = some ⟨[.char], some (.array .byte)⟩ := by decide +kernel
theorem pd_6 : parseMethodDescriptor "([BB)V" = some ⟨[(.array .byte), .byte], none⟩ := by decide +kernel
theorem d15_0 : decode jdk_42_method_139_code 0 = .ok (.getstatic 38, 3) := by decide +kernel
theorem d15_3 : decode jdk_42_method_139_code 3 = .ok (.ifCond .eq 23, 3) := by decide +kernel
theorem d15_6 : decode jdk_42_method_139_code 6 = .ok (.iload_n 0, 1) := by decide +kernel
theorem d15_7 : decode jdk_42_method_139_code 7 = .ok (.invokestatic 1015, 3) := by decide +kernel
theorem d15_10 : decode jdk_42_method_139_code 10 = .ok (.ifCond .eq 16, 3) := by decide +kernel
theorem d15_13 : decode jdk_42_method_139_code 13 = .ok (.new 10, 3) := by decide +kernel
theorem d15_16 : decode jdk_42_method_139_code 16 = .ok (.dup, 1) := by decide +kernel
theorem d15_17 : decode jdk_42_method_139_code 17 = .ok (.iload_n 0, 1) := by decide +kernel
theorem d15_18 : decode jdk_42_method_139_code 18 = .ok (.invokestatic 1018, 3) := by decide +kernel
theorem d15_21 : decode jdk_42_method_139_code 21 = .ok (.iconst 0, 1) := by decide +kernel
theorem d15_22 : decode jdk_42_method_139_code 22 = .ok (.invokespecial 209, 3) := by decide +kernel
theorem d15_25 : decode jdk_42_method_139_code 25 = .ok (.areturn, 1) := by decide +kernel
theorem ef_15 (m : MethodId) (p0 : Int32) : entryFrame m #[(.int p0)] 1 = mkF m 0 #[.val (.int p0)] [] := by first | (simp [entryFrame, mkF, argsToLocals, Value.category]; done) | rfl
def Q15 (Z : State) (h0 : Heap) (n0 : Nat) (v : Option Value) (h : Heap) (L : List Loc) : Prop := ∃ b : Addr, v = some (.ref b) ∧ Fr n0 L ∧ Keep h0 h [] ∧ own_Str Z h b (1 : Int32)
set_option maxRecDepth 65536 in
set_option maxHeartbeats 40000000 in
theorem rm15 (l : Launch) (Z : State) (a0 : Array Value) (hw : ∀ d ∈ tables_1, d.before a0 Z = true) (ws : List Jvm.Cond) (p0 : Int32) (cs : Int32) (h0 : Heap) (n0 : Nat) (Z0 : n0 ≤ h0.size) (SC : Sta Z h0 "java/lang/String" "COMPACT_STRINGS" "Z" (.int cs)) (hcs : ¬ cs = (0 : Int32)) (hp : ¬ (255 : Int32) < p0) :
    MetFree l (⟨"java/lang/String", "valueOf", "(C)Ljava/lang/String;"⟩ : MethodName) (head1 (Jvm.Cond.code (⟨"java/lang/String", "valueOf", "(C)Ljava/lang/String;"⟩ : MethodName) jdk_42_method_139_code 1 (some (.object "java/lang/String")) :: ws) ({ frames := 2, cells := 2, slots := 5, locals := 27 } : Room)) (fun a U => a = #[(.int p0)] ∧ Z.Warmed39 U.vm ∧ U.heap = h0) (fun _ _ _ _ _ => True) (fun _ U o U' => ∃ v L, o = .returned v ∧ Q15 Z h0 n0 v U'.heap L ∧ FrameEnd U o U' L ({ frames := 2, cells := 2, slots := 5, locals := 27 } : Room).cells ({ frames := 2, cells := 2, slots := 5, locals := 27 } : Room).slots) := by
  refine MetFree.of_bodySF (plainFor_of_name pn_java_lang_String) hisR ?_
  intro p e s m args below meth c s₁ Bd hml0 hP hK
  obtain ⟨rfl, hZ, hh⟩ := hP
  have hx := Bd.exec
  have hby := Bd.bytes
  have hml : c.maxLocals = 1 := hml0
  have hown : s.vm.findClass "java/lang/String" = some m.cls := findClass_of_methodNamed Bd.named
  have hnm := (name_of_methodNamed Bd.named Bd.method).1
  have X0 : Stand p l e ({ frames := 2, cells := 2, slots := 5, locals := 27 } : Room) s m #[(.int p0)] below meth c s₁ [] 0 0 := Stand.of_body Bd
  have e0 : s₁.heap = h0 := by rw [← hh, Bd.state]; rfl
  have N0 := Fr.nil n0
  have pre0 : ∀ t, Steps p.tables e below (s₁.setTop (mkF m 0 #[.val (.int p0)] [])) t → Steps p.tables e below (s₁.setTop (entryFrame m #[(.int p0)] 1)) t := fun t k => castTop (ef_15 m p0) k
  have K0 := Keep.refl h0 []
  refine own_start pre0 fun G gs gl => ?_
  show G (s₁.setTop (mkF m 0 #[.val (.int p0)] []))
  obtain ⟨T1, X1, e1, st1⟩ := getS2 X0 hx hZ hown (host := "") (Or.inl (hw _ (List.mem_of_getElem? (i := 27) rfl))) Via.refl e0 SC (g := (mkF m 0 #[.val (.int p0)] [])) rfl (hb hby d15_0)
  refine gs (fun t k => st1 _ k) ?_
  show G (T1.setTop (mkF m 3 #[.val (.int p0)] [(.int cs)]))
  refine gs (fun t k => XS.ifNo X1.here hx rfl (hb hby d15_3) rfl ((if0 _ _).trans (feq hcs).1) k) ?_
  show G (T1.setTop (mkF m 6 #[.val (.int p0)] []))
  refine gs (fun t k => XS.iloadN X1.here hx rfl (hb hby d15_6) rfl k) ?_
  show G (T1.setTop (mkF m 7 #[.val (.int p0)] [(.int p0)]))
  obtain ⟨_, _, ⟨T2, L2, k2, n2⟩, -, X2, ⟨Lc2, hQ2, l2, y2, z2⟩, st2⟩ := Jvm.LawKit.callS X1 hx (y := (⟨"java/lang/StringLatin1", "canEncode", "(C)Z"⟩ : MethodName)) hown (mvT hZ (hw _ (List.mem_of_getElem? (i := 82) rfl))) (mvT hZ (hw _ (List.mem_of_getElem? (i := 83) rfl))) (mvT hZ (hw _ (List.mem_of_getElem? (i := 84) rfl))) (mvT hZ (hw _ (List.mem_of_getElem? (i := 85) rfl))) (by decide) (backOf (W := 0) (rm16 l Z a0 hw [] p0 h0 n0 (Nat.le_trans Z0 K0.1) hp) hZ (hw _ (List.mem_of_getElem? (i := 85) rfl)) (hw _ (List.mem_of_getElem? (i := 84) rfl)) (by decide) (by decide)) (g := (mkF m 7 #[.val (.int p0)] [(.int p0)])) rfl (by rw [hml]; rfl) (argsL := [(.int p0)]) (rest := []) (lenOf pd_4 rfl) rfl (by show 2 * 0 + _ ≤ _; exact Nat.le_of_eq rfl) (hb hby d15_7) (fun _ _ => ⟨rfl, e1, (by decide : 0 + 0 ≤ _), (by decide : 0 + 0 ≤ _)⟩)
  dsimp only [Pt.U, Pt.locs, Pt.cells, Pt.slots] at X2 l2 y2 z2 st2 hQ2
  subst y2 z2
  obtain ⟨rfl, N2q, e2⟩ := hQ2
  have N2 : Fr n0 L2 := by rw [l2]; exact Fr.app N0 N2q
  refine gs (fun t k => st2 _ k) ?_
  show G (T2.setTop (mkF m 10 #[.val (.int p0)] [(.int (1 : Int32))]))
  refine gs (fun t k => XS.ifNo X2.here hx rfl (hb hby d15_10) rfl ((if0 _ _).trans (feq (by decide : ¬ ((1 : Int32) = (0 : Int32)))).1) k) ?_
  show G (T2.setTop (mkF m 13 #[.val (.int p0)] []))
  obtain ⟨T3, h3, X3, e3, E3, A3, D3, -, st3⟩ := newO X2 hx hZ hown (hw _ (List.mem_of_getElem? (i := 86) rfl)) (hw _ (List.mem_of_getElem? (i := 6) rfl)) (hw _ (List.mem_of_getElem? (i := 7) rfl)) e2 (g := (mkF m 13 #[.val (.int p0)] [])) rfl (hb hby d15_13) (by decide) (by decide)
  obtain ⟨b3, g3⟩ : ∃ z, z = h0.size := ⟨_, rfl⟩
  rw [← g3] at A3 D3 st3
  have sz_b3 : h0.size ≤ b3 := Nat.le_trans K0.1 (Nat.le_of_eq g3.symm)
  have g_b3 : n0 ≤ b3 := Nat.le_trans Z0 sz_b3
  have SC_q4 := SC.ext E3
  have K5 := K0.ext E3
  have E_b3 := A3
  have F_value_b3 : Fld Z h3 b3 "java/lang/String" "value" "[B" .null := D3 (Or.inr (hw _ (List.mem_of_getElem? (i := 21) rfl))) (ty := (.array .byte)) (by decide)
  have F_coder_b3 : Fld Z h3 b3 "java/lang/String" "coder" "B" (.int (0 : Int32)) := D3 (Or.inr (hw _ (List.mem_of_getElem? (i := 22) rfl))) (ty := .byte) (by decide)
  refine gs (fun t k => st3 _ k) ?_
  show G (T3.setTop (mkF m 16 #[.val (.int p0)] [(.ref b3)]))
  refine gs (fun t k => XS.dup X3.here hx rfl (hb hby d15_16) rfl rfl k) ?_
  show G (T3.setTop (mkF m 17 #[.val (.int p0)] [(.ref b3), (.ref b3)]))
  refine gs (fun t k => XS.iloadN X3.here hx rfl (hb hby d15_17) rfl k) ?_
  show G (T3.setTop (mkF m 18 #[.val (.int p0)] [(.int p0), (.ref b3), (.ref b3)]))
  obtain ⟨_, _, ⟨T6, L6, k6, n6⟩, -, X6, ⟨Lc6, hQ6, l6, y6, z6⟩, st6⟩ := Jvm.LawKit.callS X3 hx (y := (⟨"java/lang/StringLatin1", "toBytes", "(C)[B"⟩ : MethodName)) hown (mvT hZ (hw _ (List.mem_of_getElem? (i := 87) rfl))) (mvT hZ (hw _ (List.mem_of_getElem? (i := 88) rfl))) (mvT hZ (hw _ (List.mem_of_getElem? (i := 84) rfl))) (mvT hZ (hw _ (List.mem_of_getElem? (i := 89) rfl))) (by decide) (backOf (W := 2) (rm17 l Z a0 hw [] p0 h3 n0 (Nat.le_trans Z0 K5.1)) hZ (hw _ (List.mem_of_getElem? (i := 89) rfl)) (hw _ (List.mem_of_getElem? (i := 84) rfl)) (by decide) (by decide)) (g := (mkF m 18 #[.val (.int p0)] [(.int p0), (.ref b3), (.ref b3)])) rfl (by rw [hml]; rfl) (argsL := [(.int p0)]) (rest := [(.ref b3), (.ref b3)]) (lenOf pd_5 rfl) rfl (by show 2 * 0 + _ ≤ _; exact Nat.le_of_eq rfl) (hb hby d15_18) (fun _ _ => ⟨rfl, e3, (by decide : 1 + 1 ≤ _), (by decide : 4 + 1 ≤ _)⟩)
  dsimp only [Pt.U, Pt.locs, Pt.cells, Pt.slots] at X6 l6 y6 z6 st6 hQ6
  subst y6 z6
  obtain ⟨tb, kb, vb, rfl, N6q, Kc6, VB⟩ := hQ6
  have N6 : Fr n0 L6 := by rw [l6]; exact Fr.app N2 N6q
  refine gs (fun t k => st6 _ k) ?_
  have SC_q7 := own_sta_keep SC_q4 Kc6
  have E_b3_q8 := E_b3.keep Kc6
  have F_value_b3_q9 := F_value_b3.keep Kc6 nin0
  have F_coder_b3_q10 := F_coder_b3.keep Kc6 nin0
  have K11 := K5.trans Kc6 all0
  show G (T6.setTop (mkF m 21 #[.val (.int p0)] [(.ref tb), (.ref b3), (.ref b3)]))
  refine gs (fun t k => XS.iconst X6.here hx rfl (hb hby d15_21) k) ?_
  show G (T6.setTop (mkF m 22 #[.val (.int p0)] [(.int (0 : Int32)), (.ref tb), (.ref b3), (.ref b3)]))
  have ne_tb : tb ≠ b3 := (ne_arr E_b3_q8 (hw _ (List.mem_of_getElem? (i := 6) rfl)) (VB.choose_spec.1)).symm
  obtain ⟨_, _, ⟨T12, L12, k12, n12⟩, -, X12, ⟨Lc12, hQ12, l12, y12, z12⟩, st12⟩ := X6.specialBack hx (y := (⟨"java/lang/String", "<init>", "([BB)V"⟩ : MethodName)) rfl hown (mvT hZ (hw _ (List.mem_of_getElem? (i := 90) rfl))) (mvT hZ (hw _ (List.mem_of_getElem? (i := 91) rfl))) (mvT hZ (hw _ (List.mem_of_getElem? (i := 92) rfl))) (by decide) (backOf (W := 1) (rm18 l Z a0 hw [] b3 tb (0 : Int32) T6.heap n0 (Nat.le_trans Z0 K11.1) E_b3_q8 F_value_b3_q9 F_coder_b3_q10 g_b3) hZ (hw _ (List.mem_of_getElem? (i := 92) rfl)) (hw _ (List.mem_of_getElem? (i := 7) rfl)) (by decide) (by decide)) (g := (mkF m 22 #[.val (.int p0)] [(.int (0 : Int32)), (.ref tb), (.ref b3), (.ref b3)])) rfl (by rw [hml]; rfl) (Steps.refl _) (a := b3) (argsL := [(.ref tb), (.int (0 : Int32))]) (rest := [(.ref b3)]) (lenOf pd_6 rfl) rfl (by show 2 * 0 + _ ≤ _; exact Nat.le_of_eq rfl) (hb hby d15_22) (fun _ _ => ⟨rfl, rfl, (by decide : 2 + 0 ≤ _), (by decide : 5 + 0 ≤ _)⟩)
  dsimp only [Pt.U, Pt.locs, Pt.cells, Pt.slots] at X12 l12 y12 z12 st12 hQ12
  subst y12 z12
  obtain ⟨rfl, N12q, Kc12, Ex12, Fv12, Fc12⟩ := hQ12
  have N12 : Fr n0 L12 := by rw [l12]; exact Fr.app N6 N12q
  refine gs (fun t k => st12.trans k) ?_
  have SC_q13 := own_sta_keepE SC_q7 Kc12 E_b3_q8
  have E_b3_q14 := E_b3_q8.keep Kc12
  have VB_q15 := VB.keep Kc12 (ninS ne_tb nin0)
  have K16 := K11.trans Kc12 (allS (Or.inr sz_b3) all0)
  have FC12 : Fld Z T12.heap b3 "java/lang/String" "coder" "B" (.int (0 : Int32)) := Fc12
  show G (T12.setTop (mkF m 25 #[.val (.int p0)] [(.ref b3)]))
  obtain ⟨fs, hr, hrun, hended, hW, hsame⟩ := X12.leave (v := some (.ref b3)) (fun h => by rw [Bd.returns] at h; cases h)
  refine gl _ ⟨_, _, retOut X12 hx Bd.returns rfl (Or.inr (Or.inr (Or.inr (Or.inr ⟨rfl, rfl, rfl⟩)))) (hb hby d15_25) hr, hrun, hended, _, _, rfl, ?_, ⟨_, rfl⟩, hW, hsame.mono (by decide) (by decide)⟩
  show Q15 Z h0 n0 _ T12.heap _
  exact ⟨_, rfl, N12, K16, (⟨tb, kb, vb, Ex12, Fv12, FC12, VB_q15⟩ : own_Str Z T12.heap b3 (1 : Int32))⟩
theorem ef_3h (m : MethodId) (a0_ : Addr) (a1_ : Addr) : entryFrame m #[(.ref a0_), (.ref a1_), (.int (0 : Int32)), (.int (0 : Int32)), .null] 6 = mkF m 0 #[.val (.ref a0_), .val (.ref a1_), .val (.int (0 : Int32)), .val (.int (0 : Int32)), .val .null, .unset] [] := by first | (simp [entryFrame, mkF, argsToLocals, Value.category]; done) | rfl
def Q3h (Z : State) (a0_ : Addr) (h0 : Heap) (n0 : Nat) (v : Option Value) (h : Heap) (L : List Loc) : Prop := v = none ∧ Fr n0 L ∧ Keep h0 h [a0_] ∧ own_Str Z h a0_ (0 : Int32)
set_option maxRecDepth 65536 in
set_option maxHeartbeats 40000000 in
theorem rm3h (l : Launch) (Z : State) (a0 : Array Value) (hw : ∀ d ∈ tables_1, d.before a0 Z = true) (ws : List Jvm.Cond) (a0_ : Addr) (a1_ : Addr)  (h0 : Heap) (n0 : Nat) (Z0 : n0 ≤ h0.size) (E_a : Exa Z h0 a0_ "java/lang/String") (F_v : Fld Z h0 a0_ "java/lang/String" "value" "[B" .null) (F_c : Fld Z h0 a0_ "java/lang/String" "coder" "B" (.int (0 : Int32))) (g_a0_ : n0 ≤ a0_) :
    MetFree l (⟨"java/lang/String", "<init>", "([CIILjava/lang/Void;)V"⟩ : MethodName) (head1 (Jvm.Cond.code (⟨"java/lang/String", "<init>", "([CIILjava/lang/Void;)V"⟩ : MethodName) jdk_42_method_149_code 6 none :: ws) ({ frames := 1, cells := 4, slots := 8, locals := 12 } : Room)) (fun a U => a = #[(.ref a0_), (.ref a1_), (.int (0 : Int32)), (.int (0 : Int32)), .null] ∧ Z.Warmed39 U.vm ∧ U.heap = h0 ∧ CHv Z own_EL U.vm h0) (fun _ _ _ _ _ => True) (fun _ U o U' => ∃ v L, o = .returned v ∧ Q3h Z a0_ h0 n0 v U'.heap L ∧ CHr Z own_EL U.vm U.heap U'.vm U'.heap ∧ ReturnedEndW U o U' L ({ frames := 1, cells := 4, slots := 8, locals := 12 } : Room).cells ({ frames := 1, cells := 4, slots := 8, locals := 12 } : Room).slots) := by
  refine MetFree.of_bodySF (plainFor_of_name pn_java_lang_String) hisR ?_
  intro p e s m args below meth c s₁ Bd hml0 hP hK
  obtain ⟨rfl, hZ, hh, H0⟩ := hP
  have hx := Bd.exec
  have hby := Bd.bytes
  have hml : c.maxLocals = 6 := hml0
  have hown : s.vm.findClass "java/lang/String" = some m.cls := findClass_of_methodNamed Bd.named
  have hnm := (name_of_methodNamed Bd.named Bd.method).1
  have X0 : Stand p l e ({ frames := 1, cells := 4, slots := 8, locals := 12 } : Room) s m #[(.ref a0_), (.ref a1_), (.int (0 : Int32)), (.int (0 : Int32)), .null] below meth c s₁ [] 0 0 := Stand.of_body Bd
  have e0 : s₁.heap = h0 := by rw [← hh, Bd.state]; rfl
  have N0 := Fr.nil n0
  have pre0 : ∀ t, Steps p.tables e below (s₁.setTop (mkF m 0 #[.val (.ref a0_), .val (.ref a1_), .val (.int (0 : Int32)), .val (.int (0 : Int32)), .val .null, .unset] [])) t → Steps p.tables e below (s₁.setTop (entryFrame m #[(.ref a0_), (.ref a1_), (.int (0 : Int32)), (.int (0 : Int32)), .null] 6)) t := fun t k => castTop (ef_3h m a0_ a1_) k
  have K0 := Keep.refl h0 [a0_]
  have hEL := own_ELw hw
  have C0 := CHr.refl H0
  have SI0 : s.Since s.vm 0 := (State.WarmedH.refl s).since 0
  have HK0 : 0 ≤ h0.size := Nat.zero_le _
  refine own_start pre0 fun G gs gl => ?_
  show G (s₁.setTop (mkF m 0 #[.val (.ref a0_), .val (.ref a1_), .val (.int (0 : Int32)), .val (.int (0 : Int32)), .val .null, .unset] []))
  have Sf0 := own_safe hZ.alike E_a F_v
  show G (s₁.setTop (mkF m 0 #[.val (.ref a0_), .val (.ref a1_), .val (.int (0 : Int32)), .val (.int (0 : Int32)), .val .null, .unset] []))
  refine gs (fun t k => XS.aloadN X0.here hx rfl (hb hby d3_0) rfl rfl k) ?_
  show G (s₁.setTop (mkF m 1 #[.val (.ref a0_), .val (.ref a1_), .val (.int (0 : Int32)), .val (.int (0 : Int32)), .val .null, .unset] [(.ref a0_)]))
  obtain ⟨T1, X1, e1, st1⟩ := initO X0 hx hZ hown (hw _ (List.mem_of_getElem? (i := 16) rfl)) (hw _ (List.mem_of_getElem? (i := 17) rfl)) (hw _ (List.mem_of_getElem? (i := 18) rfl)) e0 (g := (mkF m 1 #[.val (.ref a0_), .val (.ref a1_), .val (.int (0 : Int32)), .val (.int (0 : Int32)), .val .null, .unset] [(.ref a0_)])) rfl (by rw [hml]; rfl) rfl (hb hby d3_1) (by decide) (W := 0) (by show 2 * 0 + _ ≤ _; exact Nat.le_of_eq rfl) (by decide)
  refine gs (fun t k => st1 _ k) ?_
  show G (T1.setTop (mkF m 4 #[.val (.ref a0_), .val (.ref a1_), .val (.int (0 : Int32)), .val (.int (0 : Int32)), .val .null, .unset] []))
  refine gs (fun t k => XS.iloadN X1.here hx rfl (hb hby d3_4) rfl k) ?_
  show G (T1.setTop (mkF m 5 #[.val (.ref a0_), .val (.ref a1_), .val (.int (0 : Int32)), .val (.int (0 : Int32)), .val .null, .unset] [(.int (0 : Int32))]))
  refine gs (fun t k => XS.ifNo X1.here hx rfl (hb hby d3_5) rfl ((if0 _ _).trans (teq (by decide : (0 : Int32) = (0 : Int32))).2) k) ?_
  show G (T1.setTop (mkF m 8 #[.val (.ref a0_), .val (.ref a1_), .val (.int (0 : Int32)), .val (.int (0 : Int32)), .val .null, .unset] []))
  refine gs (fun t k => XS.aloadN X1.here hx rfl (hb hby d3_8) rfl rfl k) ?_
  show G (T1.setTop (mkF m 9 #[.val (.ref a0_), .val (.ref a1_), .val (.int (0 : Int32)), .val (.int (0 : Int32)), .val .null, .unset] [(.ref a0_)]))
  have lt2_a0_ := E_a.lt
  obtain ⟨la2, T2, h2, k2, lb2, lk2, X2, e2, E2, SI2, HK2, hZ, hown, lE2, lC2, lF2, lV2, -, -, lH2, -, lN2, st2⟩ := ldcCH (s := s) (vm0 := s.vm) X1 hx hZ hown (hw _ (List.mem_of_getElem? (i := 19) rfl)) (own_wS hw) e1 SI0 HK0 hEL (List.mem_cons_self ..) C0.1 (vs := []) (z := (0 : Int32)) ⟨by simp, rfl⟩ (by decide) rfl (g := (mkF m 9 #[.val (.ref a0_), .val (.ref a1_), .val (.int (0 : Int32)), .val (.int (0 : Int32)), .val .null, .unset] [(.ref a0_)])) rfl (hb hby d3_9) (n := 0) (by decide) (by decide) (by decide) (by decide)
  have Sf2_a0_ := lH2.safe lt2_a0_ Sf0
  obtain ⟨nl2_a0_, nb2_a0_⟩ := lN2 a0_ Sf2_a0_
  have E_a_q3 := E_a.ext E2
  have F_v_q4 := F_v.ext E2
  have F_c_q5 := F_c.ext E2
  have K6 := K0.ext E2
  have C7c := C0.trans (lH2)
  refine gs (fun t k => st2 _ k) ?_
  show G (T2.setTop (mkF m 11 #[.val (.ref a0_), .val (.ref a1_), .val (.int (0 : Int32)), .val (.int (0 : Int32)), .val .null, .unset] [(.ref la2), (.ref a0_)]))
  obtain ⟨T8, X8, e8, st8⟩ := getF X2 hx hZ hown (host := "") (Or.inl (hw _ (List.mem_of_getElem? (i := 25) rfl))) Via.refl e2 lF2 (g := (mkF m 11 #[.val (.ref a0_), .val (.ref a1_), .val (.int (0 : Int32)), .val (.int (0 : Int32)), .val .null, .unset] [(.ref la2), (.ref a0_)])) rfl rfl (hb hby d3_11)
  refine gs (fun t k => st8 _ k) ?_
  show G (T8.setTop (mkF m 14 #[.val (.ref a0_), .val (.ref a1_), .val (.int (0 : Int32)), .val (.int (0 : Int32)), .val .null, .unset] [(.ref lb2), (.ref a0_)]))
  obtain ⟨T9, h9, X9, e9, W9, st9⟩ := putF X8 hx hZ hown (host := "") (Or.inl (hw _ (List.mem_of_getElem? (i := 25) rfl))) Via.refl e8 F_v_q4 E_a_q3 (Or.inr ⟨(hw _ (List.mem_of_getElem? (i := 21) rfl)), rfl, hnm⟩) (hw _ (List.mem_of_getElem? (i := 6) rfl)) (ty := (.array .byte)) (by decide) rfl rfl (g := (mkF m 14 #[.val (.ref a0_), .val (.ref a1_), .val (.int (0 : Int32)), .val (.int (0 : Int32)), .val .null, .unset] [(.ref lb2), (.ref a0_)])) rfl rfl (hb hby d3_14)
  have Sf10 := Safe.wr W9 Sf2_a0_ C7c.1 Sf2_a0_
  have E_a_q11 := E_a_q3.wr W9
  have F_v_q12 := F_v_q4.same W9
  have F_c_q13 := F_c_q5.other W9 (Or.inr (slot_ne (Or.inr (hw _ (List.mem_of_getElem? (i := 22) rfl))) (Or.inr (hw _ (List.mem_of_getElem? (i := 21) rfl))) (by decide) (t := .byte) (t' := (.array .byte)) (by decide) (by decide)))
  have lE2_q14 := lE2.wr W9
  have lC2_q15 := lC2.other W9 (Or.inl (Ne.symm nl2_a0_))
  have lF2_q16 := lF2.other W9 (Or.inl (Ne.symm nl2_a0_))
  have lV2_q17 := lV2.other W9 (Ne.symm nb2_a0_)
  have K18 := K6.wr W9 (Or.inl (List.mem_of_getElem? (i := 0) rfl))
  have C19c := C7c.trans (CHr.wr W9 Sf2_a0_ C7c.1)
  have HK20 := Nat.le_trans HK2 ((Keep.of_wr W9).1)
  have N9 := Fr.snoc X9 N0 g_a0_
  refine gs (fun t k => st9 _ k) ?_
  show G (T9.setTop (mkF m 17 #[.val (.ref a0_), .val (.ref a1_), .val (.int (0 : Int32)), .val (.int (0 : Int32)), .val .null, .unset] []))
  refine gs (fun t k => XS.aloadN X9.here hx rfl (hb hby d3_17) rfl rfl k) ?_
  show G (T9.setTop (mkF m 18 #[.val (.ref a0_), .val (.ref a1_), .val (.int (0 : Int32)), .val (.int (0 : Int32)), .val .null, .unset] [(.ref a0_)]))
  have lt21_a0_ := E_a_q11.lt
  obtain ⟨la21, T21, h21, k21, lb21, lk21, X21, e21, E21, SI21, HK21, hZ, hown, lE21, lC21, lF21, lV21, -, -, lH21, -, lN21, st21⟩ := ldcCH (s := s) (vm0 := T2.vm) X9 hx hZ hown (hw _ (List.mem_of_getElem? (i := 19) rfl)) (own_wS hw) e9 SI2 HK20 hEL (List.mem_cons_self ..) C19c.1 (vs := []) (z := (0 : Int32)) ⟨by simp, rfl⟩ (by decide) rfl (g := (mkF m 18 #[.val (.ref a0_), .val (.ref a1_), .val (.int (0 : Int32)), .val (.int (0 : Int32)), .val .null, .unset] [(.ref a0_)])) rfl (hb hby d3_18) (n := 0) (by decide) (by decide) (by decide) (by decide)
  have Sf21_a0_ := lH21.safe lt21_a0_ Sf10
  obtain ⟨nl21_a0_, nb21_a0_⟩ := lN21 a0_ Sf21_a0_
  have E_a_q22 := E_a_q11.ext E21
  have F_v_q23 := F_v_q12.ext E21
  have F_c_q24 := F_c_q13.ext E21
  have lE2_q25 := lE2_q14.ext E21
  have lC2_q26 := lC2_q15.ext E21
  have lF2_q27 := lF2_q16.ext E21
  have lV2_q28 := lV2_q17.ext E21
  have K29 := K18.ext E21
  have C30c := C19c.trans (lH21)
  refine gs (fun t k => st21 _ k) ?_
  show G (T21.setTop (mkF m 20 #[.val (.ref a0_), .val (.ref a1_), .val (.int (0 : Int32)), .val (.int (0 : Int32)), .val .null, .unset] [(.ref la21), (.ref a0_)]))
  obtain ⟨T31, X31, e31, st31⟩ := getF X21 hx hZ hown (host := "") (Or.inl (hw _ (List.mem_of_getElem? (i := 26) rfl))) Via.refl e21 lC21 (g := (mkF m 20 #[.val (.ref a0_), .val (.ref a1_), .val (.int (0 : Int32)), .val (.int (0 : Int32)), .val .null, .unset] [(.ref la21), (.ref a0_)])) rfl rfl (hb hby d3_20)
  refine gs (fun t k => st31 _ k) ?_
  show G (T31.setTop (mkF m 23 #[.val (.ref a0_), .val (.ref a1_), .val (.int (0 : Int32)), .val (.int (0 : Int32)), .val .null, .unset] [(.int (0 : Int32)), (.ref a0_)]))
  obtain ⟨T32, h32, X32, e32, W32, st32⟩ := putFN X31 hx hZ hown (hw _ (List.mem_of_getElem? (i := 26) rfl)) Via.refl e31 F_c_q24 E_a_q22 (Or.inr ⟨(hw _ (List.mem_of_getElem? (i := 22) rfl)), rfl, hnm⟩) (hw _ (List.mem_of_getElem? (i := 6) rfl)) (ty := .byte) (v' := (.int ((0 : Int32).toInt8.toInt32))) (by decide) rfl (fits_nar_byte _) (g := (mkF m 23 #[.val (.ref a0_), .val (.ref a1_), .val (.int (0 : Int32)), .val (.int (0 : Int32)), .val .null, .unset] [(.int (0 : Int32)), (.ref a0_)])) rfl rfl (hb hby d3_23)
  have Sf33 := Safe.wr W32 Sf21_a0_ C30c.1 Sf21_a0_
  have E_a_q34 := E_a_q22.wr W32
  have F_v_q35 := F_v_q23.other W32 (Or.inr (slot_ne (Or.inr (hw _ (List.mem_of_getElem? (i := 21) rfl))) (Or.inr (hw _ (List.mem_of_getElem? (i := 22) rfl))) (by decide) (t := (.array .byte)) (t' := .byte) (by decide) (by decide)))
  have F_c_q36 := F_c_q24.same W32
  have lE2_q37 := lE2_q25.wr W32
  have lC2_q38 := lC2_q26.other W32 (Or.inl (Ne.symm nl2_a0_))
  have lF2_q39 := lF2_q27.other W32 (Or.inl (Ne.symm nl2_a0_))
  have lV2_q40 := lV2_q28.other W32 (Ne.symm nb2_a0_)
  have lE21_q41 := lE21.wr W32
  have lC21_q42 := lC21.other W32 (Or.inl (Ne.symm nl21_a0_))
  have lF21_q43 := lF21.other W32 (Or.inl (Ne.symm nl21_a0_))
  have lV21_q44 := lV21.other W32 (Ne.symm nb21_a0_)
  have K45 := K29.wr W32 (Or.inl (List.mem_of_getElem? (i := 0) rfl))
  have C46c := C30c.trans (CHr.wr W32 Sf21_a0_ C30c.1)
  have HK47 := Nat.le_trans HK21 ((Keep.of_wr W32).1)
  have N32 := Fr.snoc X32 N9 g_a0_
  refine gs (fun t k => st32 _ k) ?_
  show G (T32.setTop (mkF m 26 #[.val (.ref a0_), .val (.ref a1_), .val (.int (0 : Int32)), .val (.int (0 : Int32)), .val .null, .unset] []))
  have HKz := Nat.le_trans HK47 (Nat.le_of_eq (congrArg Array.size e32).symm)
  obtain ⟨fs, hr, hrun, hended, hRE⟩ := Stand.leaveW (s := s) (vm₁ := T21.vm) X32 SI21 HKz (v := none) (fun _ => rfl)
  have CZ := C46c.trans (CHv.at (s := s) (vm0 := T21.vm) X32 hZ hEL C46c.1)
  refine gl _ ⟨_, _, X32.returnOut hx Bd.returns (hb hby d3_26) hr, hrun, hended, _, _, rfl, ?_, ?_, hRE.1, hRE.2.1, hRE.2.2.1, hRE.2.2.2.mono (by decide) (by decide)⟩
  · show Q3h Z a0_ h0 n0 _ T32.heap _
    rw [e32]
    exact ⟨rfl, N32, K45, _, _, _, E_a_q34, F_v_q35, F_c_q36, lV2_q40⟩
  · rw [hh]
    show CHr Z own_EL s.vm h0 T32.vm T32.heap
    rw [e32]
    exact CZ
theorem ef_2h (m : MethodId) (a0_ : Addr) (a1_ : Addr) : entryFrame m #[(.ref a0_), (.ref a1_)] 2 = mkF m 0 #[.val (.ref a0_), .val (.ref a1_)] [] := by first | (simp [entryFrame, mkF, argsToLocals, Value.category]; done) | rfl
def Q2h (Z : State) (a0_ : Addr) (h0 : Heap) (n0 : Nat) (v : Option Value) (h : Heap) (L : List Loc) : Prop := v = none ∧ Fr n0 L ∧ Keep h0 h [a0_] ∧ own_Str Z h a0_ (0 : Int32)
set_option maxRecDepth 65536 in
set_option maxHeartbeats 40000000 in
theorem rm2h (l : Launch) (Z : State) (a0 : Array Value) (hw : ∀ d ∈ tables_1, d.before a0 Z = true) (ws : List Jvm.Cond) (a0_ : Addr) (a1_ : Addr) (kq1 : ClassId) (h0 : Heap) (n0 : Nat) (Z0 : n0 ≤ h0.size) (E_a : Exa Z h0 a0_ "java/lang/String") (F_v : Fld Z h0 a0_ "java/lang/String" "value" "[B" .null) (F_c : Fld Z h0 a0_ "java/lang/String" "coder" "B" (.int (0 : Int32))) (g_a0_ : n0 ≤ a0_) (V1 : Arv Z h0 a1_ kq1 .char (0 : Int32) [] (.int (0 : Int32))) :
    MetFree l (⟨"java/lang/String", "<init>", "([C)V"⟩ : MethodName) (head1 (Jvm.Cond.code (⟨"java/lang/String", "<init>", "([C)V"⟩ : MethodName) jdk_42_method_3_code 2 none :: ws) ({ frames := 2, cells := 4, slots := 8, locals := 29 } : Room)) (fun a U => a = #[(.ref a0_), (.ref a1_)] ∧ Z.Warmed39 U.vm ∧ U.heap = h0 ∧ CHv Z own_EL U.vm h0) (fun _ _ _ _ _ => True) (fun _ U o U' => ∃ v L, o = .returned v ∧ Q2h Z a0_ h0 n0 v U'.heap L ∧ CHr Z own_EL U.vm U.heap U'.vm U'.heap ∧ ReturnedEndW U o U' L ({ frames := 2, cells := 4, slots := 8, locals := 29 } : Room).cells ({ frames := 2, cells := 4, slots := 8, locals := 29 } : Room).slots) := by
  refine MetFree.of_bodySF (plainFor_of_name pn_java_lang_String) hisR ?_
  intro p e s m args below meth c s₁ Bd hml0 hP hK
  obtain ⟨rfl, hZ, hh, H0⟩ := hP
  have hx := Bd.exec
  have hby := Bd.bytes
  have hml : c.maxLocals = 2 := hml0
  have hown : s.vm.findClass "java/lang/String" = some m.cls := findClass_of_methodNamed Bd.named
  have hnm := (name_of_methodNamed Bd.named Bd.method).1
  have X0 : Stand p l e ({ frames := 2, cells := 4, slots := 8, locals := 29 } : Room) s m #[(.ref a0_), (.ref a1_)] below meth c s₁ [] 0 0 := Stand.of_body Bd
  have e0 : s₁.heap = h0 := by rw [← hh, Bd.state]; rfl
  have N0 := Fr.nil n0
  have pre0 : ∀ t, Steps p.tables e below (s₁.setTop (mkF m 0 #[.val (.ref a0_), .val (.ref a1_)] [])) t → Steps p.tables e below (s₁.setTop (entryFrame m #[(.ref a0_), (.ref a1_)] 2)) t := fun t k => castTop (ef_2h m a0_ a1_) k
  have K0 := Keep.refl h0 [a0_]
  have hEL := own_ELw hw
  have C0 := CHr.refl H0
  have SI0 : s.Since s.vm 0 := (State.WarmedH.refl s).since 0
  have HK0 : 0 ≤ h0.size := Nat.zero_le _
  refine own_start pre0 fun G gs gl => ?_
  show G (s₁.setTop (mkF m 0 #[.val (.ref a0_), .val (.ref a1_)] []))
  obtain ⟨c1, A1, -, S1, M1, -, -⟩ := id V1
  show G (s₁.setTop (mkF m 0 #[.val (.ref a0_), .val (.ref a1_)] []))
  refine gs (fun t k => XS.aloadN X0.here hx rfl (hb hby d2_0) rfl rfl k) ?_
  show G (s₁.setTop (mkF m 1 #[.val (.ref a0_), .val (.ref a1_)] [(.ref a0_)]))
  refine gs (fun t k => XS.aloadN X0.here hx rfl (hb hby d2_1) rfl rfl k) ?_
  show G (s₁.setTop (mkF m 2 #[.val (.ref a0_), .val (.ref a1_)] [(.ref a1_), (.ref a0_)]))
  refine gs (fun t k => XS.iconst X0.here hx rfl (hb hby d2_2) k) ?_
  show G (s₁.setTop (mkF m 3 #[.val (.ref a0_), .val (.ref a1_)] [(.int (0 : Int32)), (.ref a1_), (.ref a0_)]))
  refine gs (fun t k => XS.aloadN X0.here hx rfl (hb hby d2_3) rfl rfl k) ?_
  show G (s₁.setTop (mkF m 4 #[.val (.ref a0_), .val (.ref a1_)] [(.ref a1_), (.int (0 : Int32)), (.ref a1_), (.ref a0_)]))
  refine gs (fun t k => X0.arraylength hx (by rw [e0]; exact A1.1) (State.isArrayOf_alike hZ.alike A1.2.1) (g := (mkF m 4 #[.val (.ref a0_), .val (.ref a1_)] [(.ref a1_), (.int (0 : Int32)), (.ref a1_), (.ref a0_)])) rfl rfl (hb hby d2_4) _ k) ?_
  rw [len_of S1 M1]
  show G (s₁.setTop (mkF m 5 #[.val (.ref a0_), .val (.ref a1_)] [(.int (0 : Int32)), (.int (0 : Int32)), (.ref a1_), (.ref a0_)]))
  refine gs (fun t k => XS.aconstNull X0.here hx rfl (hb hby d2_5) k) ?_
  show G (s₁.setTop (mkF m 6 #[.val (.ref a0_), .val (.ref a1_)] [.null, (.int (0 : Int32)), (.int (0 : Int32)), (.ref a1_), (.ref a0_)]))
  obtain ⟨_, _, ⟨T1, L1, k1, n1⟩, -, X1, SJ1, gr1, ⟨Lc1, hQ1, l1, y1, z1, CH1⟩, st1⟩ := Stand.specialBackS (s := s.setVm s.vm) X0 hx (y := (⟨"java/lang/String", "<init>", "([CIILjava/lang/Void;)V"⟩ : MethodName)) rfl hown (mvT hZ (hw _ (List.mem_of_getElem? (i := 12) rfl))) (mvT hZ (hw _ (List.mem_of_getElem? (i := 13) rfl))) (mvT hZ (hw _ (List.mem_of_getElem? (i := 15) rfl))) (by decide) (backOfSH (s := s) (vm0 := s.vm) (W := 0) (rm3h l Z a0 hw [] a0_ a1_ h0 n0 Z0 E_a F_v F_c g_a0_) hZ (hw _ (List.mem_of_getElem? (i := 15) rfl)) (hw _ (List.mem_of_getElem? (i := 7) rfl)) (by decide) (by decide) hEL C0.1) (g := (mkF m 6 #[.val (.ref a0_), .val (.ref a1_)] [.null, (.int (0 : Int32)), (.int (0 : Int32)), (.ref a1_), (.ref a0_)])) rfl (by rw [hml]; rfl) (Steps.refl _) (a := a0_) (argsL := [(.ref a1_), (.int (0 : Int32)), (.int (0 : Int32)), .null]) (rest := []) (lenOf pd_3 rfl) rfl (by show 2 * 0 + _ ≤ _; exact Nat.le_of_eq rfl) (hb hby d2_6) (fun _ _ => ⟨rfl, e0, (by decide : 0 + 4 ≤ _), (by decide : 0 + 8 ≤ _)⟩)
  dsimp only [Pt.U, Pt.locs, Pt.cells, Pt.slots] at X1 SJ1 gr1 l1 y1 z1 CH1 st1 hQ1
  subst y1 z1
  obtain ⟨rfl, N1q, Kc1, US1⟩ := hQ1
  have N1 : Fr n0 L1 := by rw [l1]; exact Fr.app N0 N1q
  have SI1 := foldS (T := s₁) SI0 (by rw [e0]; exact HK0) SJ1 gr1
  have HK1 := Nat.le_refl T1.heap.size
  have hZ := State.Warmed39.trans (t := s.setVm s.vm) hZ SJ1.1
  have hown : (s.setVm T1.vm).vm.findClass "java/lang/String" = some m.cls := by rw [show (s.setVm T1.vm).vm = T1.vm from rfl, SJ1.1.alike.findClass]; exact hown
  have C2c := C0.trans (CH1)
  refine gs (fun t k => st1.trans k) ?_
  show G (T1.setTop (mkF m 9 #[.val (.ref a0_), .val (.ref a1_)] []))
  have HKz := HK1
  obtain ⟨fs, hr, hrun, hended, hRE⟩ := Stand.leaveW (s := s) (vm₁ := T1.vm) X1 SI1 HKz (v := none) (fun _ => rfl)
  have CZ := C2c.trans (CHv.at (s := s) (vm0 := T1.vm) X1 hZ hEL C2c.1)
  refine gl _ ⟨_, _, X1.returnOut hx Bd.returns (hb hby d2_9) hr, hrun, hended, _, _, rfl, ?_, ?_, hRE.1, hRE.2.1, hRE.2.2.1, hRE.2.2.2.mono (by decide) (by decide)⟩
  · show Q2h Z a0_ h0 n0 _ T1.heap _
    exact ⟨rfl, N1, Kc1, US1⟩
  · rw [hh]
    show CHr Z own_EL s.vm h0 T1.vm T1.heap
    exact CZ
theorem pd_7 : parseMethodDescriptor "([C)V" = some ⟨[(.array .char)], none⟩ := by decide +kernel
theorem pd_8 : parseMethodDescriptor "(C)Ljava/lang/String;" = some ⟨[.char], some (.object "java/lang/String")⟩ := by decide +kernel
theorem d1_0 : decode method_2_code 0 = .ok (.iload_n 0, 1) := by decide +kernel
theorem d1_1 : decode method_2_code 1 = .ok (.ldc 7, 2) := by decide +kernel
theorem d1_3 : decode method_2_code 3 = .ok (.iand, 1) := by decide +kernel
theorem d1_4 : decode method_2_code 4 = .ok (.iconst 3, 1) := by decide +kernel
theorem d1_5 : decode method_2_code 5 = .ok (.irem, 1) := by decide +kernel
theorem d1_6 : decode method_2_code 6 = .ok (.istore_n 2, 1) := by decide +kernel
theorem d1_7 : decode method_2_code 7 = .ok (.iload_n 1, 1) := by decide +kernel
theorem d1_8 : decode method_2_code 8 = .ok (.sipush 255, 3) := by decide +kernel
theorem d1_11 : decode method_2_code 11 = .ok (.iand, 1) := by decide +kernel
theorem d1_12 : decode method_2_code 12 = .ok (.i2c, 1) := by decide +kernel
theorem d1_13 : decode method_2_code 13 = .ok (.istore_n 3, 1) := by decide +kernel
theorem d1_14 : decode method_2_code 14 = .ok (.iload_n 1, 1) := by decide +kernel
theorem d1_15 : decode method_2_code 15 = .ok (.bipush 8, 2) := by decide +kernel
theorem d1_17 : decode method_2_code 17 = .ok (.iushr, 1) := by decide +kernel
theorem d1_18 : decode method_2_code 18 = .ok (.sipush 255, 3) := by decide +kernel
theorem d1_21 : decode method_2_code 21 = .ok (.iand, 1) := by decide +kernel
theorem d1_22 : decode method_2_code 22 = .ok (.i2c, 1) := by decide +kernel
theorem d1_23 : decode method_2_code 23 = .ok (.istore 4, 2) := by decide +kernel
theorem d1_25 : decode method_2_code 25 = .ok (.iload_n 2, 1) := by decide +kernel
theorem d1_26 : decode method_2_code 26 = .ok (.ifCond .ne 14, 3) := by decide +kernel
theorem d1_29 : decode method_2_code 29 = .ok (.new 8, 3) := by decide +kernel
theorem d1_32 : decode method_2_code 32 = .ok (.dup, 1) := by decide +kernel
theorem d1_33 : decode method_2_code 33 = .ok (.iconst 0, 1) := by decide +kernel
theorem d1_34 : decode method_2_code 34 = .ok (.newarray .char, 2) := by decide +kernel
theorem d1_36 : decode method_2_code 36 = .ok (.invokespecial 10, 3) := by decide +kernel
theorem d1_39 : decode method_2_code 39 = .ok (.areturn, 1) := by decide +kernel
theorem d1_40 : decode method_2_code 40 = .ok (.iload_n 2, 1) := by decide +kernel
theorem d1_41 : decode method_2_code 41 = .ok (.iconst 1, 1) := by decide +kernel
theorem d1_42 : decode method_2_code 42 = .ok (.if_icmp .ne 8, 3) := by decide +kernel
theorem d1_45 : decode method_2_code 45 = .ok (.iload_n 3, 1) := by decide +kernel
theorem d1_46 : decode method_2_code 46 = .ok (.invokestatic 13, 3) := by decide +kernel
theorem d1_49 : decode method_2_code 49 = .ok (.areturn, 1) := by decide +kernel
theorem d1_50 : decode method_2_code 50 = .ok (.iconst 2, 1) := by decide +kernel
theorem d1_51 : decode method_2_code 51 = .ok (.newarray .char, 2) := by decide +kernel
theorem d1_53 : decode method_2_code 53 = .ok (.astore 5, 2) := by decide +kernel
theorem d1_55 : decode method_2_code 55 = .ok (.aload 5, 2) := by decide +kernel
theorem d1_57 : decode method_2_code 57 = .ok (.iconst 0, 1) := by decide +kernel
theorem d1_58 : decode method_2_code 58 = .ok (.iload_n 3, 1) := by decide +kernel
theorem d1_59 : decode method_2_code 59 = .ok (.castore, 1) := by decide +kernel
theorem d1_60 : decode method_2_code 60 = .ok (.aload 5, 2) := by decide +kernel
theorem d1_62 : decode method_2_code 62 = .ok (.iconst 1, 1) := by decide +kernel
theorem d1_63 : decode method_2_code 63 = .ok (.iload 4, 2) := by decide +kernel
theorem d1_65 : decode method_2_code 65 = .ok (.castore, 1) := by decide +kernel
theorem d1_66 : decode method_2_code 66 = .ok (.new 8, 3) := by decide +kernel
theorem d1_69 : decode method_2_code 69 = .ok (.dup, 1) := by decide +kernel
theorem d1_70 : decode method_2_code 70 = .ok (.aload 5, 2) := by decide +kernel
theorem d1_72 : decode method_2_code 72 = .ok (.invokespecial 10, 3) := by decide +kernel
theorem d1_75 : decode method_2_code 75 = .ok (.areturn, 1) := by decide +kernel
theorem pn_com_example_stavegate_stavegate_format_StaffNamePinLaw : plainName "com/example/stavegate/stavegate/format/StaffNamePinLaw" = true := by first | (simp [plainName, overriddenIn]; done) | decide +kernel
theorem ef_1 (m : MethodId) (p0 : Int32) (p1 : Int32) : entryFrame m #[(.int p0), (.int p1)] 6 = mkF m 0 #[.val (.int p0), .val (.int p1), .unset, .unset, .unset, .unset] [] := by first | (simp [entryFrame, mkF, argsToLocals, Value.category]; done) | rfl
theorem own_two {n : Int32} (h : n = 0 ∨ n = 1 ∨ n = 2) (h0 : ¬ n = 0) (h1 : ¬ n = 1) : n = 2 := (h.resolve_left h0).resolve_left h1
def Q1 (Z : State) (p0 : Int32) (h0 : Heap) (n0 : Nat) (v : Option Value) (h : Heap) (L : List Loc) : Prop := ∃ b : Addr, v = some (.ref b) ∧ Fr n0 L ∧ Keep h0 h [] ∧ own_Str Z h b (own_len p0)
set_option maxRecDepth 65536 in
set_option maxHeartbeats 40000000 in
theorem rm1 (l : Launch) (Z : State) (a0 : Array Value) (hw : ∀ d ∈ tables_1, d.before a0 Z = true) (ws : List Jvm.Cond) (p0 : Int32) (p1 : Int32) (cs : Int32) (h0 : Heap) (n0 : Nat) (Z0 : n0 ≤ h0.size) (SC : Sta Z h0 "java/lang/String" "COMPACT_STRINGS" "Z" (.int cs)) (hcs : ¬ cs = (0 : Int32)) :
    MetFree l (⟨"com/example/stavegate/stavegate/format/StaffNamePinLaw", "draw", "(II)Ljava/lang/String;"⟩ : MethodName) (head1 (Jvm.Cond.code (⟨"com/example/stavegate/stavegate/format/StaffNamePinLaw", "draw", "(II)Ljava/lang/String;"⟩ : MethodName) method_2_code 6 (some (.object "java/lang/String")) :: ws) ({ frames := 4, cells := 6, slots := 12, locals := 66 } : Room)) (fun a U => a = #[(.int p0), (.int p1)] ∧ Z.Warmed39 U.vm ∧ U.heap = h0 ∧ CHv Z own_EL U.vm h0) (fun _ _ _ _ _ => True) (fun _ U o U' => ∃ v L, o = .returned v ∧ Q1 Z p0 h0 n0 v U'.heap L ∧ CHr Z own_EL U.vm U.heap U'.vm U'.heap ∧ ReturnedEndW U o U' L ({ frames := 4, cells := 6, slots := 12, locals := 66 } : Room).cells ({ frames := 4, cells := 6, slots := 12, locals := 66 } : Room).slots) := by
  refine MetFree.of_bodySF (plainFor_of_name pn_com_example_stavegate_stavegate_format_StaffNamePinLaw) hisR ?_
  intro p e s m args below meth c s₁ Bd hml0 hP hK
  obtain ⟨rfl, hZ, hh, H0⟩ := hP
  have hx := Bd.exec
  have hby := Bd.bytes
  have hml : c.maxLocals = 6 := hml0
  have hown : s.vm.findClass "com/example/stavegate/stavegate/format/StaffNamePinLaw" = some m.cls := findClass_of_methodNamed Bd.named
  have hnm := (name_of_methodNamed Bd.named Bd.method).1
  have X0 : Stand p l e ({ frames := 4, cells := 6, slots := 12, locals := 66 } : Room) s m #[(.int p0), (.int p1)] below meth c s₁ [] 0 0 := Stand.of_body Bd
  have e0 : s₁.heap = h0 := by rw [← hh, Bd.state]; rfl
  have N0 := Fr.nil n0
  have pre0 : ∀ t, Steps p.tables e below (s₁.setTop (mkF m 0 #[.val (.int p0), .val (.int p1), .unset, .unset, .unset, .unset] [])) t → Steps p.tables e below (s₁.setTop (entryFrame m #[(.int p0), (.int p1)] 6)) t := fun t k => castTop (ef_1 m p0 p1) k
  have K0 := Keep.refl h0 []
  have hEL := own_ELw hw
  have C0 := CHr.refl H0
  have SI0 : s.Since s.vm 0 := (State.WarmedH.refl s).since 0
  have HK0 : 0 ≤ h0.size := Nat.zero_le _
  refine own_start pre0 fun G gs gl => ?_
  show G (s₁.setTop (mkF m 0 #[.val (.int p0), .val (.int p1), .unset, .unset, .unset, .unset] []))
  refine gs (fun t k => XS.iloadN X0.here hx rfl (hb hby d1_0) rfl k) ?_
  show G (s₁.setTop (mkF m 1 #[.val (.int p0), .val (.int p1), .unset, .unset, .unset, .unset] [(.int p0)]))
  refine gs (fun t k => X0.ldcInt hx hown (mvT hZ (hw _ (List.mem_of_getElem? (i := 4) rfl))) (g := (mkF m 1 #[.val (.int p0), .val (.int p1), .unset, .unset, .unset, .unset] [(.int p0)])) rfl (hb hby d1_1) _ k) ?_
  show G (s₁.setTop (mkF m 3 #[.val (.int p0), .val (.int p1), .unset, .unset, .unset, .unset] [(.int (2147483647 : Int32)), (.int p0)]))
  refine gs (fun t k => XS.iand X0.here hx rfl (hb hby d1_3) rfl k) ?_
  show G (s₁.setTop (mkF m 4 #[.val (.int p0), .val (.int p1), .unset, .unset, .unset, .unset] [(.int (p0 &&& (2147483647 : Int32)))]))
  refine gs (fun t k => XS.iconst X0.here hx rfl (hb hby d1_4) k) ?_
  show G (s₁.setTop (mkF m 5 #[.val (.int p0), .val (.int p1), .unset, .unset, .unset, .unset] [(.int (3 : Int32)), (.int (p0 &&& (2147483647 : Int32)))]))
  refine gs (fun t k => iremM X0 hx rfl (hb hby d1_5) rfl (by decide) k) ?_
  show G (s₁.setTop (mkF m 6 #[.val (.int p0), .val (.int p1), .unset, .unset, .unset, .unset] [(.int ((p0 &&& (2147483647 : Int32)) % (3 : Int32)))]))
  obtain ⟨ln, hln⟩ : ∃ z : Int32, z = ((p0 &&& (2147483647 : Int32)) % (3 : Int32)) := ⟨_, rfl⟩
  rw [← hln]
  show G (s₁.setTop (mkF m 6 #[.val (.int p0), .val (.int p1), .unset, .unset, .unset, .unset] [(.int ln)]))
  have hln' : ln = own_len p0 := hln
  refine gs (fun t k => XS.istoreN X0.here hx rfl (hb hby d1_6) rfl (l' := #[.val (.int p0), .val (.int p1), .val (.int ln), .unset, .unset, .unset]) rfl k) ?_
  show G (s₁.setTop (mkF m 7 #[.val (.int p0), .val (.int p1), .val (.int ln), .unset, .unset, .unset] []))
  refine gs (fun t k => XS.iloadN X0.here hx rfl (hb hby d1_7) rfl k) ?_
  show G (s₁.setTop (mkF m 8 #[.val (.int p0), .val (.int p1), .val (.int ln), .unset, .unset, .unset] [(.int p1)]))
  refine gs (fun t k => XS.sipush X0.here hx rfl (hb hby d1_8) k) ?_
  show G (s₁.setTop (mkF m 11 #[.val (.int p0), .val (.int p1), .val (.int ln), .unset, .unset, .unset] [(.int (255 : Int32)), (.int p1)]))
  refine gs (fun t k => XS.iand X0.here hx rfl (hb hby d1_11) rfl k) ?_
  show G (s₁.setTop (mkF m 12 #[.val (.int p0), .val (.int p1), .val (.int ln), .unset, .unset, .unset] [(.int (p1 &&& (255 : Int32)))]))
  refine gs (fun t k => XS.i2c X0.here hx rfl (hb hby d1_12) rfl k) ?_
  show G (s₁.setTop (mkF m 13 #[.val (.int p0), .val (.int p1), .val (.int ln), .unset, .unset, .unset] [(.int ((p1 &&& (255 : Int32)).toUInt32.toUInt16.toUInt32.toInt32))]))
  obtain ⟨v1, hv1⟩ : ∃ z : Int32, z = ((p1 &&& (255 : Int32)).toUInt32.toUInt16.toUInt32.toInt32) := ⟨_, rfl⟩
  rw [← hv1]
  show G (s₁.setTop (mkF m 13 #[.val (.int p0), .val (.int p1), .val (.int ln), .unset, .unset, .unset] [(.int v1)]))
  have r1 := own_chr hv1
  refine gs (fun t k => XS.istoreN X0.here hx rfl (hb hby d1_13) rfl (l' := #[.val (.int p0), .val (.int p1), .val (.int ln), .val (.int v1), .unset, .unset]) rfl k) ?_
  show G (s₁.setTop (mkF m 14 #[.val (.int p0), .val (.int p1), .val (.int ln), .val (.int v1), .unset, .unset] []))
  refine gs (fun t k => XS.iloadN X0.here hx rfl (hb hby d1_14) rfl k) ?_
  show G (s₁.setTop (mkF m 15 #[.val (.int p0), .val (.int p1), .val (.int ln), .val (.int v1), .unset, .unset] [(.int p1)]))
  refine gs (fun t k => XS.bipush X0.here hx rfl (hb hby d1_15) k) ?_
  show G (s₁.setTop (mkF m 17 #[.val (.int p0), .val (.int p1), .val (.int ln), .val (.int v1), .unset, .unset] [(.int (8 : Int32)), (.int p1)]))
  refine gs (fun t k => XS.iushr X0.here hx rfl (hb hby d1_17) rfl k) ?_
  show G (s₁.setTop (mkF m 18 #[.val (.int p0), .val (.int p1), .val (.int ln), .val (.int v1), .unset, .unset] [(.int ((p1.toUInt32 >>> ((8 : Int32) &&& 31).toUInt32).toInt32))]))
  refine gs (fun t k => XS.sipush X0.here hx rfl (hb hby d1_18) k) ?_
  show G (s₁.setTop (mkF m 21 #[.val (.int p0), .val (.int p1), .val (.int ln), .val (.int v1), .unset, .unset] [(.int (255 : Int32)), (.int ((p1.toUInt32 >>> ((8 : Int32) &&& 31).toUInt32).toInt32))]))
  refine gs (fun t k => XS.iand X0.here hx rfl (hb hby d1_21) rfl k) ?_
  show G (s₁.setTop (mkF m 22 #[.val (.int p0), .val (.int p1), .val (.int ln), .val (.int v1), .unset, .unset] [(.int (((p1.toUInt32 >>> ((8 : Int32) &&& 31).toUInt32).toInt32) &&& (255 : Int32)))]))
  refine gs (fun t k => XS.i2c X0.here hx rfl (hb hby d1_22) rfl k) ?_
  show G (s₁.setTop (mkF m 23 #[.val (.int p0), .val (.int p1), .val (.int ln), .val (.int v1), .unset, .unset] [(.int ((((p1.toUInt32 >>> ((8 : Int32) &&& 31).toUInt32).toInt32) &&& (255 : Int32)).toUInt32.toUInt16.toUInt32.toInt32))]))
  obtain ⟨v2, hv2⟩ : ∃ z : Int32, z = ((((p1.toUInt32 >>> ((8 : Int32) &&& 31).toUInt32).toInt32) &&& (255 : Int32)).toUInt32.toUInt16.toUInt32.toInt32) := ⟨_, rfl⟩
  rw [← hv2]
  show G (s₁.setTop (mkF m 23 #[.val (.int p0), .val (.int p1), .val (.int ln), .val (.int v1), .unset, .unset] [(.int v2)]))
  have r2 := own_chr hv2
  refine gs (fun t k => XS.istore X0.here hx rfl (hb hby d1_23) rfl (l' := #[.val (.int p0), .val (.int p1), .val (.int ln), .val (.int v1), .val (.int v2), .unset]) rfl k) ?_
  show G (s₁.setTop (mkF m 25 #[.val (.int p0), .val (.int p1), .val (.int ln), .val (.int v1), .val (.int v2), .unset] []))
  refine gs (fun t k => XS.iloadN X0.here hx rfl (hb hby d1_25) rfl k) ?_
  show G (s₁.setTop (mkF m 26 #[.val (.int p0), .val (.int p1), .val (.int ln), .val (.int v1), .val (.int v2), .unset] [(.int ln)]))
  by_cases hc26 : ln = (0 : Int32)
  · refine gs (fun t k => XS.ifNo X0.here hx rfl (hb hby d1_26) rfl ((if0 _ _).trans (teq hc26).2) k) ?_
    show G (s₁.setTop (mkF m 29 #[.val (.int p0), .val (.int p1), .val (.int ln), .val (.int v1), .val (.int v2), .unset] []))
    obtain ⟨T1, h1, X1, e1, E1, A1, D1, -, st1⟩ := newO X0 hx hZ hown (hw _ (List.mem_of_getElem? (i := 5) rfl)) (hw _ (List.mem_of_getElem? (i := 6) rfl)) (hw _ (List.mem_of_getElem? (i := 7) rfl)) e0 (g := (mkF m 29 #[.val (.int p0), .val (.int p1), .val (.int ln), .val (.int v1), .val (.int v2), .unset] [])) rfl (hb hby d1_29) (by decide) (by decide)
    obtain ⟨b1, g1⟩ : ∃ z, z = h0.size := ⟨_, rfl⟩
    rw [← g1] at A1 D1 st1
    have sz_b1 : h0.size ≤ b1 := Nat.le_trans K0.1 (Nat.le_of_eq g1.symm)
    have g_b1 : n0 ≤ b1 := Nat.le_trans Z0 sz_b1
    have SC_q2 := SC.ext E1
    have K3 := K0.ext E1
    have C4c := C0.trans (CHr.ext E1 C0.1)
    have HK5 := Nat.le_trans HK0 (E1.1)
    have E_b1 := A1
    have F_value_b1 : Fld Z h1 b1 "java/lang/String" "value" "[B" .null := D1 (Or.inr (hw _ (List.mem_of_getElem? (i := 21) rfl))) (ty := (.array .byte)) (by decide)
    have F_coder_b1 : Fld Z h1 b1 "java/lang/String" "coder" "B" (.int (0 : Int32)) := D1 (Or.inr (hw _ (List.mem_of_getElem? (i := 22) rfl))) (ty := .byte) (by decide)
    refine gs (fun t k => st1 _ k) ?_
    show G (T1.setTop (mkF m 32 #[.val (.int p0), .val (.int p1), .val (.int ln), .val (.int v1), .val (.int v2), .unset] [(.ref b1)]))
    refine gs (fun t k => XS.dup X1.here hx rfl (hb hby d1_32) rfl rfl k) ?_
    show G (T1.setTop (mkF m 33 #[.val (.int p0), .val (.int p1), .val (.int ln), .val (.int v1), .val (.int v2), .unset] [(.ref b1), (.ref b1)]))
    refine gs (fun t k => XS.iconst X1.here hx rfl (hb hby d1_33) k) ?_
    show G (T1.setTop (mkF m 34 #[.val (.int p0), .val (.int p1), .val (.int ln), .val (.int v1), .val (.int v2), .unset] [(.int (0 : Int32)), (.ref b1), (.ref b1)]))
    obtain ⟨T6, h6, k6, X6, e6, E6, A6, st6⟩ := newP X1 hx hZ (hw _ (List.mem_of_getElem? (i := 8) rfl)) e1 (g := (mkF m 34 #[.val (.int p0), .val (.int p1), .val (.int ln), .val (.int v1), .val (.int v2), .unset] [(.int (0 : Int32)), (.ref b1), (.ref b1)])) rfl (hb hby d1_34) rfl (by decide) (cap := 0) (by decide) (by decide) (by decide) (by decide)
    obtain ⟨b6, g6⟩ : ∃ z, z = h1.size := ⟨_, rfl⟩
    rw [← g6] at A6 st6
    have sz_b6 : h0.size ≤ b6 := Nat.le_trans K3.1 (Nat.le_of_eq g6.symm)
    have g_b6 : n0 ≤ b6 := Nat.le_trans Z0 sz_b6
    have ne_b1_b6 : b1 ≠ b6 := Nat.ne_of_lt (Nat.lt_of_lt_of_le E_b1.lt (Nat.le_of_eq g6.symm))
    have SC_q7 := SC_q2.ext E6
    have E_b1_q8 := E_b1.ext E6
    have F_value_b1_q9 := F_value_b1.ext E6
    have F_coder_b1_q10 := F_coder_b1.ext E6
    have K11 := K3.ext E6
    have C12c := C4c.trans (CHr.ext E6 C4c.1)
    have HK13 := Nat.le_trans HK5 (E6.1)
    have V_b6 : Arv Z h6 b6 k6 .char (0 : Int32) [] (.int (0 : Int32)) := Arv.new A6 (by decide)
    refine gs (fun t k => st6 _ k) ?_
    show G (T6.setTop (mkF m 36 #[.val (.int p0), .val (.int p1), .val (.int ln), .val (.int v1), .val (.int v2), .unset] [(.ref b6), (.ref b1), (.ref b1)]))
    obtain ⟨_, _, ⟨T14, L14, k14, n14⟩, -, X14, SJ14, gr14, ⟨Lc14, hQ14, l14, y14, z14, CH14⟩, st14⟩ := Stand.specialBackS (s := s.setVm s.vm) X6 hx (y := (⟨"java/lang/String", "<init>", "([C)V"⟩ : MethodName)) rfl hown (mvT hZ (hw _ (List.mem_of_getElem? (i := 9) rfl))) (mvT hZ (hw _ (List.mem_of_getElem? (i := 10) rfl))) (mvT hZ (hw _ (List.mem_of_getElem? (i := 11) rfl))) (by decide) (backOfSH (s := s) (vm0 := s.vm) (W := 1) (rm2h l Z a0 hw [] b1 b6 _ h6 n0 (Nat.le_trans Z0 K11.1) E_b1_q8 F_value_b1_q9 F_coder_b1_q10 g_b1 V_b6) hZ (hw _ (List.mem_of_getElem? (i := 11) rfl)) (hw _ (List.mem_of_getElem? (i := 7) rfl)) (by decide) (by decide) hEL C12c.1) (g := (mkF m 36 #[.val (.int p0), .val (.int p1), .val (.int ln), .val (.int v1), .val (.int v2), .unset] [(.ref b6), (.ref b1), (.ref b1)])) rfl (by rw [hml]; rfl) (Steps.refl _) (a := b1) (argsL := [(.ref b6)]) (rest := [(.ref b1)]) (lenOf pd_7 rfl) rfl (by show 2 * 0 + _ ≤ _; exact Nat.le_of_eq rfl) (hb hby d1_36) (fun _ _ => ⟨rfl, e6, (by decide : 2 + 4 ≤ _), (by decide : 4 + 8 ≤ _)⟩)
    dsimp only [Pt.U, Pt.locs, Pt.cells, Pt.slots] at X14 SJ14 gr14 l14 y14 z14 CH14 st14 hQ14
    subst y14 z14
    obtain ⟨rfl, N14q, Kc14, US14⟩ := hQ14
    have N14 : Fr n0 L14 := by rw [l14]; exact Fr.app N0 N14q
    have SI14 := foldS (T := T6) SI0 (by rw [e6]; exact HK13) SJ14 gr14
    have HK14 := Nat.le_refl T14.heap.size
    have hZ := State.Warmed39.trans (t := s.setVm s.vm) hZ SJ14.1
    have hown : (s.setVm T14.vm).vm.findClass "com/example/stavegate/stavegate/format/StaffNamePinLaw" = some m.cls := by rw [show (s.setVm T14.vm).vm = T14.vm from rfl, SJ14.1.alike.findClass]; exact hown
    have C15c := C12c.trans (CH14)
    refine gs (fun t k => st14.trans k) ?_
    have K14z := K11.trans Kc14 (allS (Or.inr sz_b1) all0)
    show G (T14.setTop (mkF m 39 #[.val (.int p0), .val (.int p1), .val (.int ln), .val (.int v1), .val (.int v2), .unset] [(.ref b1)]))
    have HKz := HK14
    obtain ⟨fs, hr, hrun, hended, hRE⟩ := Stand.leaveW (s := s) (vm₁ := T14.vm) X14 SI14 HKz (v := some (.ref b1)) (fun h => by rw [Bd.returns] at h; cases h)
    have CZ := C15c.trans (CHv.at (s := s) (vm0 := T14.vm) X14 hZ hEL C15c.1)
    refine gl _ ⟨_, _, retOut X14 hx Bd.returns rfl (Or.inr (Or.inr (Or.inr (Or.inr ⟨rfl, rfl, rfl⟩)))) (hb hby d1_39) hr, hrun, hended, _, _, rfl, ?_, ?_, hRE.1, hRE.2.1, hRE.2.2.1, hRE.2.2.2.mono (by decide) (by decide)⟩
    · show Q1 Z p0 h0 n0 _ T14.heap _
      refine ⟨_, rfl, N14, K14z, ?_⟩
      rw [show own_len p0 = 0 from hln'.symm.trans hc26]
      exact US14
    · rw [hh]
      show CHr Z own_EL s.vm h0 T14.vm T14.heap
      exact CZ
  · refine gs (fun t k => XS.ifYes X0.here hx rfl (pc0 := 26) (pc' := 40) rfl (hb hby d1_26) rfl ((if0 _ _).trans (feq hc26).2) (by decide) (by decide) k) ?_
    show G (s₁.setTop (mkF m 40 #[.val (.int p0), .val (.int p1), .val (.int ln), .val (.int v1), .val (.int v2), .unset] []))
    refine gs (fun t k => XS.iloadN X0.here hx rfl (hb hby d1_40) rfl k) ?_
    show G (s₁.setTop (mkF m 41 #[.val (.int p0), .val (.int p1), .val (.int ln), .val (.int v1), .val (.int v2), .unset] [(.int ln)]))
    refine gs (fun t k => XS.iconst X0.here hx rfl (hb hby d1_41) k) ?_
    show G (s₁.setTop (mkF m 42 #[.val (.int p0), .val (.int p1), .val (.int ln), .val (.int v1), .val (.int v2), .unset] [(.int (1 : Int32)), (.int ln)]))
    by_cases hc42 : ln = (1 : Int32)
    · refine gs (fun t k => XS.icmpNo X0.here hx rfl (hb hby d1_42) rfl (teq hc42).2 k) ?_
      show G (s₁.setTop (mkF m 45 #[.val (.int p0), .val (.int p1), .val (.int ln), .val (.int v1), .val (.int v2), .unset] []))
      refine gs (fun t k => XS.iloadN X0.here hx rfl (hb hby d1_45) rfl k) ?_
      show G (s₁.setTop (mkF m 46 #[.val (.int p0), .val (.int p1), .val (.int ln), .val (.int v1), .val (.int v2), .unset] [(.int v1)]))
      obtain ⟨_, _, ⟨T16, L16, k16, n16⟩, -, X16, ⟨Lc16, hQ16, l16, y16, z16⟩, st16⟩ := Jvm.LawKit.callS X0 hx (y := (⟨"java/lang/String", "valueOf", "(C)Ljava/lang/String;"⟩ : MethodName)) hown (mvT hZ (hw _ (List.mem_of_getElem? (i := 79) rfl))) (mvT hZ (hw _ (List.mem_of_getElem? (i := 80) rfl))) (mvT hZ (hw _ (List.mem_of_getElem? (i := 7) rfl))) (mvT hZ (hw _ (List.mem_of_getElem? (i := 81) rfl))) (by decide) (backOf (W := 0) (rm15 l Z a0 hw [] v1 cs h0 n0 (Nat.le_trans Z0 K0.1) SC hcs (own_n255 r1)) hZ (hw _ (List.mem_of_getElem? (i := 81) rfl)) (hw _ (List.mem_of_getElem? (i := 7) rfl)) (by decide) (by decide)) (g := (mkF m 46 #[.val (.int p0), .val (.int p1), .val (.int ln), .val (.int v1), .val (.int v2), .unset] [(.int v1)])) rfl (by rw [hml]; rfl) (argsL := [(.int v1)]) (rest := []) (lenOf pd_8 rfl) rfl (by show 2 * 0 + _ ≤ _; exact Nat.le_of_eq rfl) (hb hby d1_46) (fun _ _ => ⟨rfl, e0, (by decide : 0 + 2 ≤ _), (by decide : 0 + 5 ≤ _)⟩)
      dsimp only [Pt.U, Pt.locs, Pt.cells, Pt.slots] at X16 l16 y16 z16 st16 hQ16
      subst y16 z16
      obtain ⟨sb, rfl, N16q, Kc16, US⟩ := hQ16
      have N16 : Fr n0 L16 := by rw [l16]; exact Fr.app N0 N16q
      refine gs (fun t k => st16 _ k) ?_
      have SC_q17 := own_sta_keep SC Kc16
      have HK18 := Nat.le_trans HK0 (Kc16.1)
      have K19 := K0.trans Kc16 all0
      show G (T16.setTop (mkF m 49 #[.val (.int p0), .val (.int p1), .val (.int ln), .val (.int v1), .val (.int v2), .unset] [(.ref sb)]))
      have Cz := C0.trans (CHr.keep K19 all0 C0.1)
      have HKz := HK18
      obtain ⟨fs, hr, hrun, hended, hRE⟩ := Stand.leaveW (s := s) (vm₁ := s.vm) X16 SI0 HKz (v := some (.ref sb)) (fun h => by rw [Bd.returns] at h; cases h)
      have CZ := Cz.trans (CHv.at (s := s) (vm0 := s.vm) X16 hZ hEL Cz.1)
      refine gl _ ⟨_, _, retOut X16 hx Bd.returns rfl (Or.inr (Or.inr (Or.inr (Or.inr ⟨rfl, rfl, rfl⟩)))) (hb hby d1_49) hr, hrun, hended, _, _, rfl, ?_, ?_, hRE.1, hRE.2.1, hRE.2.2.1, hRE.2.2.2.mono (by decide) (by decide)⟩
      · show Q1 Z p0 h0 n0 _ T16.heap _
        refine ⟨_, rfl, N16, K19, ?_⟩
        rw [show own_len p0 = 1 from hln'.symm.trans hc42]
        exact US
      · rw [hh]
        show CHr Z own_EL s.vm h0 T16.vm T16.heap
        exact CZ
    · refine gs (fun t k => XS.icmpYes X0.here hx rfl (pc0 := 42) (pc' := 50) rfl (hb hby d1_42) rfl (feq hc42).2 (by decide) (by decide) k) ?_
      show G (s₁.setTop (mkF m 50 #[.val (.int p0), .val (.int p1), .val (.int ln), .val (.int v1), .val (.int v2), .unset] []))
      refine gs (fun t k => XS.iconst X0.here hx rfl (hb hby d1_50) k) ?_
      show G (s₁.setTop (mkF m 51 #[.val (.int p0), .val (.int p1), .val (.int ln), .val (.int v1), .val (.int v2), .unset] [(.int (2 : Int32))]))
      obtain ⟨T20, h20, k20, X20, e20, E20, A20, st20⟩ := newP X0 hx hZ (hw _ (List.mem_of_getElem? (i := 8) rfl)) e0 (g := (mkF m 51 #[.val (.int p0), .val (.int p1), .val (.int ln), .val (.int v1), .val (.int v2), .unset] [(.int (2 : Int32))])) rfl (hb hby d1_51) rfl (by decide) (cap := 2) (by decide) (by decide) (by decide) (by decide)
      obtain ⟨b20, g20⟩ : ∃ z, z = h0.size := ⟨_, rfl⟩
      rw [← g20] at A20 st20
      have sz_b20 : h0.size ≤ b20 := Nat.le_trans K0.1 (Nat.le_of_eq g20.symm)
      have g_b20 : n0 ≤ b20 := Nat.le_trans Z0 sz_b20
      have SC_q21 := SC.ext E20
      have K22 := K0.ext E20
      have HK23 := Nat.le_trans HK0 (E20.1)
      have V_b20 : Arv Z h20 b20 k20 .char (2 : Int32) [(.int (0 : Int32)), (.int (0 : Int32))] (.int (0 : Int32)) := (Arv.new A20 (by decide)).pad (pad_rep [] (.int (0 : Int32)) 2)
      refine gs (fun t k => st20 _ k) ?_
      show G (T20.setTop (mkF m 53 #[.val (.int p0), .val (.int p1), .val (.int ln), .val (.int v1), .val (.int v2), .unset] [(.ref b20)]))
      refine gs (fun t k => XS.astore X20.here hx rfl (hb hby d1_53) rfl rfl (l' := #[.val (.int p0), .val (.int p1), .val (.int ln), .val (.int v1), .val (.int v2), .val (.ref b20)]) rfl k) ?_
      show G (T20.setTop (mkF m 55 #[.val (.int p0), .val (.int p1), .val (.int ln), .val (.int v1), .val (.int v2), .val (.ref b20)] []))
      refine gs (fun t k => XS.aload X20.here hx rfl (hb hby d1_55) rfl rfl k) ?_
      show G (T20.setTop (mkF m 57 #[.val (.int p0), .val (.int p1), .val (.int ln), .val (.int v1), .val (.int v2), .val (.ref b20)] [(.ref b20)]))
      refine gs (fun t k => XS.iconst X20.here hx rfl (hb hby d1_57) k) ?_
      show G (T20.setTop (mkF m 58 #[.val (.int p0), .val (.int p1), .val (.int ln), .val (.int v1), .val (.int v2), .val (.ref b20)] [(.int (0 : Int32)), (.ref b20)]))
      refine gs (fun t k => XS.iloadN X20.here hx rfl (hb hby d1_58) rfl k) ?_
      show G (T20.setTop (mkF m 59 #[.val (.int p0), .val (.int p1), .val (.int ln), .val (.int v1), .val (.int v2), .val (.ref b20)] [(.int v1), (.int (0 : Int32)), (.ref b20)]))
      obtain ⟨vc24, vA24, vq24, vS24, vN24, vH24, vG24⟩ := V_b20
      have hin24 : ¬ ((0 : Int32) < 0 ∨ vc24.slots.size ≤ ((0 : Int32)).toNatClampNeg) := inb_of vS24 ⟨by decide, by decide⟩
      obtain ⟨T24, h24, X24, e24, W24, st24⟩ := stC X20 hx hZ e20 vA24 (j := (0 : Int32)) hin24 (g := (mkF m 59 #[.val (.int p0), .val (.int p1), .val (.int ln), .val (.int v1), .val (.int v2), .val (.ref b20)] [(.int v1), (.int (0 : Int32)), (.ref b20)])) rfl rfl (hb hby d1_59)
      have SC_q25 := SC_q21.wr W24
      have K26 := K22.wr W24 (Or.inr sz_b20)
      have HK27 := Nat.le_trans HK23 ((Keep.of_wr W24).1)
      have V_b20_q24 := Arv.set vA24 vq24 vS24 vN24 vH24 vG24 (fits_nar_char _) W24 0 rfl (Nat.le_of_ble_eq_true rfl)
      have N24 := Fr.snoc X24 N0 g_b20
      refine gs (fun t k => st24 _ k) ?_
      show G (T24.setTop (mkF m 60 #[.val (.int p0), .val (.int p1), .val (.int ln), .val (.int v1), .val (.int v2), .val (.ref b20)] []))
      refine gs (fun t k => XS.aload X24.here hx rfl (hb hby d1_60) rfl rfl k) ?_
      show G (T24.setTop (mkF m 62 #[.val (.int p0), .val (.int p1), .val (.int ln), .val (.int v1), .val (.int v2), .val (.ref b20)] [(.ref b20)]))
      refine gs (fun t k => XS.iconst X24.here hx rfl (hb hby d1_62) k) ?_
      show G (T24.setTop (mkF m 63 #[.val (.int p0), .val (.int p1), .val (.int ln), .val (.int v1), .val (.int v2), .val (.ref b20)] [(.int (1 : Int32)), (.ref b20)]))
      refine gs (fun t k => XS.iload X24.here hx rfl (hb hby d1_63) rfl k) ?_
      show G (T24.setTop (mkF m 65 #[.val (.int p0), .val (.int p1), .val (.int ln), .val (.int v1), .val (.int v2), .val (.ref b20)] [(.int v2), (.int (1 : Int32)), (.ref b20)]))
      obtain ⟨vc28, vA28, vq28, vS28, vN28, vH28, vG28⟩ := V_b20_q24
      have hin28 : ¬ ((1 : Int32) < 0 ∨ vc28.slots.size ≤ ((1 : Int32)).toNatClampNeg) := inb_of vS28 ⟨by decide, by decide⟩
      obtain ⟨T28, h28, X28, e28, W28, st28⟩ := stC X24 hx hZ e24 vA28 (j := (1 : Int32)) hin28 (g := (mkF m 65 #[.val (.int p0), .val (.int p1), .val (.int ln), .val (.int v1), .val (.int v2), .val (.ref b20)] [(.int v2), (.int (1 : Int32)), (.ref b20)])) rfl rfl (hb hby d1_65)
      have SC_q29 := SC_q25.wr W28
      have K30 := K26.wr W28 (Or.inr sz_b20)
      have HK31 := Nat.le_trans HK27 ((Keep.of_wr W28).1)
      have V_b20_q28 := Arv.set vA28 vq28 vS28 vN28 vH28 vG28 (fits_nar_char _) W28 1 rfl (Nat.le_of_ble_eq_true rfl)
      have N28 := Fr.snoc X28 N24 g_b20
      refine gs (fun t k => st28 _ k) ?_
      show G (T28.setTop (mkF m 66 #[.val (.int p0), .val (.int p1), .val (.int ln), .val (.int v1), .val (.int v2), .val (.ref b20)] []))
      obtain ⟨T32, h32, X32, e32, E32, A32, D32, -, st32⟩ := newO X28 hx hZ hown (hw _ (List.mem_of_getElem? (i := 5) rfl)) (hw _ (List.mem_of_getElem? (i := 6) rfl)) (hw _ (List.mem_of_getElem? (i := 7) rfl)) e28 (g := (mkF m 66 #[.val (.int p0), .val (.int p1), .val (.int ln), .val (.int v1), .val (.int v2), .val (.ref b20)] [])) rfl (hb hby d1_66) (by decide) (by decide)
      obtain ⟨b32, g32⟩ : ∃ z, z = h28.size := ⟨_, rfl⟩
      rw [← g32] at A32 D32 st32
      have sz_b32 : h0.size ≤ b32 := Nat.le_trans K30.1 (Nat.le_of_eq g32.symm)
      have g_b32 : n0 ≤ b32 := Nat.le_trans Z0 sz_b32
      have ne_b20_b32 : b20 ≠ b32 := Nat.ne_of_lt (Nat.lt_of_lt_of_le V_b20_q28.lt (Nat.le_of_eq g32.symm))
      have SC_q33 := SC_q29.ext E32
      have V_b20_q34 := V_b20_q28.ext E32
      have K35 := K30.ext E32
      have HK36 := Nat.le_trans HK31 (E32.1)
      have E_b32 := A32
      have F_value_b32 : Fld Z h32 b32 "java/lang/String" "value" "[B" .null := D32 (Or.inr (hw _ (List.mem_of_getElem? (i := 21) rfl))) (ty := (.array .byte)) (by decide)
      have F_coder_b32 : Fld Z h32 b32 "java/lang/String" "coder" "B" (.int (0 : Int32)) := D32 (Or.inr (hw _ (List.mem_of_getElem? (i := 22) rfl))) (ty := .byte) (by decide)
      refine gs (fun t k => st32 _ k) ?_
      show G (T32.setTop (mkF m 69 #[.val (.int p0), .val (.int p1), .val (.int ln), .val (.int v1), .val (.int v2), .val (.ref b20)] [(.ref b32)]))
      refine gs (fun t k => XS.dup X32.here hx rfl (hb hby d1_69) rfl rfl k) ?_
      show G (T32.setTop (mkF m 70 #[.val (.int p0), .val (.int p1), .val (.int ln), .val (.int v1), .val (.int v2), .val (.ref b20)] [(.ref b32), (.ref b32)]))
      refine gs (fun t k => XS.aload X32.here hx rfl (hb hby d1_70) rfl rfl k) ?_
      show G (T32.setTop (mkF m 72 #[.val (.int p0), .val (.int p1), .val (.int ln), .val (.int v1), .val (.int v2), .val (.ref b20)] [(.ref b20), (.ref b32), (.ref b32)]))
      obtain ⟨_, _, ⟨T37, L37, k37, n37⟩, -, X37, ⟨Lc37, hQ37, l37, y37, z37⟩, st37⟩ := X32.specialBack hx (y := (⟨"java/lang/String", "<init>", "([C)V"⟩ : MethodName)) rfl hown (mvT hZ (hw _ (List.mem_of_getElem? (i := 9) rfl))) (mvT hZ (hw _ (List.mem_of_getElem? (i := 10) rfl))) (mvT hZ (hw _ (List.mem_of_getElem? (i := 11) rfl))) (by decide) (backOf (W := 1) (rm2 l Z a0 hw [] b32 b20 _ _ _ cs h32 n0 (Nat.le_trans Z0 K35.1) E_b32 F_value_b32 F_coder_b32 g_b32 V_b20_q34 (own_nar r1) (own_nar r2) SC_q33 hcs) hZ (hw _ (List.mem_of_getElem? (i := 11) rfl)) (hw _ (List.mem_of_getElem? (i := 7) rfl)) (by decide) (by decide)) (g := (mkF m 72 #[.val (.int p0), .val (.int p1), .val (.int ln), .val (.int v1), .val (.int v2), .val (.ref b20)] [(.ref b20), (.ref b32), (.ref b32)])) rfl (by rw [hml]; rfl) (Steps.refl _) (a := b32) (argsL := [(.ref b20)]) (rest := [(.ref b32)]) (lenOf pd_7 rfl) rfl (by show 2 * 0 + _ ≤ _; exact Nat.le_of_eq rfl) (hb hby d1_72) (fun _ _ => ⟨rfl, e32, (by decide : 2 + 1 ≤ _), (by decide : 6 + 2 ≤ _)⟩)
      dsimp only [Pt.U, Pt.locs, Pt.cells, Pt.slots] at X37 l37 y37 z37 st37 hQ37
      subst y37 z37
      obtain ⟨rfl, N37q, Kc37, Ex37, rs37⟩ := hQ37
      have N37 : Fr n0 L37 := by rw [l37]; exact Fr.app N28 N37q
      refine gs (fun t k => st37.trans k) ?_
      have K37z := K35.trans Kc37 (allS (Or.inr sz_b32) all0)
      obtain ⟨tt, kt, vt, Ft, Fu, Vt⟩ := rs37
      have US : own_Str Z T37.heap b32 (2 : Int32) := ⟨tt, kt, vt, Ex37, Ft, Fu, Vt⟩
      have HK38 := Nat.le_trans HK36 (Kc37.1)
      show G (T37.setTop (mkF m 75 #[.val (.int p0), .val (.int p1), .val (.int ln), .val (.int v1), .val (.int v2), .val (.ref b20)] [(.ref b32)]))
      have Cz := C0.trans (CHr.keep K37z all0 C0.1)
      have HKz := HK38
      obtain ⟨fs, hr, hrun, hended, hRE⟩ := Stand.leaveW (s := s) (vm₁ := s.vm) X37 SI0 HKz (v := some (.ref b32)) (fun h => by rw [Bd.returns] at h; cases h)
      have CZ := Cz.trans (CHv.at (s := s) (vm0 := s.vm) X37 hZ hEL Cz.1)
      refine gl _ ⟨_, _, retOut X37 hx Bd.returns rfl (Or.inr (Or.inr (Or.inr (Or.inr ⟨rfl, rfl, rfl⟩)))) (hb hby d1_75) hr, hrun, hended, _, _, rfl, ?_, ?_, hRE.1, hRE.2.1, hRE.2.2.1, hRE.2.2.2.mono (by decide) (by decide)⟩
      · show Q1 Z p0 h0 n0 _ T37.heap _
        refine ⟨_, rfl, N37, K37z, ?_⟩
        rw [show own_len p0 = 2 from own_two (own_len_cases p0) (hln' ▸ hc26) (hln' ▸ hc42)]
        exact US
      · rw [hh]
        show CHr Z own_EL s.vm h0 T37.vm T37.heap
        exact CZ
theorem d9_0 : decode jdk_30_method_1_code 0 = .ok (.aload_n 0, 1) := by decide +kernel
theorem d9_1 : decode jdk_30_method_1_code 1 = .ok (.invokespecial 1, 3) := by decide +kernel
theorem d9_4 : decode jdk_30_method_1_code 4 = .ok (.return_, 1) := by decide +kernel
theorem pn_java_lang_Record : plainName "java/lang/Record" = true := by first | (simp [plainName, overriddenIn]; done) | decide +kernel
theorem ef_9 (m : MethodId) (a0_ : Addr) : entryFrame m #[(.ref a0_)] 1 = mkF m 0 #[.val (.ref a0_)] [] := by first | (simp [entryFrame, mkF, argsToLocals, Value.category]; done) | rfl
def Q9 (h0 : Heap) (n0 : Nat) (v : Option Value) (h : Heap) (L : List Loc) : Prop := v = none ∧ Fr n0 L ∧ h = h0
set_option maxRecDepth 65536 in
set_option maxHeartbeats 40000000 in
theorem rm9 (l : Launch) (Z : State) (a0 : Array Value) (hw : ∀ d ∈ tables_1, d.before a0 Z = true) (ws : List Jvm.Cond) (a0_ : Addr)  (h0 : Heap) (n0 : Nat) (Z0 : n0 ≤ h0.size)  :
    MetFree l (⟨"java/lang/Record", "<init>", "()V"⟩ : MethodName) (head1 (Jvm.Cond.code (⟨"java/lang/Record", "<init>", "()V"⟩ : MethodName) jdk_30_method_1_code 1 none :: ws) ({ frames := 1, cells := 0, slots := 0, locals := 12 } : Room)) (fun a U => a = #[(.ref a0_)] ∧ Z.Warmed39 U.vm ∧ U.heap = h0) (fun _ _ _ _ _ => True) (fun _ U o U' => ∃ v L, o = .returned v ∧ Q9 h0 n0 v U'.heap L ∧ FrameEnd U o U' L ({ frames := 1, cells := 0, slots := 0, locals := 12 } : Room).cells ({ frames := 1, cells := 0, slots := 0, locals := 12 } : Room).slots) := by
  refine MetFree.of_bodySF (plainFor_of_name pn_java_lang_Record) hisR ?_
  intro p e s m args below meth c s₁ Bd hml0 hP hK
  obtain ⟨rfl, hZ, hh⟩ := hP
  have hx := Bd.exec
  have hby := Bd.bytes
  have hml : c.maxLocals = 1 := hml0
  have hown : s.vm.findClass "java/lang/Record" = some m.cls := findClass_of_methodNamed Bd.named
  have hnm := (name_of_methodNamed Bd.named Bd.method).1
  have X0 : Stand p l e ({ frames := 1, cells := 0, slots := 0, locals := 12 } : Room) s m #[(.ref a0_)] below meth c s₁ [] 0 0 := Stand.of_body Bd
  have e0 : s₁.heap = h0 := by rw [← hh, Bd.state]; rfl
  have N0 := Fr.nil n0
  have pre0 : ∀ t, Steps p.tables e below (s₁.setTop (mkF m 0 #[.val (.ref a0_)] [])) t → Steps p.tables e below (s₁.setTop (entryFrame m #[(.ref a0_)] 1)) t := fun t k => castTop (ef_9 m a0_) k
  have K0 := Keep.refl h0 []
  refine own_start pre0 fun G gs gl => ?_
  show G (s₁.setTop (mkF m 0 #[.val (.ref a0_)] []))
  refine gs (fun t k => XS.aloadN X0.here hx rfl (hb hby d9_0) rfl rfl k) ?_
  show G (s₁.setTop (mkF m 1 #[.val (.ref a0_)] [(.ref a0_)]))
  obtain ⟨T1, X1, e1, st1⟩ := initO X0 hx hZ hown (hw _ (List.mem_of_getElem? (i := 49) rfl)) (hw _ (List.mem_of_getElem? (i := 17) rfl)) (hw _ (List.mem_of_getElem? (i := 18) rfl)) e0 (g := (mkF m 1 #[.val (.ref a0_)] [(.ref a0_)])) rfl (by rw [hml]; rfl) rfl (hb hby d9_1) (by decide) (W := 0) (by show 2 * 0 + _ ≤ _; exact Nat.le_of_eq rfl) (by decide)
  refine gs (fun t k => st1 _ k) ?_
  show G (T1.setTop (mkF m 4 #[.val (.ref a0_)] []))
  obtain ⟨fs, hr, hrun, hended, hW, hsame⟩ := X1.leave (v := none) (fun _ => rfl)
  refine gl _ ⟨_, _, X1.returnOut hx Bd.returns (hb hby d9_4) hr, hrun, hended, _, _, rfl, ?_, ⟨_, rfl⟩, hW, hsame.mono (by decide) (by decide)⟩
  show Q9 h0 n0 _ T1.heap _
  rw [e1]
  exact ⟨rfl, N0, rfl⟩
theorem pd_9 : parseMethodDescriptor "()V" = some ⟨[], none⟩ := by decide +kernel
theorem d8_0 : decode prog_32_method_1_code 0 = .ok (.aload_n 0, 1) := by decide +kernel
theorem d8_1 : decode prog_32_method_1_code 1 = .ok (.invokespecial 1, 3) := by decide +kernel
theorem d8_4 : decode prog_32_method_1_code 4 = .ok (.aload_n 0, 1) := by decide +kernel
theorem d8_5 : decode prog_32_method_1_code 5 = .ok (.aload_n 1, 1) := by decide +kernel
theorem d8_6 : decode prog_32_method_1_code 6 = .ok (.putfield 7, 3) := by decide +kernel
theorem d8_9 : decode prog_32_method_1_code 9 = .ok (.aload_n 0, 1) := by decide +kernel
theorem d8_10 : decode prog_32_method_1_code 10 = .ok (.aload_n 2, 1) := by decide +kernel
theorem d8_11 : decode prog_32_method_1_code 11 = .ok (.putfield 13, 3) := by decide +kernel
theorem d8_14 : decode prog_32_method_1_code 14 = .ok (.return_, 1) := by decide +kernel
theorem pn_com_example_stavegate_stavegate_format_MeiMeasures_Staff : plainName "com/example/stavegate/stavegate/format/MeiMeasures$Staff" = true := by first | (simp [plainName, overriddenIn]; done) | decide +kernel
theorem ef_8 (m : MethodId) (a0_ : Addr) (a1_ : Addr) (a2_ : Addr) : entryFrame m #[(.ref a0_), (.ref a1_), (.ref a2_)] 3 = mkF m 0 #[.val (.ref a0_), .val (.ref a1_), .val (.ref a2_)] [] := by first | (simp [entryFrame, mkF, argsToLocals, Value.category]; done) | rfl
def Q8 (Z : State) (a0_ a1_ a2_ : Addr) (h0 : Heap) (n0 : Nat) (v : Option Value) (h : Heap) (L : List Loc) : Prop := v = none ∧ Fr n0 L ∧ Keep h0 h [a0_] ∧ Exa Z h a0_ "com/example/stavegate/stavegate/format/MeiMeasures$Staff" ∧ Fld Z h a0_ "com/example/stavegate/stavegate/format/MeiMeasures$Staff" "number" "Ljava/lang/String;" (.ref a1_) ∧ Fld Z h a0_ "com/example/stavegate/stavegate/format/MeiMeasures$Staff" "label" "Ljava/lang/String;" (.ref a2_)
set_option maxRecDepth 65536 in
set_option maxHeartbeats 40000000 in
theorem rm8 (l : Launch) (Z : State) (a0 : Array Value) (hw : ∀ d ∈ tables_1, d.before a0 Z = true) (ws : List Jvm.Cond) (a0_ : Addr) (a1_ : Addr) (a2_ : Addr)  (h0 : Heap) (n0 : Nat) (Z0 : n0 ≤ h0.size) (E_a : Exa Z h0 a0_ "com/example/stavegate/stavegate/format/MeiMeasures$Staff") (F_n : Fld Z h0 a0_ "com/example/stavegate/stavegate/format/MeiMeasures$Staff" "number" "Ljava/lang/String;" .null) (F_l : Fld Z h0 a0_ "com/example/stavegate/stavegate/format/MeiMeasures$Staff" "label" "Ljava/lang/String;" .null) (g_a0_ : n0 ≤ a0_) :
    MetFree l (⟨"com/example/stavegate/stavegate/format/MeiMeasures$Staff", "<init>", "(Ljava/lang/String;Ljava/lang/String;)V"⟩ : MethodName) (head1 (Jvm.Cond.code (⟨"com/example/stavegate/stavegate/format/MeiMeasures$Staff", "<init>", "(Ljava/lang/String;Ljava/lang/String;)V"⟩ : MethodName) prog_32_method_1_code 3 none :: ws) ({ frames := 2, cells := 0, slots := 0, locals := 24 } : Room)) (fun a U => a = #[(.ref a0_), (.ref a1_), (.ref a2_)] ∧ Z.Warmed39 U.vm ∧ U.heap = h0) (fun _ _ _ _ _ => True) (fun _ U o U' => ∃ v L, o = .returned v ∧ Q8 Z a0_ a1_ a2_ h0 n0 v U'.heap L ∧ FrameEnd U o U' L ({ frames := 2, cells := 0, slots := 0, locals := 24 } : Room).cells ({ frames := 2, cells := 0, slots := 0, locals := 24 } : Room).slots) := by
  refine MetFree.of_bodySF (plainFor_of_name pn_com_example_stavegate_stavegate_format_MeiMeasures_Staff) hisR ?_
  intro p e s m args below meth c s₁ Bd hml0 hP hK
  obtain ⟨rfl, hZ, hh⟩ := hP
  have hx := Bd.exec
  have hby := Bd.bytes
  have hml : c.maxLocals = 3 := hml0
  have hown : s.vm.findClass "com/example/stavegate/stavegate/format/MeiMeasures$Staff" = some m.cls := findClass_of_methodNamed Bd.named
  have hnm := (name_of_methodNamed Bd.named Bd.method).1
  have X0 : Stand p l e ({ frames := 2, cells := 0, slots := 0, locals := 24 } : Room) s m #[(.ref a0_), (.ref a1_), (.ref a2_)] below meth c s₁ [] 0 0 := Stand.of_body Bd
  have e0 : s₁.heap = h0 := by rw [← hh, Bd.state]; rfl
  have N0 := Fr.nil n0
  have pre0 : ∀ t, Steps p.tables e below (s₁.setTop (mkF m 0 #[.val (.ref a0_), .val (.ref a1_), .val (.ref a2_)] [])) t → Steps p.tables e below (s₁.setTop (entryFrame m #[(.ref a0_), (.ref a1_), (.ref a2_)] 3)) t := fun t k => castTop (ef_8 m a0_ a1_ a2_) k
  have K0 := Keep.refl h0 [a0_]
  refine own_start pre0 fun G gs gl => ?_
  show G (s₁.setTop (mkF m 0 #[.val (.ref a0_), .val (.ref a1_), .val (.ref a2_)] []))
  refine gs (fun t k => XS.aloadN X0.here hx rfl (hb hby d8_0) rfl rfl k) ?_
  show G (s₁.setTop (mkF m 1 #[.val (.ref a0_), .val (.ref a1_), .val (.ref a2_)] [(.ref a0_)]))
  obtain ⟨_, _, ⟨T1, L1, k1, n1⟩, -, X1, ⟨Lc1, hQ1, l1, y1, z1⟩, st1⟩ := X0.specialBack hx (y := (⟨"java/lang/Record", "<init>", "()V"⟩ : MethodName)) rfl hown (mvT hZ (hw _ (List.mem_of_getElem? (i := 44) rfl))) (mvT hZ (hw _ (List.mem_of_getElem? (i := 45) rfl))) (mvT hZ (hw _ (List.mem_of_getElem? (i := 48) rfl))) (by decide) (backOf (W := 0) (rm9 l Z a0 hw [] a0_ h0 n0 (Nat.le_trans Z0 K0.1)) hZ (hw _ (List.mem_of_getElem? (i := 48) rfl)) (hw _ (List.mem_of_getElem? (i := 47) rfl)) (by decide) (by decide)) (g := (mkF m 1 #[.val (.ref a0_), .val (.ref a1_), .val (.ref a2_)] [(.ref a0_)])) rfl (by rw [hml]; rfl) (Steps.refl _) (a := a0_) (argsL := []) (rest := []) (lenOf pd_9 rfl) rfl (by show 2 * 0 + _ ≤ _; exact Nat.le_of_eq rfl) (hb hby d8_1) (fun _ _ => ⟨rfl, e0, (by decide : 0 + 0 ≤ _), (by decide : 0 + 0 ≤ _)⟩)
  dsimp only [Pt.U, Pt.locs, Pt.cells, Pt.slots] at X1 l1 y1 z1 st1 hQ1
  subst y1 z1
  obtain ⟨rfl, N1q, e1⟩ := hQ1
  have N1 : Fr n0 L1 := by rw [l1]; exact Fr.app N0 N1q
  refine gs (fun t k => st1.trans k) ?_
  show G (T1.setTop (mkF m 4 #[.val (.ref a0_), .val (.ref a1_), .val (.ref a2_)] []))
  refine gs (fun t k => XS.aloadN X1.here hx rfl (hb hby d8_4) rfl rfl k) ?_
  show G (T1.setTop (mkF m 5 #[.val (.ref a0_), .val (.ref a1_), .val (.ref a2_)] [(.ref a0_)]))
  refine gs (fun t k => XS.aloadN X1.here hx rfl (hb hby d8_5) rfl rfl k) ?_
  show G (T1.setTop (mkF m 6 #[.val (.ref a0_), .val (.ref a1_), .val (.ref a2_)] [(.ref a1_), (.ref a0_)]))
  obtain ⟨T2, h2, X2, e2, W2, st2⟩ := putF X1 hx hZ hown (host := "") (Or.inl (hw _ (List.mem_of_getElem? (i := 50) rfl))) Via.refl e1 F_n E_a (Or.inr ⟨(hw _ (List.mem_of_getElem? (i := 51) rfl)), rfl, hnm⟩) (hw _ (List.mem_of_getElem? (i := 39) rfl)) (ty := (.object "java/lang/String")) (by decide) rfl rfl (g := (mkF m 6 #[.val (.ref a0_), .val (.ref a1_), .val (.ref a2_)] [(.ref a1_), (.ref a0_)])) rfl rfl (hb hby d8_6)
  have E_a_q3 := E_a.wr W2
  have F_n_q4 := F_n.same W2
  have F_l_q5 := F_l.other W2 (Or.inr (slot_ne (Or.inr (hw _ (List.mem_of_getElem? (i := 53) rfl))) (Or.inr (hw _ (List.mem_of_getElem? (i := 51) rfl))) (by decide) (t := (.object "java/lang/String")) (t' := (.object "java/lang/String")) (by decide) (by decide)))
  have K6 := K0.wr W2 (Or.inl (List.mem_of_getElem? (i := 0) rfl))
  have N2 := Fr.snoc X2 N1 g_a0_
  refine gs (fun t k => st2 _ k) ?_
  show G (T2.setTop (mkF m 9 #[.val (.ref a0_), .val (.ref a1_), .val (.ref a2_)] []))
  refine gs (fun t k => XS.aloadN X2.here hx rfl (hb hby d8_9) rfl rfl k) ?_
  show G (T2.setTop (mkF m 10 #[.val (.ref a0_), .val (.ref a1_), .val (.ref a2_)] [(.ref a0_)]))
  refine gs (fun t k => XS.aloadN X2.here hx rfl (hb hby d8_10) rfl rfl k) ?_
  show G (T2.setTop (mkF m 11 #[.val (.ref a0_), .val (.ref a1_), .val (.ref a2_)] [(.ref a2_), (.ref a0_)]))
  obtain ⟨T7, h7, X7, e7, W7, st7⟩ := putF X2 hx hZ hown (host := "") (Or.inl (hw _ (List.mem_of_getElem? (i := 52) rfl))) Via.refl e2 F_l_q5 E_a_q3 (Or.inr ⟨(hw _ (List.mem_of_getElem? (i := 53) rfl)), rfl, hnm⟩) (hw _ (List.mem_of_getElem? (i := 39) rfl)) (ty := (.object "java/lang/String")) (by decide) rfl rfl (g := (mkF m 11 #[.val (.ref a0_), .val (.ref a1_), .val (.ref a2_)] [(.ref a2_), (.ref a0_)])) rfl rfl (hb hby d8_11)
  have E_a_q8 := E_a_q3.wr W7
  have F_n_q9 := F_n_q4.other W7 (Or.inr (slot_ne (Or.inr (hw _ (List.mem_of_getElem? (i := 51) rfl))) (Or.inr (hw _ (List.mem_of_getElem? (i := 53) rfl))) (by decide) (t := (.object "java/lang/String")) (t' := (.object "java/lang/String")) (by decide) (by decide)))
  have F_l_q10 := F_l_q5.same W7
  have K11 := K6.wr W7 (Or.inl (List.mem_of_getElem? (i := 0) rfl))
  have N7 := Fr.snoc X7 N2 g_a0_
  refine gs (fun t k => st7 _ k) ?_
  show G (T7.setTop (mkF m 14 #[.val (.ref a0_), .val (.ref a1_), .val (.ref a2_)] []))
  obtain ⟨fs, hr, hrun, hended, hW, hsame⟩ := X7.leave (v := none) (fun _ => rfl)
  refine gl _ ⟨_, _, X7.returnOut hx Bd.returns (hb hby d8_14) hr, hrun, hended, _, _, rfl, ?_, ⟨_, rfl⟩, hW, hsame.mono (by decide) (by decide)⟩
  show Q8 Z a0_ a1_ a2_ h0 n0 _ T7.heap _
  rw [e7]
  exact ⟨rfl, N7, K11, E_a_q8, F_n_q9, F_l_q10⟩
theorem d11_0 : decode jdk_42_method_55_code 0 = .ok (.aload_n 0, 1) := by decide +kernel
theorem d11_1 : decode jdk_42_method_55_code 1 = .ok (.getfield 9, 3) := by decide +kernel
theorem d11_4 : decode jdk_42_method_55_code 4 = .ok (.arraylength, 1) := by decide +kernel
theorem d11_5 : decode jdk_42_method_55_code 5 = .ok (.ifCond .ne 7, 3) := by decide +kernel
theorem d11_8 : decode jdk_42_method_55_code 8 = .ok (.iconst 1, 1) := by decide +kernel
theorem d11_9 : decode jdk_42_method_55_code 9 = .ok (.goto 4, 3) := by decide +kernel
theorem d11_12 : decode jdk_42_method_55_code 12 = .ok (.iconst 0, 1) := by decide +kernel
theorem d11_13 : decode jdk_42_method_55_code 13 = .ok (.ireturn, 1) := by decide +kernel
theorem ef_11 (m : MethodId) (a0_ : Addr) : entryFrame m #[(.ref a0_)] 1 = mkF m 0 #[.val (.ref a0_)] [] := by first | (simp [entryFrame, mkF, argsToLocals, Value.category]; done) | rfl
def Q11 (nn : Int32) (h0 : Heap) (n0 : Nat) (v : Option Value) (h : Heap) (L : List Loc) : Prop := v = some (.int (if nn = 0 then 1 else 0)) ∧ Fr n0 L ∧ h = h0
set_option maxRecDepth 65536 in
set_option maxHeartbeats 40000000 in
theorem rm11 (l : Launch) (Z : State) (a0 : Array Value) (hw : ∀ d ∈ tables_1, d.before a0 Z = true) (ws : List Jvm.Cond) (a0_ : Addr) (nn : Int32) (h0 : Heap) (n0 : Nat) (Z0 : n0 ≤ h0.size) (U : own_Str Z h0 a0_ nn) :
    MetFree l (⟨"java/lang/String", "isEmpty", "()Z"⟩ : MethodName) (head1 (Jvm.Cond.code (⟨"java/lang/String", "isEmpty", "()Z"⟩ : MethodName) jdk_42_method_55_code 1 (some .boolean) :: ws) ({ frames := 0, cells := 0, slots := 0, locals := 0 } : Room)) (fun a U => a = #[(.ref a0_)] ∧ Z.Warmed39 U.vm ∧ U.heap = h0) (fun _ _ _ _ _ => True) (fun _ U o U' => ∃ v L, o = .returned v ∧ Q11 nn h0 n0 v U'.heap L ∧ FrameEnd U o U' L ({ frames := 0, cells := 0, slots := 0, locals := 0 } : Room).cells ({ frames := 0, cells := 0, slots := 0, locals := 0 } : Room).slots) := by
  refine MetFree.of_bodySF (plainFor_of_name pn_java_lang_String) hisR ?_
  intro p e s m args below meth c s₁ Bd hml0 hP hK
  obtain ⟨rfl, hZ, hh⟩ := hP
  have hx := Bd.exec
  have hby := Bd.bytes
  have hml : c.maxLocals = 1 := hml0
  have hown : s.vm.findClass "java/lang/String" = some m.cls := findClass_of_methodNamed Bd.named
  have hnm := (name_of_methodNamed Bd.named Bd.method).1
  have X0 : Stand p l e ({ frames := 0, cells := 0, slots := 0, locals := 0 } : Room) s m #[(.ref a0_)] below meth c s₁ [] 0 0 := Stand.of_body Bd
  have e0 : s₁.heap = h0 := by rw [← hh, Bd.state]; rfl
  have N0 := Fr.nil n0
  have pre0 : ∀ t, Steps p.tables e below (s₁.setTop (mkF m 0 #[.val (.ref a0_)] [])) t → Steps p.tables e below (s₁.setTop (entryFrame m #[(.ref a0_)] 1)) t := fun t k => castTop (ef_11 m a0_) k
  have K0 := Keep.refl h0 []
  refine own_start pre0 fun G gs gl => ?_
  show G (s₁.setTop (mkF m 0 #[.val (.ref a0_)] []))
  obtain ⟨tA, kA, vsA, E1, Fv, Fc, c1, A1, -, S1, M1, -, -⟩ := U
  show G (s₁.setTop (mkF m 0 #[.val (.ref a0_)] []))
  refine gs (fun t k => XS.aloadN X0.here hx rfl (hb hby d11_0) rfl rfl k) ?_
  show G (s₁.setTop (mkF m 1 #[.val (.ref a0_)] [(.ref a0_)]))
  obtain ⟨T1, X1, e1, st1⟩ := getF X0 hx hZ hown (host := "") (Or.inl (hw _ (List.mem_of_getElem? (i := 25) rfl))) Via.refl e0 Fv (g := (mkF m 1 #[.val (.ref a0_)] [(.ref a0_)])) rfl rfl (hb hby d11_1)
  refine gs (fun t k => st1 _ k) ?_
  show G (T1.setTop (mkF m 4 #[.val (.ref a0_)] [(.ref tA)]))
  refine gs (fun t k => X1.arraylength hx (by rw [e1]; exact A1.1) (State.isArrayOf_alike hZ.alike A1.2.1) (g := (mkF m 4 #[.val (.ref a0_)] [(.ref tA)])) rfl rfl (hb hby d11_4) _ k) ?_
  rw [len_of S1 M1]
  show G (T1.setTop (mkF m 5 #[.val (.ref a0_)] [(.int nn)]))
  by_cases hc5 : nn = (0 : Int32)
  · refine gs (fun t k => XS.ifNo X1.here hx rfl (hb hby d11_5) rfl ((if0 _ _).trans (teq hc5).2) k) ?_
    show G (T1.setTop (mkF m 8 #[.val (.ref a0_)] []))
    refine gs (fun t k => XS.iconst X1.here hx rfl (hb hby d11_8) k) ?_
    show G (T1.setTop (mkF m 9 #[.val (.ref a0_)] [(.int (1 : Int32))]))
    refine gs (fun t k => XS.goto X1.here hx rfl (pc0 := 9) (pc' := 13) rfl (hb hby d11_9) (by decide) (by decide) k) ?_
    show G (T1.setTop (mkF m 13 #[.val (.ref a0_)] [(.int (1 : Int32))]))
    obtain ⟨fs, hr, hrun, hended, hW, hsame⟩ := X1.leave (v := some (.int (1 : Int32))) (fun h => by rw [Bd.returns] at h; cases h)
    refine gl _ ⟨_, _, retN X1 hx (t := .boolean) Bd.returns (by simp) (hb hby d11_13) hr, hrun, hended, _, _, rfl, ?_, ⟨_, rfl⟩, hW, hsame.mono (by decide) (by decide)⟩
    show Q11 nn h0 n0 _ T1.heap _
    rw [e1]
    exact ⟨congrArg (fun z => some (Value.int z)) (by simp [hc5]), N0, rfl⟩
  · refine gs (fun t k => XS.ifYes X1.here hx rfl (pc0 := 5) (pc' := 12) rfl (hb hby d11_5) rfl ((if0 _ _).trans (feq hc5).2) (by decide) (by decide) k) ?_
    show G (T1.setTop (mkF m 12 #[.val (.ref a0_)] []))
    refine gs (fun t k => XS.iconst X1.here hx rfl (hb hby d11_12) k) ?_
    show G (T1.setTop (mkF m 13 #[.val (.ref a0_)] [(.int (0 : Int32))]))
    obtain ⟨fs, hr, hrun, hended, hW, hsame⟩ := X1.leave (v := some (.int (0 : Int32))) (fun h => by rw [Bd.returns] at h; cases h)
    refine gl _ ⟨_, _, retN X1 hx (t := .boolean) Bd.returns (by simp) (hb hby d11_13) hr, hrun, hended, _, _, rfl, ?_, ⟨_, rfl⟩, hW, hsame.mono (by decide) (by decide)⟩
    show Q11 nn h0 n0 _ T1.heap _
    rw [e1]
    exact ⟨congrArg (fun z => some (Value.int z)) (by simp [hc5]), N0, rfl⟩
theorem d13_0 : decode jdk_42_method_152_code 0 = .ok (.getstatic 38, 3) := by decide +kernel
theorem d13_3 : decode jdk_42_method_152_code 3 = .ok (.ifCond .eq 10, 3) := by decide +kernel
theorem d13_6 : decode jdk_42_method_152_code 6 = .ok (.aload_n 0, 1) := by decide +kernel
theorem d13_7 : decode jdk_42_method_152_code 7 = .ok (.getfield 15, 3) := by decide +kernel
theorem d13_10 : decode jdk_42_method_152_code 10 = .ok (.goto 4, 3) := by decide +kernel
theorem d13_14 : decode jdk_42_method_152_code 14 = .ok (.ireturn, 1) := by decide +kernel
theorem ef_13 (m : MethodId) (a0_ : Addr) : entryFrame m #[(.ref a0_)] 1 = mkF m 0 #[.val (.ref a0_)] [] := by first | (simp [entryFrame, mkF, argsToLocals, Value.category]; done) | rfl
def Q13 (h0 : Heap) (n0 : Nat) (v : Option Value) (h : Heap) (L : List Loc) : Prop := v = some (.int (0 : Int32)) ∧ Fr n0 L ∧ h = h0
set_option maxRecDepth 65536 in
set_option maxHeartbeats 40000000 in
theorem rm13 (l : Launch) (Z : State) (a0 : Array Value) (hw : ∀ d ∈ tables_1, d.before a0 Z = true) (ws : List Jvm.Cond) (a0_ : Addr) (nn cs : Int32) (h0 : Heap) (n0 : Nat) (Z0 : n0 ≤ h0.size) (SC : Sta Z h0 "java/lang/String" "COMPACT_STRINGS" "Z" (.int cs)) (hcs : ¬ cs = (0 : Int32)) (U : own_Str Z h0 a0_ nn) :
    MetFree l (⟨"java/lang/String", "coder", "()B"⟩ : MethodName) (head1 (Jvm.Cond.code (⟨"java/lang/String", "coder", "()B"⟩ : MethodName) jdk_42_method_152_code 1 (some .byte) :: ws) ({ frames := 0, cells := 0, slots := 0, locals := 0 } : Room)) (fun a U => a = #[(.ref a0_)] ∧ Z.Warmed39 U.vm ∧ U.heap = h0) (fun _ _ _ _ _ => True) (fun _ U o U' => ∃ v L, o = .returned v ∧ Q13 h0 n0 v U'.heap L ∧ FrameEnd U o U' L ({ frames := 0, cells := 0, slots := 0, locals := 0 } : Room).cells ({ frames := 0, cells := 0, slots := 0, locals := 0 } : Room).slots) := by
  refine MetFree.of_bodySF (plainFor_of_name pn_java_lang_String) hisR ?_
  intro p e s m args below meth c s₁ Bd hml0 hP hK
  obtain ⟨rfl, hZ, hh⟩ := hP
  have hx := Bd.exec
  have hby := Bd.bytes
  have hml : c.maxLocals = 1 := hml0
  have hown : s.vm.findClass "java/lang/String" = some m.cls := findClass_of_methodNamed Bd.named
  have hnm := (name_of_methodNamed Bd.named Bd.method).1
  have X0 : Stand p l e ({ frames := 0, cells := 0, slots := 0, locals := 0 } : Room) s m #[(.ref a0_)] below meth c s₁ [] 0 0 := Stand.of_body Bd
  have e0 : s₁.heap = h0 := by rw [← hh, Bd.state]; rfl
  have N0 := Fr.nil n0
  have pre0 : ∀ t, Steps p.tables e below (s₁.setTop (mkF m 0 #[.val (.ref a0_)] [])) t → Steps p.tables e below (s₁.setTop (entryFrame m #[(.ref a0_)] 1)) t := fun t k => castTop (ef_13 m a0_) k
  have K0 := Keep.refl h0 []
  refine own_start pre0 fun G gs gl => ?_
  show G (s₁.setTop (mkF m 0 #[.val (.ref a0_)] []))
  obtain ⟨t, k, vs, E1, Fv, Fc, -⟩ := U
  show G (s₁.setTop (mkF m 0 #[.val (.ref a0_)] []))
  obtain ⟨T1, X1, e1, st1⟩ := getS2 X0 hx hZ hown (host := "") (Or.inl (hw _ (List.mem_of_getElem? (i := 27) rfl))) Via.refl e0 SC (g := (mkF m 0 #[.val (.ref a0_)] [])) rfl (hb hby d13_0)
  refine gs (fun t k => st1 _ k) ?_
  show G (T1.setTop (mkF m 3 #[.val (.ref a0_)] [(.int cs)]))
  refine gs (fun t k => XS.ifNo X1.here hx rfl (hb hby d13_3) rfl ((if0 _ _).trans (feq hcs).1) k) ?_
  show G (T1.setTop (mkF m 6 #[.val (.ref a0_)] []))
  refine gs (fun t k => XS.aloadN X1.here hx rfl (hb hby d13_6) rfl rfl k) ?_
  show G (T1.setTop (mkF m 7 #[.val (.ref a0_)] [(.ref a0_)]))
  obtain ⟨T2, X2, e2, st2⟩ := getF X1 hx hZ hown (host := "") (Or.inl (hw _ (List.mem_of_getElem? (i := 26) rfl))) Via.refl e1 Fc (g := (mkF m 7 #[.val (.ref a0_)] [(.ref a0_)])) rfl rfl (hb hby d13_7)
  refine gs (fun t k => st2 _ k) ?_
  show G (T2.setTop (mkF m 10 #[.val (.ref a0_)] [(.int (0 : Int32))]))
  refine gs (fun t k => XS.goto X2.here hx rfl (pc0 := 10) (pc' := 14) rfl (hb hby d13_10) (by decide) (by decide) k) ?_
  show G (T2.setTop (mkF m 14 #[.val (.ref a0_)] [(.int (0 : Int32))]))
  obtain ⟨fs, hr, hrun, hended, hW, hsame⟩ := X2.leave (v := some (.int (0 : Int32))) (fun h => by rw [Bd.returns] at h; cases h)
  refine gl _ ⟨_, _, retN X2 hx (t := .byte) Bd.returns (by simp) (hb hby d13_14) hr, hrun, hended, _, _, rfl, ?_, ⟨_, rfl⟩, hW, hsame.mono (by decide) (by decide)⟩
  show Q13 h0 n0 _ T2.heap _
  rw [e2]
  exact ⟨rfl, N0, rfl⟩
theorem pd_10 : parseMethodDescriptor "()B" = some ⟨[], some .byte⟩ := by decide +kernel
theorem d12_0 : decode jdk_42_method_54_code 0 = .ok (.aload_n 0, 1) := by decide +kernel
theorem d12_1 : decode jdk_42_method_54_code 1 = .ok (.getfield 9, 3) := by decide +kernel
theorem d12_4 : decode jdk_42_method_54_code 4 = .ok (.arraylength, 1) := by decide +kernel
theorem d12_5 : decode jdk_42_method_54_code 5 = .ok (.aload_n 0, 1) := by decide +kernel
theorem d12_6 : decode jdk_42_method_54_code 6 = .ok (.invokevirtual 335, 3) := by decide +kernel
theorem d12_9 : decode jdk_42_method_54_code 9 = .ok (.ishr, 1) := by decide +kernel
theorem d12_10 : decode jdk_42_method_54_code 10 = .ok (.ireturn, 1) := by decide +kernel
theorem ef_12 (m : MethodId) (a0_ : Addr) : entryFrame m #[(.ref a0_)] 1 = mkF m 0 #[.val (.ref a0_)] [] := by first | (simp [entryFrame, mkF, argsToLocals, Value.category]; done) | rfl
theorem own_shr0 (x : Int32) : x >>> ((0 : Int32) &&& 31) = x := by
  rw [show ((0 : Int32) &&& 31) = 0 by decide]
  apply Int32.toBitVec_inj.mp
  simp
def Q12 (nn : Int32) (h0 : Heap) (n0 : Nat) (v : Option Value) (h : Heap) (L : List Loc) : Prop := v = some (.int nn) ∧ Fr n0 L ∧ h = h0
set_option maxRecDepth 65536 in
set_option maxHeartbeats 40000000 in
theorem rm12 (l : Launch) (Z : State) (a0 : Array Value) (hw : ∀ d ∈ tables_1, d.before a0 Z = true) (ws : List Jvm.Cond) (a0_ : Addr) (nn cs : Int32) (h0 : Heap) (n0 : Nat) (Z0 : n0 ≤ h0.size) (SC : Sta Z h0 "java/lang/String" "COMPACT_STRINGS" "Z" (.int cs)) (hcs : ¬ cs = (0 : Int32)) (U : own_Str Z h0 a0_ nn) :
    MetFree l (⟨"java/lang/String", "length", "()I"⟩ : MethodName) (head1 (Jvm.Cond.code (⟨"java/lang/String", "length", "()I"⟩ : MethodName) jdk_42_method_54_code 1 (some .int) :: ws) ({ frames := 1, cells := 0, slots := 0, locals := 13 } : Room)) (fun a U => a = #[(.ref a0_)] ∧ Z.Warmed39 U.vm ∧ U.heap = h0) (fun _ _ _ _ _ => True) (fun _ U o U' => ∃ v L, o = .returned v ∧ Q12 nn h0 n0 v U'.heap L ∧ FrameEnd U o U' L ({ frames := 1, cells := 0, slots := 0, locals := 13 } : Room).cells ({ frames := 1, cells := 0, slots := 0, locals := 13 } : Room).slots) := by
  refine MetFree.of_bodySF (plainFor_of_name pn_java_lang_String) hisR ?_
  intro p e s m args below meth c s₁ Bd hml0 hP hK
  obtain ⟨rfl, hZ, hh⟩ := hP
  have hx := Bd.exec
  have hby := Bd.bytes
  have hml : c.maxLocals = 1 := hml0
  have hown : s.vm.findClass "java/lang/String" = some m.cls := findClass_of_methodNamed Bd.named
  have hnm := (name_of_methodNamed Bd.named Bd.method).1
  have X0 : Stand p l e ({ frames := 1, cells := 0, slots := 0, locals := 13 } : Room) s m #[(.ref a0_)] below meth c s₁ [] 0 0 := Stand.of_body Bd
  have e0 : s₁.heap = h0 := by rw [← hh, Bd.state]; rfl
  have N0 := Fr.nil n0
  have pre0 : ∀ t, Steps p.tables e below (s₁.setTop (mkF m 0 #[.val (.ref a0_)] [])) t → Steps p.tables e below (s₁.setTop (entryFrame m #[(.ref a0_)] 1)) t := fun t k => castTop (ef_12 m a0_) k
  have K0 := Keep.refl h0 []
  refine own_start pre0 fun G gs gl => ?_
  show G (s₁.setTop (mkF m 0 #[.val (.ref a0_)] []))
  obtain ⟨tA, kA, vsA, E1, Fv, Fc, c1, A1, -, S1, M1, -, -⟩ := id U
  show G (s₁.setTop (mkF m 0 #[.val (.ref a0_)] []))
  refine gs (fun t k => XS.aloadN X0.here hx rfl (hb hby d12_0) rfl rfl k) ?_
  show G (s₁.setTop (mkF m 1 #[.val (.ref a0_)] [(.ref a0_)]))
  obtain ⟨T1, X1, e1, st1⟩ := getF X0 hx hZ hown (host := "") (Or.inl (hw _ (List.mem_of_getElem? (i := 25) rfl))) Via.refl e0 Fv (g := (mkF m 1 #[.val (.ref a0_)] [(.ref a0_)])) rfl rfl (hb hby d12_1)
  refine gs (fun t k => st1 _ k) ?_
  show G (T1.setTop (mkF m 4 #[.val (.ref a0_)] [(.ref tA)]))
  refine gs (fun t k => X1.arraylength hx (by rw [e1]; exact A1.1) (State.isArrayOf_alike hZ.alike A1.2.1) (g := (mkF m 4 #[.val (.ref a0_)] [(.ref tA)])) rfl rfl (hb hby d12_4) _ k) ?_
  rw [len_of S1 M1]
  show G (T1.setTop (mkF m 5 #[.val (.ref a0_)] [(.int nn)]))
  refine gs (fun t k => XS.aloadN X1.here hx rfl (hb hby d12_5) rfl rfl k) ?_
  show G (T1.setTop (mkF m 6 #[.val (.ref a0_)] [(.ref a0_), (.int nn)]))
  obtain ⟨cq2, kq2, q2a, q2b, q2c⟩ := isOf hZ e1 E1
  obtain ⟨_, _, ⟨T2, L2, k2, n2⟩, -, X2, ⟨Lc2, hQ2, l2, y2, z2⟩, st2⟩ := X1.virtualBack hx (y := (⟨"java/lang/String", "coder", "()B"⟩ : MethodName)) (z := (⟨"java/lang/String", "coder", "()B"⟩ : MethodName)) hown (mvT hZ (hw _ (List.mem_of_getElem? (i := 69) rfl))) (mvT hZ (hw _ (List.mem_of_getElem? (i := 70) rfl))) (notFace_of_selects (args := #[]) (mvT hZ (hw _ (List.mem_of_getElem? (i := 72) rfl)))) (mvT hZ (hw _ (List.mem_of_getElem? (i := 72) rfl))) (mvT hZ (hw _ (List.mem_of_getElem? (i := 71) rfl))) (by decide) (backOf (W := 1) (rm13 l Z a0 hw [] a0_ nn cs h0 n0 Z0 SC hcs U) hZ (hw _ (List.mem_of_getElem? (i := 73) rfl)) (hw _ (List.mem_of_getElem? (i := 7) rfl)) (by decide) (by decide)) q2a q2c (g := (mkF m 6 #[.val (.ref a0_)] [(.ref a0_), (.int nn)])) rfl (by rw [hml]; rfl) (Steps.refl _) (argsL := []) (rest := [(.int nn)]) (lenOf pd_10 rfl) rfl (by show 2 * 0 + _ ≤ _; exact Nat.le_of_eq rfl) (hb hby d12_6) (fun _ _ => ⟨rfl, e1, (by decide : 0 + 0 ≤ _), (by decide : 0 + 0 ≤ _)⟩)
  dsimp only [Pt.U, Pt.locs, Pt.cells, Pt.slots] at X2 l2 y2 z2 st2 hQ2
  subst y2 z2
  obtain ⟨rfl, N2q, e2⟩ := hQ2
  have N2 : Fr n0 L2 := by rw [l2]; exact Fr.app N0 N2q
  refine gs (fun t k => st2.trans k) ?_
  show G (T2.setTop (mkF m 9 #[.val (.ref a0_)] [(.int (0 : Int32)), (.int nn)]))
  refine gs (fun t k => XS.ishr X2.here hx rfl (hb hby d12_9) rfl k) ?_
  show G (T2.setTop (mkF m 10 #[.val (.ref a0_)] [(.int (nn >>> ((0 : Int32) &&& 31)))]))
  obtain ⟨fs, hr, hrun, hended, hW, hsame⟩ := X2.leave (v := some (.int (nn >>> ((0 : Int32) &&& 31)))) (fun h => by rw [Bd.returns] at h; cases h)
  refine gl _ ⟨_, _, own_retI X2 hx Bd.returns (hb hby d12_10) hr, hrun, hended, _, _, rfl, ?_, ⟨_, rfl⟩, hW, hsame.mono (by decide) (by decide)⟩
  show Q12 nn h0 n0 _ T2.heap _
  rw [e2]
  exact ⟨congrArg (fun z => some (Value.int z)) (own_shr0 nn), N2, rfl⟩
theorem d14_0 : decode jdk_42_method_66_code 0 = .ok (.aload_n 0, 1) := by decide +kernel
theorem d14_1 : decode jdk_42_method_66_code 1 = .ok (.aload_n 1, 1) := by decide +kernel
theorem d14_2 : decode jdk_42_method_66_code 2 = .ok (.if_acmp .ne 5, 3) := by decide +kernel
theorem d14_5 : decode jdk_42_method_66_code 5 = .ok (.iconst 1, 1) := by decide +kernel
theorem d14_6 : decode jdk_42_method_66_code 6 = .ok (.ireturn, 1) := by decide +kernel
theorem ef_14 (m : MethodId) (a0_ : Addr) (a1_ : Addr) : entryFrame m #[(.ref a0_), (.ref a1_)] 3 = mkF m 0 #[.val (.ref a0_), .val (.ref a1_), .unset] [] := by first | (simp [entryFrame, mkF, argsToLocals, Value.category]; done) | rfl
theorem ef_14e (m : MethodId) (a0_ : Addr) : entryFrame m #[(.ref a0_), (.ref a0_)] 3 = mkF m 0 #[.val (.ref a0_), .val (.ref a0_), .unset] [] := by first | (simp [entryFrame, mkF, argsToLocals, Value.category]; done) | rfl
def Q14 (h0 : Heap) (n0 : Nat) (v : Option Value) (h : Heap) (L : List Loc) : Prop := v = some (.int (1 : Int32)) ∧ Fr n0 L ∧ h = h0
set_option maxRecDepth 65536 in
set_option maxHeartbeats 40000000 in
theorem rm14e (l : Launch) (Z : State) (a0 : Array Value) (hw : ∀ d ∈ tables_1, d.before a0 Z = true) (ws : List Jvm.Cond) (a0_ : Addr)  (h0 : Heap) (n0 : Nat) (Z0 : n0 ≤ h0.size)  :
    MetFree l (⟨"java/lang/String", "equals", "(Ljava/lang/Object;)Z"⟩ : MethodName) (head1 (Jvm.Cond.code (⟨"java/lang/String", "equals", "(Ljava/lang/Object;)Z"⟩ : MethodName) jdk_42_method_66_code 3 (some .boolean) :: ws) ({ frames := 0, cells := 0, slots := 0, locals := 0 } : Room)) (fun a U => a = #[(.ref a0_), (.ref a0_)] ∧ Z.Warmed39 U.vm ∧ U.heap = h0) (fun _ _ _ _ _ => True) (fun _ U o U' => ∃ v L, o = .returned v ∧ Q14 h0 n0 v U'.heap L ∧ FrameEnd U o U' L ({ frames := 0, cells := 0, slots := 0, locals := 0 } : Room).cells ({ frames := 0, cells := 0, slots := 0, locals := 0 } : Room).slots) := by
  refine MetFree.of_bodySF (plainFor_of_name pn_java_lang_String) hisR ?_
  intro p e s m args below meth c s₁ Bd hml0 hP hK
  obtain ⟨rfl, hZ, hh⟩ := hP
  have hx := Bd.exec
  have hby := Bd.bytes
  have hml : c.maxLocals = 3 := hml0
  have hown : s.vm.findClass "java/lang/String" = some m.cls := findClass_of_methodNamed Bd.named
  have hnm := (name_of_methodNamed Bd.named Bd.method).1
  have X0 : Stand p l e ({ frames := 0, cells := 0, slots := 0, locals := 0 } : Room) s m #[(.ref a0_), (.ref a0_)] below meth c s₁ [] 0 0 := Stand.of_body Bd
  have e0 : s₁.heap = h0 := by rw [← hh, Bd.state]; rfl
  have N0 := Fr.nil n0
  have pre0 : ∀ t, Steps p.tables e below (s₁.setTop (mkF m 0 #[.val (.ref a0_), .val (.ref a0_), .unset] [])) t → Steps p.tables e below (s₁.setTop (entryFrame m #[(.ref a0_), (.ref a0_)] 3)) t := fun t k => castTop (ef_14e m a0_) k
  have K0 := Keep.refl h0 []
  refine own_start pre0 fun G gs gl => ?_
  show G (s₁.setTop (mkF m 0 #[.val (.ref a0_), .val (.ref a0_), .unset] []))
  refine gs (fun t k => XS.aloadN X0.here hx rfl (hb hby d14_0) rfl rfl k) ?_
  show G (s₁.setTop (mkF m 1 #[.val (.ref a0_), .val (.ref a0_), .unset] [(.ref a0_)]))
  refine gs (fun t k => XS.aloadN X0.here hx rfl (hb hby d14_1) rfl rfl k) ?_
  show G (s₁.setTop (mkF m 2 #[.val (.ref a0_), .val (.ref a0_), .unset] [(.ref a0_), (.ref a0_)]))
  refine gs (fun t k => Jvm.RoadKit.acmp (g := (mkF m 2 #[.val (.ref a0_), .val (.ref a0_), .unset] [(.ref a0_), (.ref a0_)])) X0 hx rfl rfl rfl (pc0 := 2) (pc' := 5) (same := true) rfl (hb hby d14_2) rfl (decide_eq_true rfl) (by decide) (by decide) k) ?_
  show G (s₁.setTop (mkF m 5 #[.val (.ref a0_), .val (.ref a0_), .unset] []))
  refine gs (fun t k => XS.iconst X0.here hx rfl (hb hby d14_5) k) ?_
  show G (s₁.setTop (mkF m 6 #[.val (.ref a0_), .val (.ref a0_), .unset] [(.int (1 : Int32))]))
  obtain ⟨fs, hr, hrun, hended, hW, hsame⟩ := X0.leave (v := some (.int (1 : Int32))) (fun h => by rw [Bd.returns] at h; cases h)
  refine gl _ ⟨_, _, retN X0 hx (t := .boolean) Bd.returns (by simp) (hb hby d14_6) hr, hrun, hended, _, _, rfl, ?_, ⟨_, rfl⟩, hW, hsame.mono (by decide) (by decide)⟩
  show Q14 h0 n0 _ s₁.heap _
  rw [e0]
  exact ⟨rfl, N0, rfl⟩
theorem pd_11 : parseMethodDescriptor "()Z" = some ⟨[], some .boolean⟩ := by decide +kernel
theorem d10_0 : decode prog_32_method_2_code 0 = .ok (.aload_n 0, 1) := by decide +kernel
theorem d10_1 : decode prog_32_method_2_code 1 = .ok (.getfield 13, 3) := by decide +kernel
theorem d10_4 : decode prog_32_method_2_code 4 = .ok (.invokevirtual 16, 3) := by decide +kernel
theorem d10_7 : decode prog_32_method_2_code 7 = .ok (.ifCond .eq 10, 3) := by decide +kernel
theorem d10_10 : decode prog_32_method_2_code 10 = .ok (.aload_n 0, 1) := by decide +kernel
theorem d10_11 : decode prog_32_method_2_code 11 = .ok (.getfield 7, 3) := by decide +kernel
theorem d10_14 : decode prog_32_method_2_code 14 = .ok (.goto 7, 3) := by decide +kernel
theorem d10_17 : decode prog_32_method_2_code 17 = .ok (.aload_n 0, 1) := by decide +kernel
theorem d10_18 : decode prog_32_method_2_code 18 = .ok (.getfield 13, 3) := by decide +kernel
theorem d10_21 : decode prog_32_method_2_code 21 = .ok (.areturn, 1) := by decide +kernel
theorem ef_10 (m : MethodId) (a0_ : Addr) : entryFrame m #[(.ref a0_)] 1 = mkF m 0 #[.val (.ref a0_)] [] := by first | (simp [entryFrame, mkF, argsToLocals, Value.category]; done) | rfl
def Q10 (x y : Addr) (nn : Int32) (h0 : Heap) (n0 : Nat) (v : Option Value) (h : Heap) (L : List Loc) : Prop := v = some (.ref (if nn = 0 then x else y)) ∧ Fr n0 L ∧ h = h0
set_option maxRecDepth 65536 in
set_option maxHeartbeats 40000000 in
theorem rm10 (l : Launch) (Z : State) (a0 : Array Value) (hw : ∀ d ∈ tables_1, d.before a0 Z = true) (ws : List Jvm.Cond) (a0_ : Addr) (x y : Addr) (nn : Int32) (h0 : Heap) (n0 : Nat) (Z0 : n0 ≤ h0.size) (F_n : Fld Z h0 a0_ "com/example/stavegate/stavegate/format/MeiMeasures$Staff" "number" "Ljava/lang/String;" (.ref x)) (F_l : Fld Z h0 a0_ "com/example/stavegate/stavegate/format/MeiMeasures$Staff" "label" "Ljava/lang/String;" (.ref y)) (U : own_Str Z h0 y nn) :
    MetFree l (⟨"com/example/stavegate/stavegate/format/MeiMeasures$Staff", "name", "()Ljava/lang/String;"⟩ : MethodName) (head1 (Jvm.Cond.code (⟨"com/example/stavegate/stavegate/format/MeiMeasures$Staff", "name", "()Ljava/lang/String;"⟩ : MethodName) prog_32_method_2_code 1 (some (.object "java/lang/String")) :: ws) ({ frames := 1, cells := 0, slots := 0, locals := 12 } : Room)) (fun a U => a = #[(.ref a0_)] ∧ Z.Warmed39 U.vm ∧ U.heap = h0) (fun _ _ _ _ _ => True) (fun _ U o U' => ∃ v L, o = .returned v ∧ Q10 x y nn h0 n0 v U'.heap L ∧ FrameEnd U o U' L ({ frames := 1, cells := 0, slots := 0, locals := 12 } : Room).cells ({ frames := 1, cells := 0, slots := 0, locals := 12 } : Room).slots) := by
  refine MetFree.of_bodySF (plainFor_of_name pn_com_example_stavegate_stavegate_format_MeiMeasures_Staff) hisR ?_
  intro p e s m args below meth c s₁ Bd hml0 hP hK
  obtain ⟨rfl, hZ, hh⟩ := hP
  have hx := Bd.exec
  have hby := Bd.bytes
  have hml : c.maxLocals = 1 := hml0
  have hown : s.vm.findClass "com/example/stavegate/stavegate/format/MeiMeasures$Staff" = some m.cls := findClass_of_methodNamed Bd.named
  have hnm := (name_of_methodNamed Bd.named Bd.method).1
  have X0 : Stand p l e ({ frames := 1, cells := 0, slots := 0, locals := 12 } : Room) s m #[(.ref a0_)] below meth c s₁ [] 0 0 := Stand.of_body Bd
  have e0 : s₁.heap = h0 := by rw [← hh, Bd.state]; rfl
  have N0 := Fr.nil n0
  have pre0 : ∀ t, Steps p.tables e below (s₁.setTop (mkF m 0 #[.val (.ref a0_)] [])) t → Steps p.tables e below (s₁.setTop (entryFrame m #[(.ref a0_)] 1)) t := fun t k => castTop (ef_10 m a0_) k
  have K0 := Keep.refl h0 []
  refine own_start pre0 fun G gs gl => ?_
  show G (s₁.setTop (mkF m 0 #[.val (.ref a0_)] []))
  obtain ⟨_, _, _, E1, -⟩ := id U
  show G (s₁.setTop (mkF m 0 #[.val (.ref a0_)] []))
  refine gs (fun t k => XS.aloadN X0.here hx rfl (hb hby d10_0) rfl rfl k) ?_
  show G (s₁.setTop (mkF m 1 #[.val (.ref a0_)] [(.ref a0_)]))
  obtain ⟨T1, X1, e1, st1⟩ := getF X0 hx hZ hown (host := "") (Or.inl (hw _ (List.mem_of_getElem? (i := 52) rfl))) Via.refl e0 F_l (g := (mkF m 1 #[.val (.ref a0_)] [(.ref a0_)])) rfl rfl (hb hby d10_1)
  refine gs (fun t k => st1 _ k) ?_
  show G (T1.setTop (mkF m 4 #[.val (.ref a0_)] [(.ref y)]))
  obtain ⟨cq2, kq2, q2a, q2b, q2c⟩ := isOf hZ e1 E1
  obtain ⟨_, _, ⟨T2, L2, k2, n2⟩, -, X2, ⟨Lc2, hQ2, l2, y2, z2⟩, st2⟩ := X1.virtualBack hx (y := (⟨"java/lang/String", "isEmpty", "()Z"⟩ : MethodName)) (z := (⟨"java/lang/String", "isEmpty", "()Z"⟩ : MethodName)) hown (mvT hZ (hw _ (List.mem_of_getElem? (i := 59) rfl))) (mvT hZ (hw _ (List.mem_of_getElem? (i := 60) rfl))) (notFace_of_selects (args := #[]) (mvT hZ (hw _ (List.mem_of_getElem? (i := 62) rfl)))) (mvT hZ (hw _ (List.mem_of_getElem? (i := 62) rfl))) (mvT hZ (hw _ (List.mem_of_getElem? (i := 61) rfl))) (by decide) (backOf (W := 0) (rm11 l Z a0 hw [] y nn h0 n0 Z0 U) hZ (hw _ (List.mem_of_getElem? (i := 63) rfl)) (hw _ (List.mem_of_getElem? (i := 7) rfl)) (by decide) (by decide)) q2a q2c (g := (mkF m 4 #[.val (.ref a0_)] [(.ref y)])) rfl (by rw [hml]; rfl) (Steps.refl _) (argsL := []) (rest := []) (lenOf pd_11 rfl) rfl (by show 2 * 0 + _ ≤ _; exact Nat.le_of_eq rfl) (hb hby d10_4) (fun _ _ => ⟨rfl, e1, (by decide : 0 + 0 ≤ _), (by decide : 0 + 0 ≤ _)⟩)
  dsimp only [Pt.U, Pt.locs, Pt.cells, Pt.slots] at X2 l2 y2 z2 st2 hQ2
  subst y2 z2
  obtain ⟨rfl, N2q, e2⟩ := hQ2
  have N2 : Fr n0 L2 := by rw [l2]; exact Fr.app N0 N2q
  refine gs (fun t k => st2.trans k) ?_
  show G (T2.setTop (mkF m 7 #[.val (.ref a0_)] [(.int (if nn = 0 then (1 : Int32) else 0))]))
  by_cases hc7 : (if nn = 0 then (1 : Int32) else 0) = (0 : Int32)
  · refine gs (fun t k => XS.ifYes X2.here hx rfl (pc0 := 7) (pc' := 17) rfl (hb hby d10_7) rfl ((if0 _ _).trans (teq hc7).1) (by decide) (by decide) k) ?_
    show G (T2.setTop (mkF m 17 #[.val (.ref a0_)] []))
    refine gs (fun t k => XS.aloadN X2.here hx rfl (hb hby d10_17) rfl rfl k) ?_
    show G (T2.setTop (mkF m 18 #[.val (.ref a0_)] [(.ref a0_)]))
    obtain ⟨T3, X3, e3, st3⟩ := getF X2 hx hZ hown (host := "") (Or.inl (hw _ (List.mem_of_getElem? (i := 52) rfl))) Via.refl e2 F_l (g := (mkF m 18 #[.val (.ref a0_)] [(.ref a0_)])) rfl rfl (hb hby d10_18)
    refine gs (fun t k => st3 _ k) ?_
    show G (T3.setTop (mkF m 21 #[.val (.ref a0_)] [(.ref y)]))
    obtain ⟨fs, hr, hrun, hended, hW, hsame⟩ := X3.leave (v := some (.ref y)) (fun h => by rw [Bd.returns] at h; cases h)
    refine gl _ ⟨_, _, retOut X3 hx Bd.returns rfl (Or.inr (Or.inr (Or.inr (Or.inr ⟨rfl, rfl, rfl⟩)))) (hb hby d10_21) hr, hrun, hended, _, _, rfl, ?_, ⟨_, rfl⟩, hW, hsame.mono (by decide) (by decide)⟩
    show Q10 x y nn h0 n0 _ T3.heap _
    rw [e3]
    have f0 : ¬ nn = 0 := by
      intro q
      simp [q] at hc7
    exact ⟨congrArg (fun z => some (Value.ref z)) (if_neg f0).symm, N2, rfl⟩
  · refine gs (fun t k => XS.ifNo X2.here hx rfl (hb hby d10_7) rfl ((if0 _ _).trans (feq hc7).1) k) ?_
    show G (T2.setTop (mkF m 10 #[.val (.ref a0_)] []))
    refine gs (fun t k => XS.aloadN X2.here hx rfl (hb hby d10_10) rfl rfl k) ?_
    show G (T2.setTop (mkF m 11 #[.val (.ref a0_)] [(.ref a0_)]))
    obtain ⟨T4, X4, e4, st4⟩ := getF X2 hx hZ hown (host := "") (Or.inl (hw _ (List.mem_of_getElem? (i := 50) rfl))) Via.refl e2 F_n (g := (mkF m 11 #[.val (.ref a0_)] [(.ref a0_)])) rfl rfl (hb hby d10_11)
    refine gs (fun t k => st4 _ k) ?_
    show G (T4.setTop (mkF m 14 #[.val (.ref a0_)] [(.ref x)]))
    refine gs (fun t k => XS.goto X4.here hx rfl (pc0 := 14) (pc' := 21) rfl (hb hby d10_14) (by decide) (by decide) k) ?_
    show G (T4.setTop (mkF m 21 #[.val (.ref a0_)] [(.ref x)]))
    obtain ⟨fs, hr, hrun, hended, hW, hsame⟩ := X4.leave (v := some (.ref x)) (fun h => by rw [Bd.returns] at h; cases h)
    refine gl _ ⟨_, _, retOut X4 hx Bd.returns rfl (Or.inr (Or.inr (Or.inr (Or.inr ⟨rfl, rfl, rfl⟩)))) (hb hby d10_21) hr, hrun, hended, _, _, rfl, ?_, ⟨_, rfl⟩, hW, hsame.mono (by decide) (by decide)⟩
    show Q10 x y nn h0 n0 _ T4.heap _
    rw [e4]
    have f0 : nn = 0 := by
      apply Classical.byContradiction
      intro q
      exact hc7 (if_neg q)
    exact ⟨congrArg (fun z => some (Value.ref z)) (if_pos f0).symm, N2, rfl⟩
theorem pd_12 : parseMethodDescriptor "(II)Ljava/lang/String;" = some ⟨[.int, .int], some (.object "java/lang/String")⟩ := by decide +kernel
theorem pd_13 : parseMethodDescriptor "(Ljava/lang/String;Ljava/lang/String;)V" = some ⟨[(.object "java/lang/String"), (.object "java/lang/String")], none⟩ := by decide +kernel
theorem pd_14 : parseMethodDescriptor "()Ljava/lang/String;" = some ⟨[], some (.object "java/lang/String")⟩ := by decide +kernel
theorem pd_15 : parseMethodDescriptor "()I" = some ⟨[], some .int⟩ := by decide +kernel
theorem pd_16 : parseMethodDescriptor "(Ljava/lang/Object;)Z" = some ⟨[(.object "java/lang/Object")], some .boolean⟩ := by decide +kernel
theorem ef_0 (m : MethodId) (p0 : Int32) (p1 : Int32) (p2 : Int32) (p3 : Int32) : entryFrame m #[(.int p0), (.int p1), (.int p2), (.int p3)] maxLocals = mkF m 0 #[.val (.int p0), .val (.int p1), .val (.int p2), .val (.int p3), .unset, .unset, .unset, .unset, .unset] [] := by first | (simp [entryFrame, mkF, argsToLocals, Value.category, maxLocals]; done) | rfl
def Q0 (h0 : Heap) (n0 : Nat) (v : Option Value) (h : Heap) (L : List Loc) : Prop := v = some (.int 1) ∧ Fr n0 L
set_option maxRecDepth 65536 in
set_option maxHeartbeats 40000000 in
theorem rm0 (l : Launch) (Z : State) (a0 : Array Value) (hw : ∀ d ∈ tables_1, d.before a0 Z = true) (ws : List Jvm.Cond) (p0 : Int32) (p1 : Int32) (p2 : Int32) (p3 : Int32) (cs : Int32) (h0 : Heap) (n0 : Nat) (Z0 : n0 ≤ h0.size) (SC : Sta Z h0 "java/lang/String" "COMPACT_STRINGS" "Z" (.int cs)) (hcs : ¬ cs = (0 : Int32)) :
    MetFree l x (head1 (Jvm.Cond.code x code maxLocals ret :: ws) room_1) (fun a U => a = #[(.int p0), (.int p1), (.int p2), (.int p3)] ∧ Z.Warmed39 U.vm ∧ U.heap = h0 ∧ CHv Z own_EL U.vm h0) (fun _ _ _ _ _ => True) (fun _ U o U' => ∃ v L, o = .returned v ∧ Q0 h0 n0 v U'.heap L ∧ ReturnedEndW U o U' L room_1.cells room_1.slots) := by
  refine MetFree.of_bodySF (plainFor_of_name pn_com_example_stavegate_stavegate_format_StaffNamePinLaw) hisR ?_
  intro p e s m args below meth c s₁ Bd hml0 hP hK
  obtain ⟨rfl, hZ, hh, H0⟩ := hP
  have hx := Bd.exec
  have hby := Bd.bytes
  have hml : c.maxLocals = 9 := hml0
  have hown : s.vm.findClass "com/example/stavegate/stavegate/format/StaffNamePinLaw" = some m.cls := findClass_of_methodNamed Bd.named
  have hnm := (name_of_methodNamed Bd.named Bd.method).1
  have X0 : Stand p l e room_1 s m #[(.int p0), (.int p1), (.int p2), (.int p3)] below meth c s₁ [] 0 0 := Stand.of_body Bd
  have e0 : s₁.heap = h0 := by rw [← hh, Bd.state]; rfl
  have N0 := Fr.nil n0
  have pre0 : ∀ t, Steps p.tables e below (s₁.setTop (mkF m 0 #[.val (.int p0), .val (.int p1), .val (.int p2), .val (.int p3), .unset, .unset, .unset, .unset, .unset] [])) t → Steps p.tables e below (s₁.setTop (entryFrame m #[(.int p0), (.int p1), (.int p2), (.int p3)] maxLocals)) t := fun t k => castTop (ef_0 m p0 p1 p2 p3) k
  have K0 := Keep.refl h0 []
  have hEL := own_ELw hw
  have C0 := CHr.refl H0
  have SI0 : s.Since s.vm 0 := (State.WarmedH.refl s).since 0
  have HK0 : 0 ≤ h0.size := Nat.zero_le _
  refine own_start pre0 fun G gs gl => ?_
  show G (s₁.setTop (mkF m 0 #[.val (.int p0), .val (.int p1), .val (.int p2), .val (.int p3), .unset, .unset, .unset, .unset, .unset] []))
  refine gs (fun t k => XS.iloadN X0.here hx rfl (hb hby at_0) rfl k) ?_
  show G (s₁.setTop (mkF m 1 #[.val (.int p0), .val (.int p1), .val (.int p2), .val (.int p3), .unset, .unset, .unset, .unset, .unset] [(.int p0)]))
  refine gs (fun t k => XS.iloadN X0.here hx rfl (hb hby at_1) rfl k) ?_
  show G (s₁.setTop (mkF m 2 #[.val (.int p0), .val (.int p1), .val (.int p2), .val (.int p3), .unset, .unset, .unset, .unset, .unset] [(.int p1), (.int p0)]))
  obtain ⟨_, _, ⟨T1, L1, k1, n1⟩, -, X1, SJ1, gr1, ⟨Lc1, hQ1, l1, y1, z1, CH1⟩, st1⟩ := callSS (s := s.setVm s.vm) X0 hx (y := (⟨"com/example/stavegate/stavegate/format/StaffNamePinLaw", "draw", "(II)Ljava/lang/String;"⟩ : MethodName)) hown (mvT hZ (hw _ (List.mem_of_getElem? (i := 0) rfl))) (mvT hZ (hw _ (List.mem_of_getElem? (i := 1) rfl))) (mvT hZ (hw _ (List.mem_of_getElem? (i := 2) rfl))) (mvT hZ (hw _ (List.mem_of_getElem? (i := 3) rfl))) (by decide) (backOfSH (s := s) (vm0 := s.vm) (W := 0) (rm1 l Z a0 hw [] p0 p1 cs h0 n0 (Nat.le_trans Z0 K0.1) SC hcs) hZ (hw _ (List.mem_of_getElem? (i := 3) rfl)) (hw _ (List.mem_of_getElem? (i := 2) rfl)) (by decide) (by decide) hEL C0.1) (g := (mkF m 2 #[.val (.int p0), .val (.int p1), .val (.int p2), .val (.int p3), .unset, .unset, .unset, .unset, .unset] [(.int p1), (.int p0)])) rfl (by rw [hml]; rfl) (argsL := [(.int p0), (.int p1)]) (rest := []) (lenOf pd_12 rfl) rfl (by show 2 * 0 + _ ≤ _; exact Nat.le_of_eq rfl) (hb hby at_2) (fun _ _ => ⟨rfl, e0, (by decide : 0 + 6 ≤ _), (by decide : 0 + 12 ≤ _)⟩)
  dsimp only [Pt.U, Pt.locs, Pt.cells, Pt.slots] at X1 SJ1 gr1 l1 y1 z1 CH1 st1 hQ1
  subst y1 z1
  obtain ⟨sb1, rfl, N1q, Kc1, US1⟩ := hQ1
  have N1 : Fr n0 L1 := by rw [l1]; exact Fr.app N0 N1q
  have SI1 := foldS (T := s₁) SI0 (by rw [e0]; exact HK0) SJ1 gr1
  have HK1 := Nat.le_refl T1.heap.size
  have hZ := State.Warmed39.trans (t := s.setVm s.vm) hZ SJ1.1
  have hown : (s.setVm T1.vm).vm.findClass "com/example/stavegate/stavegate/format/StaffNamePinLaw" = some m.cls := by rw [show (s.setVm T1.vm).vm = T1.vm from rfl, SJ1.1.alike.findClass]; exact hown
  have C2c := C0.trans (CH1)
  refine gs (fun t k => st1.trans k) ?_
  have SC_q3 := own_sta_keep SC Kc1
  have K4 := K0.trans Kc1 all0
  show G (T1.setTop (mkF m 5 #[.val (.int p0), .val (.int p1), .val (.int p2), .val (.int p3), .unset, .unset, .unset, .unset, .unset] [(.ref sb1)]))
  refine gs (fun t k => XS.astore X1.here hx rfl (hb hby at_5) rfl rfl (l' := #[.val (.int p0), .val (.int p1), .val (.int p2), .val (.int p3), .val (.ref sb1), .unset, .unset, .unset, .unset]) rfl k) ?_
  show G (T1.setTop (mkF m 7 #[.val (.int p0), .val (.int p1), .val (.int p2), .val (.int p3), .val (.ref sb1), .unset, .unset, .unset, .unset] []))
  refine gs (fun t k => XS.iloadN X1.here hx rfl (hb hby at_7) rfl k) ?_
  show G (T1.setTop (mkF m 8 #[.val (.int p0), .val (.int p1), .val (.int p2), .val (.int p3), .val (.ref sb1), .unset, .unset, .unset, .unset] [(.int p2)]))
  refine gs (fun t k => XS.iloadN X1.here hx rfl (hb hby at_8) rfl k) ?_
  show G (T1.setTop (mkF m 9 #[.val (.int p0), .val (.int p1), .val (.int p2), .val (.int p3), .val (.ref sb1), .unset, .unset, .unset, .unset] [(.int p3), (.int p2)]))
  obtain ⟨_, _, ⟨T5, L5, k5, n5⟩, -, X5, SJ5, gr5, ⟨Lc5, hQ5, l5, y5, z5, CH5⟩, st5⟩ := callSS (s := s.setVm T1.vm) X1 hx (y := (⟨"com/example/stavegate/stavegate/format/StaffNamePinLaw", "draw", "(II)Ljava/lang/String;"⟩ : MethodName)) hown (mvT hZ (hw _ (List.mem_of_getElem? (i := 0) rfl))) (mvT hZ (hw _ (List.mem_of_getElem? (i := 1) rfl))) (mvT hZ (hw _ (List.mem_of_getElem? (i := 2) rfl))) (mvT hZ (hw _ (List.mem_of_getElem? (i := 3) rfl))) (by decide) (backOfSH (s := s) (vm0 := T1.vm) (W := 0) (rm1 l Z a0 hw [] p2 p3 cs T1.heap n0 (Nat.le_trans Z0 K4.1) SC_q3 hcs) hZ (hw _ (List.mem_of_getElem? (i := 3) rfl)) (hw _ (List.mem_of_getElem? (i := 2) rfl)) (by decide) (by decide) hEL C2c.1) (g := (mkF m 9 #[.val (.int p0), .val (.int p1), .val (.int p2), .val (.int p3), .val (.ref sb1), .unset, .unset, .unset, .unset] [(.int p3), (.int p2)])) rfl (by rw [hml]; rfl) (argsL := [(.int p2), (.int p3)]) (rest := []) (lenOf pd_12 rfl) rfl (by show 2 * 0 + _ ≤ _; exact Nat.le_of_eq rfl) (hb hby at_9) (fun _ _ => ⟨rfl, rfl, (by decide : 6 + 6 ≤ _), (by decide : 12 + 12 ≤ _)⟩)
  dsimp only [Pt.U, Pt.locs, Pt.cells, Pt.slots] at X5 SJ5 gr5 l5 y5 z5 CH5 st5 hQ5
  subst y5 z5
  obtain ⟨sb5, rfl, N5q, Kc5, US5⟩ := hQ5
  have N5 : Fr n0 L5 := by rw [l5]; exact Fr.app N1 N5q
  have SI5 := foldS (T := T1) SI1 (HK1) SJ5 gr5
  have HK5 := Nat.le_refl T5.heap.size
  have hZ := State.Warmed39.trans (t := s.setVm T1.vm) hZ SJ5.1
  have hown : (s.setVm T5.vm).vm.findClass "com/example/stavegate/stavegate/format/StaffNamePinLaw" = some m.cls := by rw [show (s.setVm T5.vm).vm = T5.vm from rfl, SJ5.1.alike.findClass]; exact hown
  have C6c := C2c.trans (CH5)
  refine gs (fun t k => st5.trans k) ?_
  have SC_q7 := own_sta_keep SC_q3 Kc5
  have US1_q8 := own_str_keep US1 Kc5
  have K9 := K4.trans Kc5 all0
  show G (T5.setTop (mkF m 12 #[.val (.int p0), .val (.int p1), .val (.int p2), .val (.int p3), .val (.ref sb1), .unset, .unset, .unset, .unset] [(.ref sb5)]))
  refine gs (fun t k => XS.astore X5.here hx rfl (hb hby at_12) rfl rfl (l' := #[.val (.int p0), .val (.int p1), .val (.int p2), .val (.int p3), .val (.ref sb1), .val (.ref sb5), .unset, .unset, .unset]) rfl k) ?_
  show G (T5.setTop (mkF m 14 #[.val (.int p0), .val (.int p1), .val (.int p2), .val (.int p3), .val (.ref sb1), .val (.ref sb5), .unset, .unset, .unset] []))
  obtain ⟨T10, h10, X10, e10, E10, A10, D10, -, st10⟩ := newO X5 hx hZ hown (hw _ (List.mem_of_getElem? (i := 38) rfl)) (hw _ (List.mem_of_getElem? (i := 39) rfl)) (hw _ (List.mem_of_getElem? (i := 40) rfl)) rfl (g := (mkF m 14 #[.val (.int p0), .val (.int p1), .val (.int p2), .val (.int p3), .val (.ref sb1), .val (.ref sb5), .unset, .unset, .unset] [])) rfl (hb hby at_14) (by decide) (by decide)
  obtain ⟨b10, g10⟩ : ∃ z, z = T5.heap.size := ⟨_, rfl⟩
  rw [← g10] at A10 D10 st10
  have sz_b10 : h0.size ≤ b10 := Nat.le_trans K9.1 (Nat.le_of_eq g10.symm)
  have g_b10 : n0 ≤ b10 := Nat.le_trans Z0 sz_b10
  have SC_q11 := SC_q7.ext E10
  have US1_q12 := own_str_ext US1_q8 E10
  have US5_q13 := own_str_ext US5 E10
  have K14 := K9.ext E10
  have HK15 := Nat.le_trans HK5 (E10.1)
  have E_b10 := A10
  have F_number_b10 : Fld Z h10 b10 "com/example/stavegate/stavegate/format/MeiMeasures$Staff" "number" "Ljava/lang/String;" .null := D10 (Or.inr (hw _ (List.mem_of_getElem? (i := 51) rfl))) (ty := (.object "java/lang/String")) (by decide)
  have F_label_b10 : Fld Z h10 b10 "com/example/stavegate/stavegate/format/MeiMeasures$Staff" "label" "Ljava/lang/String;" .null := D10 (Or.inr (hw _ (List.mem_of_getElem? (i := 53) rfl))) (ty := (.object "java/lang/String")) (by decide)
  refine gs (fun t k => st10 _ k) ?_
  show G (T10.setTop (mkF m 17 #[.val (.int p0), .val (.int p1), .val (.int p2), .val (.int p3), .val (.ref sb1), .val (.ref sb5), .unset, .unset, .unset] [(.ref b10)]))
  refine gs (fun t k => XS.dup X10.here hx rfl (hb hby at_17) rfl rfl k) ?_
  show G (T10.setTop (mkF m 18 #[.val (.int p0), .val (.int p1), .val (.int p2), .val (.int p3), .val (.ref sb1), .val (.ref sb5), .unset, .unset, .unset] [(.ref b10), (.ref b10)]))
  refine gs (fun t k => XS.aload X10.here hx rfl (hb hby at_18) rfl rfl k) ?_
  show G (T10.setTop (mkF m 20 #[.val (.int p0), .val (.int p1), .val (.int p2), .val (.int p3), .val (.ref sb1), .val (.ref sb5), .unset, .unset, .unset] [(.ref sb1), (.ref b10), (.ref b10)]))
  refine gs (fun t k => XS.aload X10.here hx rfl (hb hby at_20) rfl rfl k) ?_
  show G (T10.setTop (mkF m 22 #[.val (.int p0), .val (.int p1), .val (.int p2), .val (.int p3), .val (.ref sb1), .val (.ref sb5), .unset, .unset, .unset] [(.ref sb5), (.ref sb1), (.ref b10), (.ref b10)]))
  obtain ⟨_, _, ⟨T16, L16, k16, n16⟩, -, X16, ⟨Lc16, hQ16, l16, y16, z16⟩, st16⟩ := X10.specialBack hx (y := (⟨"com/example/stavegate/stavegate/format/MeiMeasures$Staff", "<init>", "(Ljava/lang/String;Ljava/lang/String;)V"⟩ : MethodName)) rfl hown (mvT hZ (hw _ (List.mem_of_getElem? (i := 41) rfl))) (mvT hZ (hw _ (List.mem_of_getElem? (i := 42) rfl))) (mvT hZ (hw _ (List.mem_of_getElem? (i := 43) rfl))) (by decide) (backOf (W := 1) (rm8 l Z a0 hw [] b10 sb1 sb5 h10 n0 (Nat.le_trans Z0 K14.1) E_b10 F_number_b10 F_label_b10 g_b10) hZ (hw _ (List.mem_of_getElem? (i := 43) rfl)) (hw _ (List.mem_of_getElem? (i := 40) rfl)) (by decide) (by decide)) (g := (mkF m 22 #[.val (.int p0), .val (.int p1), .val (.int p2), .val (.int p3), .val (.ref sb1), .val (.ref sb5), .unset, .unset, .unset] [(.ref sb5), (.ref sb1), (.ref b10), (.ref b10)])) rfl (by rw [hml]; rfl) (Steps.refl _) (a := b10) (argsL := [(.ref sb1), (.ref sb5)]) (rest := [(.ref b10)]) (lenOf pd_13 rfl) rfl (by show 2 * 0 + _ ≤ _; exact Nat.le_of_eq rfl) (hb hby at_22) (fun _ _ => ⟨rfl, e10, (by decide : 13 + 0 ≤ _), (by decide : 26 + 0 ≤ _)⟩)
  dsimp only [Pt.U, Pt.locs, Pt.cells, Pt.slots] at X16 l16 y16 z16 st16 hQ16
  subst y16 z16
  obtain ⟨rfl, N16q, Kc16, Ex16, Fn16, Fl16⟩ := hQ16
  have N16 : Fr n0 L16 := by rw [l16]; exact Fr.app N5 N16q
  refine gs (fun t k => st16.trans k) ?_
  have SC_q17 := own_sta_keepE SC_q11 Kc16 E_b10
  have US1_q18 := own_str_keepE US1_q12 Kc16 E_b10 (by decide) (hw _ (List.mem_of_getElem? (i := 39) rfl))
  have US5_q19 := own_str_keepE US5_q13 Kc16 E_b10 (by decide) (hw _ (List.mem_of_getElem? (i := 39) rfl))
  have E_b10_q20 := E_b10.keep Kc16
  have HK21 := Nat.le_trans HK15 (Kc16.1)
  have K22 := K14.trans Kc16 (allS (Or.inr sz_b10) all0)
  show G (T16.setTop (mkF m 25 #[.val (.int p0), .val (.int p1), .val (.int p2), .val (.int p3), .val (.ref sb1), .val (.ref sb5), .unset, .unset, .unset] [(.ref b10)]))
  refine gs (fun t k => XS.astore X16.here hx rfl (hb hby at_25) rfl rfl (l' := #[.val (.int p0), .val (.int p1), .val (.int p2), .val (.int p3), .val (.ref sb1), .val (.ref sb5), .val (.ref b10), .unset, .unset]) rfl k) ?_
  show G (T16.setTop (mkF m 27 #[.val (.int p0), .val (.int p1), .val (.int p2), .val (.int p3), .val (.ref sb1), .val (.ref sb5), .val (.ref b10), .unset, .unset] []))
  refine gs (fun t k => XS.aload X16.here hx rfl (hb hby at_27) rfl rfl k) ?_
  show G (T16.setTop (mkF m 29 #[.val (.int p0), .val (.int p1), .val (.int p2), .val (.int p3), .val (.ref sb1), .val (.ref sb5), .val (.ref b10), .unset, .unset] [(.ref b10)]))
  obtain ⟨cq23, kq23, q23a, q23b, q23c⟩ := isOf hZ rfl Ex16
  obtain ⟨_, _, ⟨T23, L23, k23, n23⟩, -, X23, ⟨Lc23, hQ23, l23, y23, z23⟩, st23⟩ := X16.virtualBack hx (y := (⟨"com/example/stavegate/stavegate/format/MeiMeasures$Staff", "name", "()Ljava/lang/String;"⟩ : MethodName)) (z := (⟨"com/example/stavegate/stavegate/format/MeiMeasures$Staff", "name", "()Ljava/lang/String;"⟩ : MethodName)) hown (mvT hZ (hw _ (List.mem_of_getElem? (i := 54) rfl))) (mvT hZ (hw _ (List.mem_of_getElem? (i := 55) rfl))) (notFace_of_selects (args := #[]) (mvT hZ (hw _ (List.mem_of_getElem? (i := 57) rfl)))) (mvT hZ (hw _ (List.mem_of_getElem? (i := 57) rfl))) (mvT hZ (hw _ (List.mem_of_getElem? (i := 56) rfl))) (by decide) (backOf (W := 0) (rm10 l Z a0 hw [] b10 sb1 sb5 (own_len p2) T16.heap n0 (Nat.le_trans Z0 K22.1) Fn16 Fl16 US5_q19) hZ (hw _ (List.mem_of_getElem? (i := 58) rfl)) (hw _ (List.mem_of_getElem? (i := 40) rfl)) (by decide) (by decide)) q23a q23c (g := (mkF m 29 #[.val (.int p0), .val (.int p1), .val (.int p2), .val (.int p3), .val (.ref sb1), .val (.ref sb5), .val (.ref b10), .unset, .unset] [(.ref b10)])) rfl (by rw [hml]; rfl) (Steps.refl _) (argsL := []) (rest := []) (lenOf pd_14 rfl) rfl (by show 2 * 0 + _ ≤ _; exact Nat.le_of_eq rfl) (hb hby at_29) (fun _ _ => ⟨rfl, rfl, (by decide : 13 + 0 ≤ _), (by decide : 26 + 0 ≤ _)⟩)
  dsimp only [Pt.U, Pt.locs, Pt.cells, Pt.slots] at X23 l23 y23 z23 st23 hQ23
  subst y23 z23
  obtain ⟨rfl, N23q, e23⟩ := hQ23
  have N23 : Fr n0 L23 := by rw [l23]; exact Fr.app N16 N23q
  refine gs (fun t k => st23.trans k) ?_
  show G (T23.setTop (mkF m 32 #[.val (.int p0), .val (.int p1), .val (.int p2), .val (.int p3), .val (.ref sb1), .val (.ref sb5), .val (.ref b10), .unset, .unset] [(.ref (if own_len p2 = 0 then sb1 else sb5))]))
  refine gs (fun t k => XS.astore X23.here hx rfl (hb hby at_32) rfl rfl (l' := #[.val (.int p0), .val (.int p1), .val (.int p2), .val (.int p3), .val (.ref sb1), .val (.ref sb5), .val (.ref b10), .val (.ref (if own_len p2 = 0 then sb1 else sb5)), .unset]) rfl k) ?_
  show G (T23.setTop (mkF m 34 #[.val (.int p0), .val (.int p1), .val (.int p2), .val (.int p3), .val (.ref sb1), .val (.ref sb5), .val (.ref b10), .val (.ref (if own_len p2 = 0 then sb1 else sb5)), .unset] []))
  refine gs (fun t k => XS.aload X23.here hx rfl (hb hby at_34) rfl rfl k) ?_
  show G (T23.setTop (mkF m 36 #[.val (.int p0), .val (.int p1), .val (.int p2), .val (.int p3), .val (.ref sb1), .val (.ref sb5), .val (.ref b10), .val (.ref (if own_len p2 = 0 then sb1 else sb5)), .unset] [(.ref (if own_len p2 = 0 then sb1 else sb5))]))
  refine gs (fun t k => XS.ifnonnullYes X23.here hx rfl (pc0 := 36) (pc' := 41) rfl (hb hby at_36) rfl (by decide) (by decide) k) ?_
  show G (T23.setTop (mkF m 41 #[.val (.int p0), .val (.int p1), .val (.int p2), .val (.int p3), .val (.ref sb1), .val (.ref sb5), .val (.ref b10), .val (.ref (if own_len p2 = 0 then sb1 else sb5)), .unset] []))
  refine gs (fun t k => XS.aload X23.here hx rfl (hb hby at_41) rfl rfl k) ?_
  show G (T23.setTop (mkF m 43 #[.val (.int p0), .val (.int p1), .val (.int p2), .val (.int p3), .val (.ref sb1), .val (.ref sb5), .val (.ref b10), .val (.ref (if own_len p2 = 0 then sb1 else sb5)), .unset] [(.ref sb5)]))
  obtain ⟨_, _, _, EE24, -⟩ := id US5_q19
  obtain ⟨cq24, kq24, q24a, q24b, q24c⟩ := isOf hZ e23 EE24
  obtain ⟨_, _, ⟨T24, L24, k24, n24⟩, -, X24, ⟨Lc24, hQ24, l24, y24, z24⟩, st24⟩ := X23.virtualBack hx (y := (⟨"java/lang/String", "length", "()I"⟩ : MethodName)) (z := (⟨"java/lang/String", "length", "()I"⟩ : MethodName)) hown (mvT hZ (hw _ (List.mem_of_getElem? (i := 64) rfl))) (mvT hZ (hw _ (List.mem_of_getElem? (i := 65) rfl))) (notFace_of_selects (args := #[]) (mvT hZ (hw _ (List.mem_of_getElem? (i := 67) rfl)))) (mvT hZ (hw _ (List.mem_of_getElem? (i := 67) rfl))) (mvT hZ (hw _ (List.mem_of_getElem? (i := 66) rfl))) (by decide) (backOf (W := 0) (rm12 l Z a0 hw [] sb5 (own_len p2) cs T16.heap n0 (Nat.le_trans Z0 K22.1) SC_q17 hcs US5_q19) hZ (hw _ (List.mem_of_getElem? (i := 68) rfl)) (hw _ (List.mem_of_getElem? (i := 7) rfl)) (by decide) (by decide)) q24a q24c (g := (mkF m 43 #[.val (.int p0), .val (.int p1), .val (.int p2), .val (.int p3), .val (.ref sb1), .val (.ref sb5), .val (.ref b10), .val (.ref (if own_len p2 = 0 then sb1 else sb5)), .unset] [(.ref sb5)])) rfl (by rw [hml]; rfl) (Steps.refl _) (argsL := []) (rest := []) (lenOf pd_15 rfl) rfl (by show 2 * 0 + _ ≤ _; exact Nat.le_of_eq rfl) (hb hby at_43) (fun _ _ => ⟨rfl, e23, (by decide : 13 + 0 ≤ _), (by decide : 26 + 0 ≤ _)⟩)
  dsimp only [Pt.U, Pt.locs, Pt.cells, Pt.slots] at X24 l24 y24 z24 st24 hQ24
  subst y24 z24
  obtain ⟨rfl, N24q, e24⟩ := hQ24
  have N24 : Fr n0 L24 := by rw [l24]; exact Fr.app N23 N24q
  refine gs (fun t k => st24.trans k) ?_
  show G (T24.setTop (mkF m 46 #[.val (.int p0), .val (.int p1), .val (.int p2), .val (.int p3), .val (.ref sb1), .val (.ref sb5), .val (.ref b10), .val (.ref (if own_len p2 = 0 then sb1 else sb5)), .unset] [(.int (own_len p2))]))
  by_cases hc46 : (own_len p2) = (0 : Int32)
  · refine gs (fun t k => XS.ifNo X24.here hx rfl (hb hby at_46) rfl ((if0 _ _).trans (teq hc46).2) k) ?_
    show G (T24.setTop (mkF m 49 #[.val (.int p0), .val (.int p1), .val (.int p2), .val (.int p3), .val (.ref sb1), .val (.ref sb5), .val (.ref b10), .val (.ref (if own_len p2 = 0 then sb1 else sb5)), .unset] []))
    refine gs (fun t k => XS.aload X24.here hx rfl (hb hby at_49) rfl rfl k) ?_
    show G (T24.setTop (mkF m 51 #[.val (.int p0), .val (.int p1), .val (.int p2), .val (.int p3), .val (.ref sb1), .val (.ref sb5), .val (.ref b10), .val (.ref (if own_len p2 = 0 then sb1 else sb5)), .unset] [(.ref sb1)]))
    refine gs (fun t k => XS.astore X24.here hx rfl (hb hby at_51) rfl rfl (l' := #[.val (.int p0), .val (.int p1), .val (.int p2), .val (.int p3), .val (.ref sb1), .val (.ref sb5), .val (.ref b10), .val (.ref (if own_len p2 = 0 then sb1 else sb5)), .val (.ref sb1)]) rfl k) ?_
    show G (T24.setTop (mkF m 53 #[.val (.int p0), .val (.int p1), .val (.int p2), .val (.int p3), .val (.ref sb1), .val (.ref sb5), .val (.ref b10), .val (.ref (if own_len p2 = 0 then sb1 else sb5)), .val (.ref sb1)] []))
    refine gs (fun t k => XS.goto X24.here hx rfl (pc0 := 53) (pc' := 60) rfl (hb hby at_53) (by decide) (by decide) k) ?_
    show G (T24.setTop (mkF m 60 #[.val (.int p0), .val (.int p1), .val (.int p2), .val (.int p3), .val (.ref sb1), .val (.ref sb5), .val (.ref b10), .val (.ref (if own_len p2 = 0 then sb1 else sb5)), .val (.ref sb1)] []))
    refine gs (fun t k => XS.aload X24.here hx rfl (hb hby at_60) rfl rfl k) ?_
    show G (T24.setTop (mkF m 62 #[.val (.int p0), .val (.int p1), .val (.int p2), .val (.int p3), .val (.ref sb1), .val (.ref sb5), .val (.ref b10), .val (.ref (if own_len p2 = 0 then sb1 else sb5)), .val (.ref sb1)] [(.ref (if own_len p2 = 0 then sb1 else sb5))]))
    refine gs (fun t k => XS.aload X24.here hx rfl (hb hby at_62) rfl rfl k) ?_
    show G (T24.setTop (mkF m 64 #[.val (.int p0), .val (.int p1), .val (.int p2), .val (.int p3), .val (.ref sb1), .val (.ref sb5), .val (.ref b10), .val (.ref (if own_len p2 = 0 then sb1 else sb5)), .val (.ref sb1)] [(.ref sb1), (.ref (if own_len p2 = 0 then sb1 else sb5))]))
    have ei : (if own_len p2 = 0 then sb1 else sb5) = sb1 := if_pos hc46
    rw [ei]
    obtain ⟨_, _, _, EQ, -⟩ := id US1_q18
    show G (T24.setTop (mkF m 64 #[.val (.int p0), .val (.int p1), .val (.int p2), .val (.int p3), .val (.ref sb1), .val (.ref sb5), .val (.ref b10), .val (.ref sb1), .val (.ref sb1)] [(.ref sb1), (.ref sb1)]))
    obtain ⟨cq25, kq25, q25a, q25b, q25c⟩ := isOf hZ e24 EQ
    obtain ⟨_, _, ⟨T25, L25, k25, n25⟩, -, X25, ⟨Lc25, hQ25, l25, y25, z25⟩, st25⟩ := X24.virtualBack hx (y := (⟨"java/lang/String", "equals", "(Ljava/lang/Object;)Z"⟩ : MethodName)) (z := (⟨"java/lang/String", "equals", "(Ljava/lang/Object;)Z"⟩ : MethodName)) hown (mvT hZ (hw _ (List.mem_of_getElem? (i := 74) rfl))) (mvT hZ (hw _ (List.mem_of_getElem? (i := 75) rfl))) (notFace_of_selects (args := #[]) (mvT hZ (hw _ (List.mem_of_getElem? (i := 77) rfl)))) (mvT hZ (hw _ (List.mem_of_getElem? (i := 77) rfl))) (mvT hZ (hw _ (List.mem_of_getElem? (i := 76) rfl))) (by decide) (backOf (W := 0) (rm14e l Z a0 hw [] sb1 T16.heap n0 (Nat.le_trans Z0 K22.1)) hZ (hw _ (List.mem_of_getElem? (i := 78) rfl)) (hw _ (List.mem_of_getElem? (i := 7) rfl)) (by decide) (by decide)) q25a q25c (g := (mkF m 64 #[.val (.int p0), .val (.int p1), .val (.int p2), .val (.int p3), .val (.ref sb1), .val (.ref sb5), .val (.ref b10), .val (.ref sb1), .val (.ref sb1)] [(.ref sb1), (.ref sb1)])) rfl (by rw [hml]; rfl) (Steps.refl _) (argsL := [(.ref sb1)]) (rest := []) (lenOf pd_16 rfl) rfl (by show 2 * 0 + _ ≤ _; exact Nat.le_of_eq rfl) (hb hby at_64) (fun _ _ => ⟨rfl, e24, (by decide : 13 + 0 ≤ _), (by decide : 26 + 0 ≤ _)⟩)
    dsimp only [Pt.U, Pt.locs, Pt.cells, Pt.slots] at X25 l25 y25 z25 st25 hQ25
    subst y25 z25
    obtain ⟨rfl, N25q, e25⟩ := hQ25
    have N25 : Fr n0 L25 := by rw [l25]; exact Fr.app N24 N25q
    refine gs (fun t k => st25.trans k) ?_
    show G (T25.setTop (mkF m 67 #[.val (.int p0), .val (.int p1), .val (.int p2), .val (.int p3), .val (.ref sb1), .val (.ref sb5), .val (.ref b10), .val (.ref sb1), .val (.ref sb1)] [(.int (1 : Int32))]))
    have HKz := Nat.le_trans HK21 (Nat.le_of_eq (congrArg Array.size e25).symm)
    obtain ⟨fs, hr, hrun, hended, hRE⟩ := Stand.leaveW (s := s) (vm₁ := T5.vm) X25 SI5 HKz (v := some (.int (1 : Int32))) (fun h => by rw [Bd.returns] at h; cases h)
    refine gl _ ⟨_, _, retN X25 hx (t := .boolean) Bd.returns (by simp) (hb hby at_67) hr, hrun, hended, _, _, rfl, ?_, hRE.1, hRE.2.1, hRE.2.2.1, hRE.2.2.2.mono (by decide) (by decide)⟩
    · show Q0 h0 n0 _ T25.heap _
      rw [e25]
      exact ⟨rfl, N25⟩
  · refine gs (fun t k => XS.ifYes X24.here hx rfl (pc0 := 46) (pc' := 56) rfl (hb hby at_46) rfl ((if0 _ _).trans (feq hc46).2) (by decide) (by decide) k) ?_
    show G (T24.setTop (mkF m 56 #[.val (.int p0), .val (.int p1), .val (.int p2), .val (.int p3), .val (.ref sb1), .val (.ref sb5), .val (.ref b10), .val (.ref (if own_len p2 = 0 then sb1 else sb5)), .unset] []))
    refine gs (fun t k => XS.aload X24.here hx rfl (hb hby at_56) rfl rfl k) ?_
    show G (T24.setTop (mkF m 58 #[.val (.int p0), .val (.int p1), .val (.int p2), .val (.int p3), .val (.ref sb1), .val (.ref sb5), .val (.ref b10), .val (.ref (if own_len p2 = 0 then sb1 else sb5)), .unset] [(.ref sb5)]))
    refine gs (fun t k => XS.astore X24.here hx rfl (hb hby at_58) rfl rfl (l' := #[.val (.int p0), .val (.int p1), .val (.int p2), .val (.int p3), .val (.ref sb1), .val (.ref sb5), .val (.ref b10), .val (.ref (if own_len p2 = 0 then sb1 else sb5)), .val (.ref sb5)]) rfl k) ?_
    show G (T24.setTop (mkF m 60 #[.val (.int p0), .val (.int p1), .val (.int p2), .val (.int p3), .val (.ref sb1), .val (.ref sb5), .val (.ref b10), .val (.ref (if own_len p2 = 0 then sb1 else sb5)), .val (.ref sb5)] []))
    refine gs (fun t k => XS.aload X24.here hx rfl (hb hby at_60) rfl rfl k) ?_
    show G (T24.setTop (mkF m 62 #[.val (.int p0), .val (.int p1), .val (.int p2), .val (.int p3), .val (.ref sb1), .val (.ref sb5), .val (.ref b10), .val (.ref (if own_len p2 = 0 then sb1 else sb5)), .val (.ref sb5)] [(.ref (if own_len p2 = 0 then sb1 else sb5))]))
    refine gs (fun t k => XS.aload X24.here hx rfl (hb hby at_62) rfl rfl k) ?_
    show G (T24.setTop (mkF m 64 #[.val (.int p0), .val (.int p1), .val (.int p2), .val (.int p3), .val (.ref sb1), .val (.ref sb5), .val (.ref b10), .val (.ref (if own_len p2 = 0 then sb1 else sb5)), .val (.ref sb5)] [(.ref sb5), (.ref (if own_len p2 = 0 then sb1 else sb5))]))
    have ei : (if own_len p2 = 0 then sb1 else sb5) = sb5 := if_neg hc46
    rw [ei]
    obtain ⟨_, _, _, EQ, -⟩ := id US5_q19
    show G (T24.setTop (mkF m 64 #[.val (.int p0), .val (.int p1), .val (.int p2), .val (.int p3), .val (.ref sb1), .val (.ref sb5), .val (.ref b10), .val (.ref sb5), .val (.ref sb5)] [(.ref sb5), (.ref sb5)]))
    obtain ⟨cq26, kq26, q26a, q26b, q26c⟩ := isOf hZ e24 EQ
    obtain ⟨_, _, ⟨T26, L26, k26, n26⟩, -, X26, ⟨Lc26, hQ26, l26, y26, z26⟩, st26⟩ := X24.virtualBack hx (y := (⟨"java/lang/String", "equals", "(Ljava/lang/Object;)Z"⟩ : MethodName)) (z := (⟨"java/lang/String", "equals", "(Ljava/lang/Object;)Z"⟩ : MethodName)) hown (mvT hZ (hw _ (List.mem_of_getElem? (i := 74) rfl))) (mvT hZ (hw _ (List.mem_of_getElem? (i := 75) rfl))) (notFace_of_selects (args := #[]) (mvT hZ (hw _ (List.mem_of_getElem? (i := 77) rfl)))) (mvT hZ (hw _ (List.mem_of_getElem? (i := 77) rfl))) (mvT hZ (hw _ (List.mem_of_getElem? (i := 76) rfl))) (by decide) (backOf (W := 0) (rm14e l Z a0 hw [] sb5 T16.heap n0 (Nat.le_trans Z0 K22.1)) hZ (hw _ (List.mem_of_getElem? (i := 78) rfl)) (hw _ (List.mem_of_getElem? (i := 7) rfl)) (by decide) (by decide)) q26a q26c (g := (mkF m 64 #[.val (.int p0), .val (.int p1), .val (.int p2), .val (.int p3), .val (.ref sb1), .val (.ref sb5), .val (.ref b10), .val (.ref sb5), .val (.ref sb5)] [(.ref sb5), (.ref sb5)])) rfl (by rw [hml]; rfl) (Steps.refl _) (argsL := [(.ref sb5)]) (rest := []) (lenOf pd_16 rfl) rfl (by show 2 * 0 + _ ≤ _; exact Nat.le_of_eq rfl) (hb hby at_64) (fun _ _ => ⟨rfl, e24, (by decide : 13 + 0 ≤ _), (by decide : 26 + 0 ≤ _)⟩)
    dsimp only [Pt.U, Pt.locs, Pt.cells, Pt.slots] at X26 l26 y26 z26 st26 hQ26
    subst y26 z26
    obtain ⟨rfl, N26q, e26⟩ := hQ26
    have N26 : Fr n0 L26 := by rw [l26]; exact Fr.app N24 N26q
    refine gs (fun t k => st26.trans k) ?_
    show G (T26.setTop (mkF m 67 #[.val (.int p0), .val (.int p1), .val (.int p2), .val (.int p3), .val (.ref sb1), .val (.ref sb5), .val (.ref b10), .val (.ref sb5), .val (.ref sb5)] [(.int (1 : Int32))]))
    have HKz := Nat.le_trans HK21 (Nat.le_of_eq (congrArg Array.size e26).symm)
    obtain ⟨fs, hr, hrun, hended, hRE⟩ := Stand.leaveW (s := s) (vm₁ := T5.vm) X26 SI5 HKz (v := some (.int (1 : Int32))) (fun h => by rw [Bd.returns] at h; cases h)
    refine gl _ ⟨_, _, retN X26 hx (t := .boolean) Bd.returns (by simp) (hb hby at_67) hr, hrun, hended, _, _, rfl, ?_, hRE.1, hRE.2.1, hRE.2.2.1, hRE.2.2.2.mono (by decide) (by decide)⟩
    · show Q0 h0 n0 _ T26.heap _
      rw [e26]
      exact ⟨rfl, N26⟩
set_option maxRecDepth 65536 in
set_option maxHeartbeats 40000000 in
theorem comes_1 {Post : Tables → Env → Array Value → State → Outcome → State → Prop} (hpost : ∀ tb e args s v u, (limb_1_1.after args s (.returned v) u = true ∧ limb_1_2.after args s (.returned v) u = true ∧ True) → ReturnedEndW s (.returned v) u (Jvm.fieldLocs frame_1_writes args s ++ Jvm.arrayLocs frame_1_arrays args s ++ Jvm.staticLocs frame_1_statics s) 24 1152 → Post tb e args s (.returned v) u) :
    ArmFor flags0 classFile x code maxLocals ret World_1 tables_1 room_1 Calls_1 rest_1 Pre_1 Post := by
  intro l hfl _ _ p e ha hc hk s m args below hf hA hF happ hP
  obtain ⟨hcalls, hrest, hpre⟩ := hP
  obtain ⟨-, -, -, hnamed, -, -, -, hat⟩ := (Spec.applies_iff hf).mp happ
  obtain ⟨hg, hn⟩ := and_e (Cond.before_iff.mp (show (Jvm.Cond.and given_1 narrow_1).before args s = true from hpre))
  obtain ⟨hg0, hg1⟩ := and_e hg
  obtain ⟨hv0, ht0⟩ := and_e hg1
  obtain ⟨hv1, ht1⟩ := and_e ht0
  obtain ⟨hv2, ht2⟩ := and_e ht1
  have hv3 := ht2
  obtain ⟨w0, w1, w2, w3, rfl⟩ : ∃ w0 w1 w2 w3 : Value, args = #[w0, w1, w2, w3] := by
    have hs : args.size = 4 := by simpa [Cond.value, given_1] using hg0
    obtain ⟨L⟩ := args
    match L, hs with
    | [w0, w1, w2, w3], _ => exact ⟨w0, w1, w2, w3, rfl⟩
  have hw := fun d (hd : d ∈ tables_1) => atoms_spec (ws := Jvm.Cond.code x code maxLocals ret :: tables_1) hat d (List.mem_cons_of_mem _ hd)
  have hfit : Fit s := fun {y c} hc i hi => by
    obtain ⟨ha, rfl⟩ := Array.getElem?_eq_some_iff.mp hc
    have q := List.all_eq_true.mp ((Array.all_eq_true_iff_forall_mem.mp hF) _ (Array.getElem_mem ha)) i (List.mem_range.mpr hi)
    simpa [Array.getElem?_eq_getElem hi] using q
  obtain ⟨hsets, hown0⟩ := atoms_of _ (rest_1_c_eq ▸ (show rest_1_c.before _ s = true from hrest))
  have hr0 := Cond.before_iff.mp hown0
  obtain ⟨i0, ei0⟩ := is_v hv0
  obtain rfl : w0 = (.int i0) := Option.some.inj ei0
  obtain ⟨i1, ei1⟩ := is_v hv1
  obtain rfl : w1 = (.int i1) := Option.some.inj ei1
  obtain ⟨i2, ei2⟩ := is_v hv2
  obtain rfl : w2 = (.int i2) := Option.some.inj ei2
  obtain ⟨i3, ei3⟩ := is_v hv3
  obtain rfl : w3 = (.int i3) := Option.some.inj ei3
  obtain ⟨cs, evc⟩ := is_v (Cond.before_iff.mp (hsets _ (List.mem_of_getElem? (i := 1) rfl)))
  have SC := Sta.start evc (Or.inl (hsets _ (List.mem_of_getElem? (i := 0) rfl)))
  have hcs : ¬ cs = (0 : Int32) := by
    have h := not_v (Cond.before_iff.mp (hsets _ (List.mem_of_getElem? (i := 2) rfl)))
    simpa [Cond.value, evc, Term.int_eval] using h
  have hH := CHv.start (own_ELw hw) (show ∀ p ∈ own_EL, Jvm.Lit.constHeld s p.1 p.2 from hcalls.1) (hsets _ (List.mem_of_getElem? (i := 2) rfl)) (hw _ (List.mem_of_getElem? (i := 20) rfl)) (hw _ (List.mem_of_getElem? (i := 6) rfl))
  obtain ⟨n, o, h1, h2, h3, _, L, rfl, ⟨rfl, N⟩, hq⟩ := rm0 l s _ hw tables_1 i0 i1 i2 i3 cs s.heap s.heap.size (Nat.le_refl _) SC hcs p e ha hc hk s m _ below hf ((Spec.applies_iff_loose hf).mp happ).1 ⟨rfl, State.Warmed39.refl s, rfl, hH⟩ trivial
  refine ⟨n, _, h1, h2, h3, hpost _ _ _ _ _ _ ⟨Cond.after_iff.mpr rfl, Cond.after_iff.mpr (eq_i res_at (Term.int_eval (1)) rfl), trivial⟩ ⟨hq.1, hq.2.1, hq.2.2.1, (hq.2.2.2.sift fun y hy => Or.inr (N y hy)).mono (by decide) (by decide)⟩⟩
theorem main_1_1 : Claimed_1_1 := comes_1 fun _ _ _ _ _ _ h hF => ⟨h.1, hF⟩
theorem main_1_2 : Claimed_1_2 := comes_1 fun _ _ _ _ _ _ h hF => ⟨h.2.1, hF⟩
end Jvm.Pilot.@@N@@
namespace Jvm.Pilot.@@N@@
open Jvm Jvm.ClassFile Sem Op Lib Jvm.Free Jvm.Stand Jvm.Pilot.@@N@@.Jvm.D
/-! MADE BY PROGRAM (witnessworld.py) out of the Statement's table words and the real class files: 21 classes; the members and pool entries that the words name. The judged class is class 1, her method 2. -/
namespace start1
open Jvm.ClassFile
def u (s : String) : CpInfo := .utf8 (stringToUtf16 s)
/-- a pool by its gaps: so many unusable entries, then the entry; so many at the end -/
def gap : Nat → List CpInfo → List CpInfo
  | 0, r => r
  | n + 1, r => .unusable :: gap n r
def poolList (es : List (Nat × CpInfo)) (last : Nat) : List CpInfo := es.foldr (fun e r => gap e.1 (e.2 :: r)) (gap last [])
def pool (es : List (Nat × CpInfo)) (last : Nat) : Array CpInfo := ⟨poolList es last⟩
def fileOf (pool : Array CpInfo) (this : Nat) (attrs : Array Attribute := #[]) (ms : Array MethodInfo := #[]) (fl : Nat := 33) (sup : Nat := 0) (ifs : Array Nat := #[]) (fds : Array FieldInfo := #[]) : ClassFile where
  minorVersion := 0
  majorVersion := 65
  constantPool := pool
  accessFlags := fl
  thisClass := this
  superClass := sup
  interfaces := ifs
  fields := fds
  methods := ms
  attributes := attrs
def plain (name : String) (sup : Option ClassId) : Class where
  name := name
  kind := .ordinary
  loader := none
  accessFlags := 33
  super := sup
  interfaces := #[]
  cf := none
  fields := #[]
  methods := #[]
  instanceTypes := #[]
  staticTypes := #[]
  resolved := #[]
  callSites := []
  init := .initialized
  statics := none
  mirror := none

def pool0 : Array CpInfo := pool [(5, u "<init>"), (0, u "()V"), (1, .class_ 10), (1, u "java/lang/Object")] 113

def k0c0 : Code := { maxStack := 0, maxLocals := 1, code := object_method_1_code, exceptionTable := #[], attributes := #[] }
def k0m0 : Method := { name := "<init>", desc := "()V", sig := { parameters := [], returnType := none }, accessFlags := 1, code := some k0c0 }
/-- java/lang/Object -/
def k0 : Class := { plain "java/lang/Object" none with
  accessFlags := 33
  interfaces := #[]
  cf := some (fileOf pool0 8 #[] #[{ accessFlags := 1, nameIndex := 5, descriptorIndex := 6, attributes := #[] }] 33 0 #[] #[])
  fields := #[]
  methods := #[k0m0]
  instanceTypes := #[]
  staticTypes := #[]
  resolved := Array.replicate 124 none
  statics := none }

def pool1 : Array CpInfo := pool [(2, .class_ 4), (1, u "java/lang/Object"), (0, u "<init>"), (0, u "()V"), (0, .integer 2147483647), (0, .class_ 9), (0, u "java/lang/String"), (0, .methodref 8 11), (0, .nameAndType 5 12), (0, u "([C)V"), (0, .methodref 8 14), (0, .nameAndType 15 16), (0, u "valueOf"), (0, u "(C)Ljava/lang/String;"), (0, .methodref 18 19), (0, .class_ 20), (0, .nameAndType 21 22), (0, u "com/example/stavegate/stavegate/format/StaffNamePinLaw"), (0, u "draw"), (0, u "(II)Ljava/lang/String;"), (0, .class_ 24), (0, u "com/example/stavegate/stavegate/format/MeiMeasures$Staff"), (0, .methodref 23 26), (0, .nameAndType 5 27), (0, u "(Ljava/lang/String;Ljava/lang/String;)V"), (0, .methodref 23 29), (0, .nameAndType 30 31), (0, u "name"), (0, u "()Ljava/lang/String;"), (0, .methodref 8 33), (0, .nameAndType 34 35), (0, u "length"), (0, u "()I"), (0, .methodref 8 37), (0, .nameAndType 38 39), (0, u "equals"), (0, u "(Ljava/lang/Object;)Z"), (3, u "law"), (0, u "(IIII)Z")] 6

def k1m0 : Method := { name := "<init>", desc := "()V", sig := { parameters := [], returnType := none }, accessFlags := 2, code := none }
def k1c1 : Code := { maxStack := 3, maxLocals := 6, code := method_2_code, exceptionTable := #[], attributes := #[] }
def k1m1 : Method := { name := "draw", desc := "(II)Ljava/lang/String;", sig := { parameters := [.int, .int], returnType := some (.object "java/lang/String") }, accessFlags := 10, code := some k1c1 }
def k1c2 : Code := { maxStack := 4, maxLocals := 9, code := code, exceptionTable := #[], attributes := #[] }
def k1m2 : Method := { name := "law", desc := "(IIII)Z", sig := { parameters := [.int, .int, .int, .int], returnType := some .boolean }, accessFlags := 9, code := some k1c2 }
/-- com/example/stavegate/stavegate/format/StaffNamePinLaw -/
def k1 : Class := { plain "com/example/stavegate/stavegate/format/StaffNamePinLaw" (some 0) with
  accessFlags := 49
  interfaces := #[]
  cf := some (fileOf pool1 18 #[] #[{ accessFlags := 2, nameIndex := 5, descriptorIndex := 6, attributes := #[] }, { accessFlags := 10, nameIndex := 21, descriptorIndex := 22, attributes := #[] }, { accessFlags := 9, nameIndex := 43, descriptorIndex := 44, attributes := #[] }] 49 2 #[] #[])
  fields := #[]
  methods := #[k1m0, k1m1, k1m2]
  instanceTypes := #[]
  staticTypes := #[]
  resolved := Array.replicate 51 none
  statics := none }

def pool2 : Array CpInfo := pool [(1, .class_ 2), (0, u "java/io/Serializable"), (0, .class_ 4), (0, u "java/lang/Object")] 2

/-- java/io/Serializable -/
def k2 : Class := { plain "java/io/Serializable" (some 0) with
  accessFlags := 1537
  interfaces := #[]
  cf := some (fileOf pool2 1 #[] #[] 1537 3 #[] #[])
  fields := #[]
  methods := #[]
  instanceTypes := #[]
  staticTypes := #[]
  resolved := Array.replicate 7 none
  statics := none }

def pool3 : Array CpInfo := pool [(1, .class_ 2), (0, u "java/lang/Comparable"), (0, .class_ 4), (0, u "java/lang/Object")] 7

/-- java/lang/Comparable -/
def k3 : Class := { plain "java/lang/Comparable" (some 0) with
  accessFlags := 1537
  interfaces := #[]
  cf := some (fileOf pool3 1 #[] #[] 1537 3 #[] #[])
  fields := #[]
  methods := #[]
  instanceTypes := #[]
  staticTypes := #[]
  resolved := Array.replicate 12 none
  statics := none }

def pool4 : Array CpInfo := pool [(2, .class_ 4), (1, u "java/lang/CharSequence"), (42, .class_ 48), (0, u "java/lang/CharSequence$1CodePointIterator"), (10, .class_ 60), (0, u "java/lang/CharSequence$1CharIterator"), (5, .class_ 67), (0, u "java/lang/Object")] 63

/-- java/lang/CharSequence -/
def k4 : Class := { plain "java/lang/CharSequence" (some 0) with
  accessFlags := 1537
  interfaces := #[]
  cf := some (fileOf pool4 2 #[.nestMembers #[47, 59]] #[] 1537 66 #[] #[])
  fields := #[]
  methods := #[]
  instanceTypes := #[]
  staticTypes := #[]
  resolved := Array.replicate 131 none
  statics := none }

def pool5 : Array CpInfo := pool [(1, .class_ 2), (0, u "java/lang/constant/Constable"), (0, .class_ 4), (0, u "java/lang/Object")] 6

/-- java/lang/constant/Constable -/
def k5 : Class := { plain "java/lang/constant/Constable" (some 0) with
  accessFlags := 1537
  interfaces := #[]
  cf := some (fileOf pool5 1 #[] #[] 1537 3 #[] #[])
  fields := #[]
  methods := #[]
  instanceTypes := #[]
  staticTypes := #[]
  resolved := Array.replicate 11 none
  statics := none }

def pool6 : Array CpInfo := pool [(1, .class_ 2), (0, u "java/lang/constant/ConstantDesc"), (0, .class_ 4), (0, u "java/lang/Object")] 32

/-- java/lang/constant/ConstantDesc -/
def k6 : Class := { plain "java/lang/constant/ConstantDesc" (some 0) with
  accessFlags := 1537
  interfaces := #[]
  cf := some (fileOf pool6 1 #[] #[] 1537 3 #[] #[])
  fields := #[]
  methods := #[]
  instanceTypes := #[]
  staticTypes := #[]
  resolved := Array.replicate 37 none
  statics := none }

def pool7 : Array CpInfo := pool [(1, .methodref 2 3), (0, .class_ 4), (0, .nameAndType 5 6), (0, u "java/lang/Object"), (0, u "<init>"), (0, u "()V"), (0, .string 8), (0, u ""), (0, .fieldref 10 11), (0, .class_ 12), (0, .nameAndType 13 14), (0, u "java/lang/String"), (0, u "value"), (0, u "[B"), (0, .fieldref 10 16), (0, .nameAndType 17 18), (0, u "coder"), (0, u "B"), (2, u "hash"), (0, u "I"), (2, u "hashIsZero"), (0, u "Z"), (0, .methodref 10 28), (0, .nameAndType 5 29), (0, u "([CIILjava/lang/Void;)V"), (8, .fieldref 10 39), (0, .nameAndType 40 26), (0, u "COMPACT_STRINGS"), (1, .class_ 44), (1, u "java/lang/StringUTF16"), (0, u "compress"), (1, .methodref 42 48), (0, .nameAndType 49 50), (0, u "coderFromArrayLen"), (0, u "([BI)B"), (2, u "toBytes"), (53, .class_ 109), (1, u "java/lang/StringLatin1"), (32, u "()Z"), (34, .methodref 42 178), (0, .nameAndType 45 179), (0, u "([CII)[B"), (29, .methodref 10 210), (0, .nameAndType 5 211), (0, u "([BB)V"), (122, u "()I"), (0, .methodref 10 336), (0, .nameAndType 17 337), (0, u "()B"), (31, u "(C)Z"), (137, u "length"), (35, u "equals"), (29, u "(Ljava/lang/Object;)Z"), (1, .class_ 576), (0, u "java/lang/CharSequence"), (22, u "CASE_INSENSITIVE_ORDER"), (0, u "Ljava/util/Comparator;"), (91, u "isEmpty"), (89, u "valueOf"), (0, u "(C)Ljava/lang/String;"), (226, u "([C)V"), (4, .methodref 107 1016), (0, .nameAndType 1017 369), (0, u "canEncode"), (0, .methodref 107 1019), (0, .nameAndType 53 1020), (0, u "(C)[B"), (80, u "serialPersistentFields"), (0, u "[Ljava/io/ObjectStreamField;"), (0, .class_ 1104), (0, u "java/lang/String$CaseInsensitiveComparator"), (1, .class_ 1107), (0, u "java/io/Serializable"), (0, .class_ 1109), (0, u "java/lang/Comparable"), (0, .class_ 1111), (0, u "java/lang/constant/Constable"), (0, .class_ 1113), (0, u "java/lang/constant/ConstantDesc"), (2, u "serialVersionUID"), (0, u "J"), (3, u "REPL"), (0, u "C"), (2, u "LATIN1"), (1, u "UTF16")] 323

def k7m0 : Method := { name := "<init>", desc := "()V", sig := { parameters := [], returnType := none }, accessFlags := 1, code := none }
def k7c1 : Code := { maxStack := 5, maxLocals := 2, code := jdk_42_method_3_code, exceptionTable := #[], attributes := #[] }
def k7m1 : Method := { name := "<init>", desc := "([C)V", sig := { parameters := [(.array .char)], returnType := none }, accessFlags := 1, code := some k7c1 }
def k7c2 : Code := { maxStack := 2, maxLocals := 1, code := jdk_42_method_54_code, exceptionTable := #[], attributes := #[] }
def k7m2 : Method := { name := "length", desc := "()I", sig := { parameters := [], returnType := some .int }, accessFlags := 1, code := some k7c2 }
def k7c3 : Code := { maxStack := 1, maxLocals := 1, code := jdk_42_method_55_code, exceptionTable := #[], attributes := #[] }
def k7m3 : Method := { name := "isEmpty", desc := "()Z", sig := { parameters := [], returnType := some .boolean }, accessFlags := 1, code := some k7c3 }
def k7c4 : Code := { maxStack := 2, maxLocals := 3, code := jdk_42_method_66_code, exceptionTable := #[], attributes := #[] }
def k7m4 : Method := { name := "equals", desc := "(Ljava/lang/Object;)Z", sig := { parameters := [(.object "java/lang/Object")], returnType := some .boolean }, accessFlags := 1, code := some k7c4 }
def k7c5 : Code := { maxStack := 4, maxLocals := 1, code := jdk_42_method_139_code, exceptionTable := #[], attributes := #[] }
def k7m5 : Method := { name := "valueOf", desc := "(C)Ljava/lang/String;", sig := { parameters := [.char], returnType := some (.object "java/lang/String") }, accessFlags := 9, code := some k7c5 }
def k7c6 : Code := { maxStack := 4, maxLocals := 6, code := jdk_42_method_149_code, exceptionTable := #[], attributes := #[] }
def k7m6 : Method := { name := "<init>", desc := "([CIILjava/lang/Void;)V", sig := { parameters := [(.array .char), .int, .int, (.object "java/lang/Void")], returnType := none }, accessFlags := 2, code := some k7c6 }
def k7c7 : Code := { maxStack := 2, maxLocals := 3, code := jdk_42_method_151_code, exceptionTable := #[], attributes := #[] }
def k7m7 : Method := { name := "<init>", desc := "([BB)V", sig := { parameters := [(.array .byte), .byte], returnType := none }, accessFlags := 0, code := some k7c7 }
def k7c8 : Code := { maxStack := 1, maxLocals := 1, code := jdk_42_method_152_code, exceptionTable := #[], attributes := #[] }
def k7m8 : Method := { name := "coder", desc := "()B", sig := { parameters := [], returnType := some .byte }, accessFlags := 0, code := some k7c8 }
/-- java/lang/String -/
def k7 : Class := { plain "java/lang/String" (some 0) with
  accessFlags := 49
  interfaces := #[2, 3, 4, 5, 6]
  cf := some (fileOf pool7 10 #[.nestMembers #[1103]] #[{ accessFlags := 1, nameIndex := 5, descriptorIndex := 6, attributes := #[] }, { accessFlags := 1, nameIndex := 5, descriptorIndex := 1010, attributes := #[] }, { accessFlags := 1, nameIndex := 507, descriptorIndex := 334, attributes := #[] }, { accessFlags := 1, nameIndex := 692, descriptorIndex := 142, attributes := #[] }, { accessFlags := 1, nameIndex := 543, descriptorIndex := 573, attributes := #[] }, { accessFlags := 9, nameIndex := 782, descriptorIndex := 783, attributes := #[] }, { accessFlags := 2, nameIndex := 5, descriptorIndex := 29, attributes := #[] }, { accessFlags := 0, nameIndex := 5, descriptorIndex := 211, attributes := #[] }, { accessFlags := 0, nameIndex := 17, descriptorIndex := 337, attributes := #[] }] 49 2 #[1106, 1108, 575, 1110, 1112] #[{ accessFlags := 18, nameIndex := 13, descriptorIndex := 14, attributes := #[] }, { accessFlags := 18, nameIndex := 17, descriptorIndex := 18, attributes := #[] }, { accessFlags := 2, nameIndex := 21, descriptorIndex := 22, attributes := #[] }, { accessFlags := 2, nameIndex := 25, descriptorIndex := 26, attributes := #[] }, { accessFlags := 26, nameIndex := 1116, descriptorIndex := 1117, attributes := #[] }, { accessFlags := 24, nameIndex := 40, descriptorIndex := 26, attributes := #[] }, { accessFlags := 26, nameIndex := 1101, descriptorIndex := 1102, attributes := #[] }, { accessFlags := 26, nameIndex := 1121, descriptorIndex := 1122, attributes := #[] }, { accessFlags := 25, nameIndex := 599, descriptorIndex := 600, attributes := #[] }, { accessFlags := 24, nameIndex := 1125, descriptorIndex := 18, attributes := #[] }, { accessFlags := 24, nameIndex := 1127, descriptorIndex := 18, attributes := #[] }])
  fields := #[{ name := "value", type := (.array .byte), accessFlags := 18, slot := 0, constantValue := 0 }, { name := "coder", type := .byte, accessFlags := 18, slot := 1, constantValue := 0 }, { name := "hash", type := .int, accessFlags := 2, slot := 2, constantValue := 0 }, { name := "hashIsZero", type := .boolean, accessFlags := 2, slot := 3, constantValue := 0 }, { name := "serialVersionUID", type := .long, accessFlags := 26, slot := 0, constantValue := 0 }, { name := "COMPACT_STRINGS", type := .boolean, accessFlags := 24, slot := 1, constantValue := 0 }, { name := "serialPersistentFields", type := (.array (.object "java/io/ObjectStreamField")), accessFlags := 26, slot := 2, constantValue := 0 }, { name := "REPL", type := .char, accessFlags := 26, slot := 3, constantValue := 0 }, { name := "CASE_INSENSITIVE_ORDER", type := (.object "java/util/Comparator"), accessFlags := 25, slot := 4, constantValue := 0 }, { name := "LATIN1", type := .byte, accessFlags := 24, slot := 5, constantValue := 0 }, { name := "UTF16", type := .byte, accessFlags := 24, slot := 6, constantValue := 0 }]
  methods := #[k7m0, k7m1, k7m2, k7m3, k7m4, k7m5, k7m6, k7m7, k7m8]
  instanceTypes := #[(.array .byte), .byte, .int, .boolean]
  staticTypes := #[.long, .boolean, (.array (.object "java/io/ObjectStreamField")), .char, (.object "java/util/Comparator"), .byte, .byte]
  resolved := Array.replicate 1451 none
  statics := some 0 }

def pool8 : Array CpInfo := pool [(6, .class_ 8), (1, u "java/lang/Object"), (0, u "<init>"), (0, u "()V"), (1, .class_ 14), (1, u "java/lang/StringUTF16"), (31, u "$assertionsDisabled"), (0, u "Z"), (13, u "HI_BYTE_SHIFT"), (0, u "I"), (2, u "LO_BYTE_SHIFT"), (49, .methodref 12 116), (0, .nameAndType 117 118), (0, u "compress"), (0, u "([CI[BII)I"), (3, u "([CII)[B"), (138, u "coderFromArrayLen"), (0, u "([BI)B"), (106, .class_ 371), (1, u "java/lang/StringUTF16$LinesSpliterator"), (58, u "MAX_LENGTH"), (196, .class_ 628), (0, u "java/lang/StringUTF16$CodePointsSpliterator"), (0, .class_ 630), (0, u "java/lang/StringUTF16$CharsSpliterator")] 4

def k8m0 : Method := { name := "<init>", desc := "()V", sig := { parameters := [], returnType := none }, accessFlags := 0, code := none }
def k8c1 : Code := { maxStack := 2, maxLocals := 2, code := jdk_52_method_15_code, exceptionTable := #[], attributes := #[] }
def k8m1 : Method := { name := "coderFromArrayLen", desc := "([BI)B", sig := { parameters := [(.array .byte), .int], returnType := some .byte }, accessFlags := 8, code := some k8c1 }
def k8c2 : Code := { maxStack := 5, maxLocals := 6, code := jdk_52_method_16_code, exceptionTable := #[], attributes := #[] }
def k8m2 : Method := { name := "compress", desc := "([CII)[B", sig := { parameters := [(.array .char), .int, .int], returnType := some (.array .byte) }, accessFlags := 9, code := some k8c2 }
def k8c3 : Code := { maxStack := 3, maxLocals := 7, code := jdk_52_method_21_code, exceptionTable := #[], attributes := #[] }
def k8m3 : Method := { name := "compress", desc := "([CI[BII)I", sig := { parameters := [(.array .char), .int, (.array .byte), .int, .int], returnType := some .int }, accessFlags := 9, code := some k8c3 }
/-- java/lang/StringUTF16 -/
def k8 : Class := { plain "java/lang/StringUTF16" (some 0) with
  accessFlags := 48
  interfaces := #[]
  cf := some (fileOf pool8 12 #[.nestMembers #[627, 629, 369]] #[{ accessFlags := 0, nameIndex := 9, descriptorIndex := 10, attributes := #[] }, { accessFlags := 8, nameIndex := 261, descriptorIndex := 262, attributes := #[] }, { accessFlags := 9, nameIndex := 117, descriptorIndex := 122, attributes := #[] }, { accessFlags := 9, nameIndex := 117, descriptorIndex := 118, attributes := #[] }] 48 6 #[] #[{ accessFlags := 26, nameIndex := 61, descriptorIndex := 62, attributes := #[] }, { accessFlags := 26, nameIndex := 65, descriptorIndex := 62, attributes := #[] }, { accessFlags := 24, nameIndex := 430, descriptorIndex := 62, attributes := #[] }, { accessFlags := 4120, nameIndex := 46, descriptorIndex := 47, attributes := #[] }])
  fields := #[{ name := "HI_BYTE_SHIFT", type := .int, accessFlags := 26, slot := 0, constantValue := 0 }, { name := "LO_BYTE_SHIFT", type := .int, accessFlags := 26, slot := 1, constantValue := 0 }, { name := "MAX_LENGTH", type := .int, accessFlags := 24, slot := 2, constantValue := 0 }, { name := "$assertionsDisabled", type := .boolean, accessFlags := 4120, slot := 3, constantValue := 0 }]
  methods := #[k8m0, k8m1, k8m2, k8m3]
  instanceTypes := #[]
  staticTypes := #[.int, .int, .int, .boolean]
  resolved := Array.replicate 635 none
  statics := none }

def pool9 : Array CpInfo := pool [(1, .methodref 2 3), (0, .class_ 4), (0, .nameAndType 5 6), (0, u "java/lang/Object"), (0, u "<init>"), (0, u "()V"), (0, .class_ 8), (0, u "java/lang/Record")] 13

def k9c0 : Code := { maxStack := 1, maxLocals := 1, code := jdk_30_method_1_code, exceptionTable := #[], attributes := #[] }
def k9m0 : Method := { name := "<init>", desc := "()V", sig := { parameters := [], returnType := none }, accessFlags := 4, code := some k9c0 }
/-- java/lang/Record -/
def k9 : Class := { plain "java/lang/Record" (some 0) with
  accessFlags := 1057
  interfaces := #[]
  cf := some (fileOf pool9 7 #[] #[{ accessFlags := 4, nameIndex := 5, descriptorIndex := 6, attributes := #[] }] 1057 2 #[] #[])
  fields := #[]
  methods := #[k9m0]
  instanceTypes := #[]
  staticTypes := #[]
  resolved := Array.replicate 22 none
  statics := none }

def pool10 : Array CpInfo := pool [(1, .methodref 2 3), (0, .class_ 4), (0, .nameAndType 5 6), (0, u "java/lang/Record"), (0, u "<init>"), (0, u "()V"), (0, .fieldref 8 9), (0, .class_ 10), (0, .nameAndType 11 12), (0, u "com/example/stavegate/stavegate/format/MeiMeasures$Staff"), (0, u "number"), (0, u "Ljava/lang/String;"), (0, .fieldref 8 14), (0, .nameAndType 15 12), (0, u "label"), (0, .methodref 17 18), (0, .class_ 19), (0, .nameAndType 20 21), (0, u "java/lang/String"), (0, u "isEmpty"), (0, u "()Z"), (12, u "(Ljava/lang/String;Ljava/lang/String;)V"), (3, u "name"), (0, u "()Ljava/lang/String;"), (6, .class_ 47), (0, u "com/example/stavegate/stavegate/format/MeiMeasures")] 20

def k10c0 : Code := { maxStack := 2, maxLocals := 3, code := prog_32_method_1_code, exceptionTable := #[], attributes := #[] }
def k10m0 : Method := { name := "<init>", desc := "(Ljava/lang/String;Ljava/lang/String;)V", sig := { parameters := [(.object "java/lang/String"), (.object "java/lang/String")], returnType := none }, accessFlags := 1, code := some k10c0 }
def k10c1 : Code := { maxStack := 1, maxLocals := 1, code := prog_32_method_2_code, exceptionTable := #[], attributes := #[] }
def k10m1 : Method := { name := "name", desc := "()Ljava/lang/String;", sig := { parameters := [], returnType := some (.object "java/lang/String") }, accessFlags := 1, code := some k10c1 }
/-- com/example/stavegate/stavegate/format/MeiMeasures$Staff -/
def k10 : Class := { plain "com/example/stavegate/stavegate/format/MeiMeasures$Staff" (some 9) with
  accessFlags := 49
  interfaces := #[]
  cf := some (fileOf pool10 8 #[.nestHost 46] #[{ accessFlags := 1, nameIndex := 5, descriptorIndex := 34, attributes := #[] }, { accessFlags := 1, nameIndex := 38, descriptorIndex := 39, attributes := #[] }] 49 2 #[] #[{ accessFlags := 18, nameIndex := 11, descriptorIndex := 12, attributes := #[] }, { accessFlags := 18, nameIndex := 15, descriptorIndex := 12, attributes := #[] }])
  fields := #[{ name := "number", type := (.object "java/lang/String"), accessFlags := 18, slot := 0, constantValue := 0 }, { name := "label", type := (.object "java/lang/String"), accessFlags := 18, slot := 1, constantValue := 0 }]
  methods := #[k10m0, k10m1]
  instanceTypes := #[(.object "java/lang/String"), (.object "java/lang/String")]
  staticTypes := #[]
  resolved := Array.replicate 68 none
  statics := none }

def pool11 : Array CpInfo := pool [(4, .class_ 6), (1, u "java/lang/Object"), (0, u "<init>"), (0, u "()V"), (5, .class_ 16), (1, u "java/lang/StringLatin1"), (73, u "canEncode"), (14, u "(C)Z"), (15, u "$assertionsDisabled"), (0, u "Z"), (98, .class_ 223), (1, u "java/lang/StringLatin1$LinesSpliterator"), (156, u "toBytes"), (1, u "(C)[B"), (7, .class_ 391), (0, u "java/lang/StringLatin1$CharsSpliterator")] 3

def k11m0 : Method := { name := "<init>", desc := "()V", sig := { parameters := [], returnType := none }, accessFlags := 0, code := none }
def k11c1 : Code := { maxStack := 2, maxLocals := 1, code := jdk_43_method_3_code, exceptionTable := #[], attributes := #[] }
def k11m1 : Method := { name := "canEncode", desc := "(C)Z", sig := { parameters := [.char], returnType := some .boolean }, accessFlags := 9, code := some k11c1 }
def k11c2 : Code := { maxStack := 4, maxLocals := 1, code := jdk_43_method_46_code, exceptionTable := #[], attributes := #[] }
def k11m2 : Method := { name := "toBytes", desc := "(C)[B", sig := { parameters := [.char], returnType := some (.array .byte) }, accessFlags := 9, code := some k11c2 }
/-- java/lang/StringLatin1 -/
def k11 : Class := { plain "java/lang/StringLatin1" (some 0) with
  accessFlags := 48
  interfaces := #[]
  cf := some (fileOf pool11 14 #[.nestMembers #[390, 221]] #[{ accessFlags := 0, nameIndex := 7, descriptorIndex := 8, attributes := #[] }, { accessFlags := 9, nameIndex := 90, descriptorIndex := 105, attributes := #[] }, { accessFlags := 9, nameIndex := 380, descriptorIndex := 382, attributes := #[] }] 48 4 #[] #[{ accessFlags := 4120, nameIndex := 121, descriptorIndex := 122, attributes := #[] }])
  fields := #[{ name := "$assertionsDisabled", type := .boolean, accessFlags := 4120, slot := 0, constantValue := 0 }]
  methods := #[k11m0, k11m1, k11m2]
  instanceTypes := #[]
  staticTypes := #[.boolean]
  resolved := Array.replicate 395 none
  statics := none }

def pool12 : Array CpInfo := pool [(2, .class_ 4), (1, u "java/lang/Object"), (0, u "<init>"), (0, u "()V"), (17, .class_ 26), (1, u "jdk/internal/util/Preconditions"), (28, .class_ 56), (0, u "jdk/internal/util/Preconditions$4"), (57, .class_ 115), (0, u "jdk/internal/util/Preconditions$1"), (7, u "SIOOBE_FORMATTER"), (0, u "Ljava/util/function/BiFunction;"), (0, .class_ 126), (0, u "jdk/internal/util/Preconditions$2"), (3, u "AIOOBE_FORMATTER"), (0, .class_ 132), (0, u "jdk/internal/util/Preconditions$3"), (3, u "IOOBE_FORMATTER")] 57

def k12m0 : Method := { name := "<init>", desc := "()V", sig := { parameters := [], returnType := none }, accessFlags := 1, code := none }
/-- jdk/internal/util/Preconditions -/
def k12 : Class := { plain "jdk/internal/util/Preconditions" (some 0) with
  accessFlags := 33
  interfaces := #[]
  cf := some (fileOf pool12 24 #[.nestMembers #[55, 131, 125, 114]] #[{ accessFlags := 1, nameIndex := 5, descriptorIndex := 6, attributes := #[] }] 33 2 #[] #[{ accessFlags := 25, nameIndex := 123, descriptorIndex := 124, attributes := #[] }, { accessFlags := 25, nameIndex := 130, descriptorIndex := 124, attributes := #[] }, { accessFlags := 25, nameIndex := 136, descriptorIndex := 124, attributes := #[] }])
  fields := #[{ name := "SIOOBE_FORMATTER", type := (.object "java/util/function/BiFunction"), accessFlags := 25, slot := 0, constantValue := 0 }, { name := "AIOOBE_FORMATTER", type := (.object "java/util/function/BiFunction"), accessFlags := 25, slot := 1, constantValue := 0 }, { name := "IOOBE_FORMATTER", type := (.object "java/util/function/BiFunction"), accessFlags := 25, slot := 2, constantValue := 0 }]
  methods := #[k12m0]
  instanceTypes := #[]
  staticTypes := #[(.object "java/util/function/BiFunction"), (.object "java/util/function/BiFunction"), (.object "java/util/function/BiFunction")]
  resolved := Array.replicate 194 none
  statics := some 1 }

def pool13 : Array CpInfo := pool [(9, u "<init>"), (6, .class_ 18), (1, u "java/lang/Object"), (0, u "()V"), (1, .class_ 23), (1, u "jdk/internal/util/ArraysSupport"), (0, u "LOG2_ARRAY_LONG_INDEX_SCALE"), (0, u "I"), (2, u "U"), (0, u "Ljdk/internal/misc/Unsafe;"), (8, u "BIG_ENDIAN"), (0, u "Z"), (8, u "LOG2_BYTE_BIT_SIZE"), (4, u "LOG2_ARRAY_INT_INDEX_SCALE"), (54, u "JLA"), (0, u "Ljdk/internal/access/JavaLangAccess;"), (11, u "LOG2_ARRAY_BOOLEAN_INDEX_SCALE"), (9, u "LOG2_ARRAY_BYTE_INDEX_SCALE"), (5, u "LOG2_ARRAY_CHAR_INDEX_SCALE"), (5, u "LOG2_ARRAY_SHORT_INDEX_SCALE"), (18, u "LOG2_ARRAY_FLOAT_INDEX_SCALE"), (24, u "LOG2_ARRAY_DOUBLE_INDEX_SCALE"), (89, u "T_BOOLEAN"), (2, u "T_CHAR"), (1, u "T_FLOAT"), (1, u "T_DOUBLE"), (1, u "T_BYTE"), (1, u "T_SHORT"), (1, u "T_INT"), (1, u "T_LONG"), (1, u "SOFT_MAX_ARRAY_LENGTH")] 83

def k13m0 : Method := { name := "<init>", desc := "()V", sig := { parameters := [], returnType := none }, accessFlags := 2, code := none }
/-- jdk/internal/util/ArraysSupport -/
def k13 : Class := { plain "jdk/internal/util/ArraysSupport" (some 0) with
  accessFlags := 33
  interfaces := #[]
  cf := some (fileOf pool13 21 #[] #[{ accessFlags := 2, nameIndex := 9, descriptorIndex := 19, attributes := #[] }] 33 16 #[] #[{ accessFlags := 24, nameIndex := 28, descriptorIndex := 29, attributes := #[] }, { accessFlags := 26, nameIndex := 38, descriptorIndex := 39, attributes := #[] }, { accessFlags := 25, nameIndex := 121, descriptorIndex := 25, attributes := #[] }, { accessFlags := 25, nameIndex := 131, descriptorIndex := 25, attributes := #[] }, { accessFlags := 25, nameIndex := 137, descriptorIndex := 25, attributes := #[] }, { accessFlags := 25, nameIndex := 143, descriptorIndex := 25, attributes := #[] }, { accessFlags := 25, nameIndex := 53, descriptorIndex := 25, attributes := #[] }, { accessFlags := 25, nameIndex := 24, descriptorIndex := 25, attributes := #[] }, { accessFlags := 25, nameIndex := 162, descriptorIndex := 25, attributes := #[] }, { accessFlags := 25, nameIndex := 187, descriptorIndex := 25, attributes := #[] }, { accessFlags := 26, nameIndex := 48, descriptorIndex := 25, attributes := #[] }, { accessFlags := 25, nameIndex := 277, descriptorIndex := 25, attributes := #[] }, { accessFlags := 25, nameIndex := 280, descriptorIndex := 25, attributes := #[] }, { accessFlags := 25, nameIndex := 282, descriptorIndex := 25, attributes := #[] }, { accessFlags := 25, nameIndex := 284, descriptorIndex := 25, attributes := #[] }, { accessFlags := 25, nameIndex := 286, descriptorIndex := 25, attributes := #[] }, { accessFlags := 25, nameIndex := 288, descriptorIndex := 25, attributes := #[] }, { accessFlags := 25, nameIndex := 290, descriptorIndex := 25, attributes := #[] }, { accessFlags := 25, nameIndex := 292, descriptorIndex := 25, attributes := #[] }, { accessFlags := 26, nameIndex := 108, descriptorIndex := 109, attributes := #[] }, { accessFlags := 25, nameIndex := 294, descriptorIndex := 25, attributes := #[] }])
  fields := #[{ name := "U", type := (.object "jdk/internal/misc/Unsafe"), accessFlags := 24, slot := 0, constantValue := 0 }, { name := "BIG_ENDIAN", type := .boolean, accessFlags := 26, slot := 1, constantValue := 0 }, { name := "LOG2_ARRAY_BOOLEAN_INDEX_SCALE", type := .int, accessFlags := 25, slot := 2, constantValue := 0 }, { name := "LOG2_ARRAY_BYTE_INDEX_SCALE", type := .int, accessFlags := 25, slot := 3, constantValue := 0 }, { name := "LOG2_ARRAY_CHAR_INDEX_SCALE", type := .int, accessFlags := 25, slot := 4, constantValue := 0 }, { name := "LOG2_ARRAY_SHORT_INDEX_SCALE", type := .int, accessFlags := 25, slot := 5, constantValue := 0 }, { name := "LOG2_ARRAY_INT_INDEX_SCALE", type := .int, accessFlags := 25, slot := 6, constantValue := 0 }, { name := "LOG2_ARRAY_LONG_INDEX_SCALE", type := .int, accessFlags := 25, slot := 7, constantValue := 0 }, { name := "LOG2_ARRAY_FLOAT_INDEX_SCALE", type := .int, accessFlags := 25, slot := 8, constantValue := 0 }, { name := "LOG2_ARRAY_DOUBLE_INDEX_SCALE", type := .int, accessFlags := 25, slot := 9, constantValue := 0 }, { name := "LOG2_BYTE_BIT_SIZE", type := .int, accessFlags := 26, slot := 10, constantValue := 0 }, { name := "T_BOOLEAN", type := .int, accessFlags := 25, slot := 11, constantValue := 0 }, { name := "T_CHAR", type := .int, accessFlags := 25, slot := 12, constantValue := 0 }, { name := "T_FLOAT", type := .int, accessFlags := 25, slot := 13, constantValue := 0 }, { name := "T_DOUBLE", type := .int, accessFlags := 25, slot := 14, constantValue := 0 }, { name := "T_BYTE", type := .int, accessFlags := 25, slot := 15, constantValue := 0 }, { name := "T_SHORT", type := .int, accessFlags := 25, slot := 16, constantValue := 0 }, { name := "T_INT", type := .int, accessFlags := 25, slot := 17, constantValue := 0 }, { name := "T_LONG", type := .int, accessFlags := 25, slot := 18, constantValue := 0 }, { name := "JLA", type := (.object "jdk/internal/access/JavaLangAccess"), accessFlags := 26, slot := 19, constantValue := 0 }, { name := "SOFT_MAX_ARRAY_LENGTH", type := .int, accessFlags := 25, slot := 20, constantValue := 0 }]
  methods := #[k13m0]
  instanceTypes := #[]
  staticTypes := #[(.object "jdk/internal/misc/Unsafe"), .boolean, .int, .int, .int, .int, .int, .int, .int, .int, .int, .int, .int, .int, .int, .int, .int, .int, .int, (.object "jdk/internal/access/JavaLangAccess"), .int]
  resolved := Array.replicate 378 none
  statics := none }

def pool14 : Array CpInfo := pool [(1, u "java/lang/Cloneable"), (0, .class_ 1), (0, u "java/lang/Object"), (0, .class_ 3)] 3

/-- java/lang/Cloneable -/
def k14 : Class := { plain "java/lang/Cloneable" (some 0) with
  accessFlags := 1537
  interfaces := #[]
  cf := some (fileOf pool14 2 #[] #[] 1537 4 #[] #[])
  fields := #[]
  methods := #[]
  instanceTypes := #[]
  staticTypes := #[]
  resolved := Array.replicate 8 none
  statics := none }

/-- the primitive byte -/
def k15 : Class := { plain "byte" none with kind := .primitive 'B', accessFlags := 0x411 }
/-- [B -/
def k16 : Class := { plain "[B" (some 0) with kind := .array 15 .byte, interfaces := #[14, 2], accessFlags := 1041 }

/-- the primitive char -/
def k17 : Class := { plain "char" none with kind := .primitive 'C', accessFlags := 0x411 }
/-- [C -/
def k18 : Class := { plain "[C" (some 0) with kind := .array 17 .char, interfaces := #[14, 2], accessFlags := 1041 }

/-- the primitive int -/
def k19 : Class := { plain "int" none with kind := .primitive 'I', accessFlags := 0x411 }
/-- [I -/
def k20 : Class := { plain "[I" (some 0) with kind := .array 19 .int, interfaces := #[14, 2], accessFlags := 1041 }

def heap : Heap := #[{ cls := 7, slots := #[.long 0, .int 1, .null, .int 0, .null, .int 0, .int 0], vm := .statics 7 },
  { cls := 12, slots := #[.null, .null, .null], vm := .statics 12 }]
def classes : Array Class := #[k0, k1, k2, k3, k4, k5, k6, k7, k8, k9, k10, k11, k12, k13, k14, k15, k16, k17, k18, k19, k20]
def interned : List (Array UInt16 × Addr) := []
def slotsUsed : Nat := 10
def theMethod : MethodId := ⟨1, 2⟩
def args0 : Array Value := #[.int 5, .int 6, .int 7, .int 8]
def aboutOver (below : List Frame) : State where
  vm := { classes := classes, interned := interned.toArray }
  heap := heap
  slotsUsed := slotsUsed
  threads := #[{ frames := .invoking theMethod args0 :: below }]
def below0 : List Frame := [.native { method := ⟨0, 0⟩, args := #[] }]
def about1 : State := aboutOver below0
def p0 : Program := .bare "" "" ""
def e0 : Env := launch0.env 0 0 0
theorem w_frames : about1.frames = Frame.invoking theMethod args0 :: below0 := rfl
set_option maxRecDepth 65536 in
theorem w_args : argsFit about1.vm theMethod args0 = true := by decide +kernel
set_option maxRecDepth 65536 in
theorem w_heap : heapFits about1 = true := by decide +kernel
set_option maxRecDepth 65536 in
theorem w_runnable : about1.curStatus? = some .runnable := by decide +kernel
set_option maxRecDepth 65536 in
theorem w_alone : about1.alone = true := by decide +kernel
set_option maxRecDepth 65536 in
theorem w_named : about1.methodNamed? x = some theMethod := by decide +kernel
set_option maxRecDepth 65536 in
theorem w_hears : about1.hears theMethod below0 = true := by decide +kernel
set_option maxRecDepth 65536 in
theorem w_ripe : about1.ripe theMethod args0 below0 = true := by decide +kernel
theorem w_running : about1.status = .running := rfl
set_option maxRecDepth 65536 in
theorem w_room : about1.hasRoom e0.platform room_1 = true :=
  launch0.hasRoom_least _ room_1 (by decide +kernel) (by decide +kernel) (by decide +kernel) (by decide +kernel) (by decide +kernel) (by decide +kernel)
theorem allAtoms_all (ts : List Jvm.Cond) (a : Array Jvm.Value) (st : Jvm.State) : (allAtoms ts).before a st = ts.all (fun c => c.before a st) := by
  induction ts with
  | nil => rfl
  | cons c t ih =>
    show (Jvm.Cond.and c (allAtoms t)).before a st = _
    rw [Jvm.Cond.before_and, ih, List.all_cons]
def words1 : List Jvm.Cond := Jvm.Cond.code x code maxLocals ret :: tables_1
/-- a 'code' word, met by the world's own term for the bytes: nothing is compared byte by byte -/
theorem code_word {y : MethodName} {bytes : ByteArray} {mx : Nat} {rt : Option FieldType} {a : Array Value} {s : State} {m : MethodId} {meth : Method} {c : Code} (h1 : s.methodNamed? y = some m) (h2 : s.vm.method? m = some meth) (h3 : meth.code = some c) (h4 : c.code = bytes)
    (h5 : (c.maxLocals == mx && c.exceptionTable.isEmpty && decide (c.maxStack ≤ mostOperands) && decide (meth.sig.returnType = rt) && !meth.locks && decide (parseMethodDescriptor y.desc = some meth.sig)) = true) : (Jvm.Cond.code y bytes mx rt).before a s = true := by
  simp only [Bool.and_eq_true, beq_iff_eq, Bool.not_eq_true', decide_eq_true_eq] at h5
  obtain ⟨⟨⟨⟨⟨g1, g2⟩, g3⟩, g4⟩, g5⟩, g6⟩ := h5
  simp [Cond.before, Cond.holds, Cond.value, h1, h2, h3, h4, g1, g2, g3, g4, g5, g6]
def isCode : Jvm.Cond → Bool
  | .code _ _ _ _ => true
  | _ => false
theorem all_split {L : List Jvm.Cond} {P : Jvm.Cond → Bool} (h1 : L.all (fun c => isCode c || P c) = true) (h2 : ∀ c ∈ L.filter isCode, P c = true) : L.all P = true := by
  refine List.all_eq_true.mpr fun c hc => ?_
  have h := List.all_eq_true.mp h1 c hc
  rcases Bool.eq_false_or_eq_true (isCode c) with hi | hi
  · exact h2 c (List.mem_filter.mpr ⟨hc, hi⟩)
  · simpa [hi] using h
set_option maxRecDepth 65536 in
theorem w_c0 : (Jvm.Cond.code x code maxLocals ret).before args0 about1 = true := code_word (m := ⟨1, 2⟩) (meth := k1m2) (c := k1c2) (by decide +kernel) rfl rfl rfl (by decide +kernel)
set_option maxRecDepth 65536 in
theorem w_c1 : (Jvm.Cond.code ({ cls := "com/example/stavegate/stavegate/format/StaffNamePinLaw", name := "draw", desc := "(II)Ljava/lang/String;" } : Jvm.MethodName) method_2_code (6 : Nat) (Option.some (Jvm.ClassFile.FieldType.object "java/lang/String"))).before args0 about1 = true := code_word (m := ⟨1, 1⟩) (meth := k1m1) (c := k1c1) (by decide +kernel) rfl rfl rfl (by decide +kernel)
set_option maxRecDepth 65536 in
theorem w_c2 : (Jvm.Cond.code ({ cls := "java/lang/String", name := "<init>", desc := "([C)V" } : Jvm.MethodName) jdk_42_method_3_code (2 : Nat) (Option.none : Option Jvm.ClassFile.FieldType)).before args0 about1 = true := code_word (m := ⟨7, 1⟩) (meth := k7m1) (c := k7c1) (by decide +kernel) rfl rfl rfl (by decide +kernel)
set_option maxRecDepth 65536 in
theorem w_c3 : (Jvm.Cond.code ({ cls := "java/lang/String", name := "<init>", desc := "([CIILjava/lang/Void;)V" } : Jvm.MethodName) jdk_42_method_149_code (6 : Nat) (Option.none : Option Jvm.ClassFile.FieldType)).before args0 about1 = true := code_word (m := ⟨7, 6⟩) (meth := k7m6) (c := k7c6) (by decide +kernel) rfl rfl rfl (by decide +kernel)
set_option maxRecDepth 65536 in
theorem w_c4 : (Jvm.Cond.code ({ cls := "java/lang/Object", name := "<init>", desc := "()V" } : Jvm.MethodName) object_method_1_code (1 : Nat) (Option.none : Option Jvm.ClassFile.FieldType)).before args0 about1 = true := code_word (m := ⟨0, 0⟩) (meth := k0m0) (c := k0c0) (by decide +kernel) rfl rfl rfl (by decide +kernel)
set_option maxRecDepth 65536 in
theorem w_c5 : (Jvm.Cond.code ({ cls := "java/lang/StringUTF16", name := "compress", desc := "([CII)[B" } : Jvm.MethodName) jdk_52_method_16_code (6 : Nat) (Option.some (Jvm.ClassFile.FieldType.array Jvm.ClassFile.FieldType.byte))).before args0 about1 = true := code_word (m := ⟨8, 2⟩) (meth := k8m2) (c := k8c2) (by decide +kernel) rfl rfl rfl (by decide +kernel)
set_option maxRecDepth 65536 in
theorem w_c6 : (Jvm.Cond.code ({ cls := "java/lang/StringUTF16", name := "compress", desc := "([CI[BII)I" } : Jvm.MethodName) jdk_52_method_21_code (7 : Nat) (Option.some Jvm.ClassFile.FieldType.int)).before args0 about1 = true := code_word (m := ⟨8, 3⟩) (meth := k8m3) (c := k8c3) (by decide +kernel) rfl rfl rfl (by decide +kernel)
set_option maxRecDepth 65536 in
theorem w_c7 : (Jvm.Cond.code ({ cls := "java/lang/StringUTF16", name := "coderFromArrayLen", desc := "([BI)B" } : Jvm.MethodName) jdk_52_method_15_code (2 : Nat) (Option.some Jvm.ClassFile.FieldType.byte)).before args0 about1 = true := code_word (m := ⟨8, 1⟩) (meth := k8m1) (c := k8c1) (by decide +kernel) rfl rfl rfl (by decide +kernel)
set_option maxRecDepth 65536 in
theorem w_c8 : (Jvm.Cond.code ({ cls := "com/example/stavegate/stavegate/format/MeiMeasures$Staff", name := "<init>", desc := "(Ljava/lang/String;Ljava/lang/String;)V" } : Jvm.MethodName) prog_32_method_1_code (3 : Nat) (Option.none : Option Jvm.ClassFile.FieldType)).before args0 about1 = true := code_word (m := ⟨10, 0⟩) (meth := k10m0) (c := k10c0) (by decide +kernel) rfl rfl rfl (by decide +kernel)
set_option maxRecDepth 65536 in
theorem w_c9 : (Jvm.Cond.code ({ cls := "java/lang/Record", name := "<init>", desc := "()V" } : Jvm.MethodName) jdk_30_method_1_code (1 : Nat) (Option.none : Option Jvm.ClassFile.FieldType)).before args0 about1 = true := code_word (m := ⟨9, 0⟩) (meth := k9m0) (c := k9c0) (by decide +kernel) rfl rfl rfl (by decide +kernel)
set_option maxRecDepth 65536 in
theorem w_c10 : (Jvm.Cond.code ({ cls := "com/example/stavegate/stavegate/format/MeiMeasures$Staff", name := "name", desc := "()Ljava/lang/String;" } : Jvm.MethodName) prog_32_method_2_code (1 : Nat) (Option.some (Jvm.ClassFile.FieldType.object "java/lang/String"))).before args0 about1 = true := code_word (m := ⟨10, 1⟩) (meth := k10m1) (c := k10c1) (by decide +kernel) rfl rfl rfl (by decide +kernel)
set_option maxRecDepth 65536 in
theorem w_c11 : (Jvm.Cond.code ({ cls := "java/lang/String", name := "isEmpty", desc := "()Z" } : Jvm.MethodName) jdk_42_method_55_code (1 : Nat) (Option.some Jvm.ClassFile.FieldType.boolean)).before args0 about1 = true := code_word (m := ⟨7, 3⟩) (meth := k7m3) (c := k7c3) (by decide +kernel) rfl rfl rfl (by decide +kernel)
set_option maxRecDepth 65536 in
theorem w_c12 : (Jvm.Cond.code ({ cls := "java/lang/String", name := "length", desc := "()I" } : Jvm.MethodName) jdk_42_method_54_code (1 : Nat) (Option.some Jvm.ClassFile.FieldType.int)).before args0 about1 = true := code_word (m := ⟨7, 2⟩) (meth := k7m2) (c := k7c2) (by decide +kernel) rfl rfl rfl (by decide +kernel)
set_option maxRecDepth 65536 in
theorem w_c13 : (Jvm.Cond.code ({ cls := "java/lang/String", name := "coder", desc := "()B" } : Jvm.MethodName) jdk_42_method_152_code (1 : Nat) (Option.some Jvm.ClassFile.FieldType.byte)).before args0 about1 = true := code_word (m := ⟨7, 8⟩) (meth := k7m8) (c := k7c8) (by decide +kernel) rfl rfl rfl (by decide +kernel)
set_option maxRecDepth 65536 in
theorem w_c14 : (Jvm.Cond.code ({ cls := "java/lang/String", name := "equals", desc := "(Ljava/lang/Object;)Z" } : Jvm.MethodName) jdk_42_method_66_code (3 : Nat) (Option.some Jvm.ClassFile.FieldType.boolean)).before args0 about1 = true := code_word (m := ⟨7, 4⟩) (meth := k7m4) (c := k7c4) (by decide +kernel) rfl rfl rfl (by decide +kernel)
set_option maxRecDepth 65536 in
theorem w_c15 : (Jvm.Cond.code ({ cls := "java/lang/String", name := "valueOf", desc := "(C)Ljava/lang/String;" } : Jvm.MethodName) jdk_42_method_139_code (1 : Nat) (Option.some (Jvm.ClassFile.FieldType.object "java/lang/String"))).before args0 about1 = true := code_word (m := ⟨7, 5⟩) (meth := k7m5) (c := k7c5) (by decide +kernel) rfl rfl rfl (by decide +kernel)
set_option maxRecDepth 65536 in
theorem w_c16 : (Jvm.Cond.code ({ cls := "java/lang/StringLatin1", name := "canEncode", desc := "(C)Z" } : Jvm.MethodName) jdk_43_method_3_code (1 : Nat) (Option.some Jvm.ClassFile.FieldType.boolean)).before args0 about1 = true := code_word (m := ⟨11, 1⟩) (meth := k11m1) (c := k11c1) (by decide +kernel) rfl rfl rfl (by decide +kernel)
set_option maxRecDepth 65536 in
theorem w_c17 : (Jvm.Cond.code ({ cls := "java/lang/StringLatin1", name := "toBytes", desc := "(C)[B" } : Jvm.MethodName) jdk_43_method_46_code (1 : Nat) (Option.some (Jvm.ClassFile.FieldType.array Jvm.ClassFile.FieldType.byte))).before args0 about1 = true := code_word (m := ⟨11, 2⟩) (meth := k11m2) (c := k11c2) (by decide +kernel) rfl rfl rfl (by decide +kernel)
set_option maxRecDepth 65536 in
theorem w_c18 : (Jvm.Cond.code ({ cls := "java/lang/String", name := "<init>", desc := "([BB)V" } : Jvm.MethodName) jdk_42_method_151_code (3 : Nat) (Option.none : Option Jvm.ClassFile.FieldType)).before args0 about1 = true := code_word (m := ⟨7, 7⟩) (meth := k7m7) (c := k7c7) (by decide +kernel) rfl rfl rfl (by decide +kernel)
def codes1 : List Jvm.Cond := [Jvm.Cond.code x code maxLocals ret, Jvm.Cond.code ({ cls := "com/example/stavegate/stavegate/format/StaffNamePinLaw", name := "draw", desc := "(II)Ljava/lang/String;" } : Jvm.MethodName) method_2_code (6 : Nat) (Option.some (Jvm.ClassFile.FieldType.object "java/lang/String")), Jvm.Cond.code ({ cls := "java/lang/String", name := "<init>", desc := "([C)V" } : Jvm.MethodName) jdk_42_method_3_code (2 : Nat) (Option.none : Option Jvm.ClassFile.FieldType), Jvm.Cond.code ({ cls := "java/lang/String", name := "<init>", desc := "([CIILjava/lang/Void;)V" } : Jvm.MethodName) jdk_42_method_149_code (6 : Nat) (Option.none : Option Jvm.ClassFile.FieldType), Jvm.Cond.code ({ cls := "java/lang/Object", name := "<init>", desc := "()V" } : Jvm.MethodName) object_method_1_code (1 : Nat) (Option.none : Option Jvm.ClassFile.FieldType), Jvm.Cond.code ({ cls := "java/lang/StringUTF16", name := "compress", desc := "([CII)[B" } : Jvm.MethodName) jdk_52_method_16_code (6 : Nat) (Option.some (Jvm.ClassFile.FieldType.array Jvm.ClassFile.FieldType.byte)), Jvm.Cond.code ({ cls := "java/lang/StringUTF16", name := "compress", desc := "([CI[BII)I" } : Jvm.MethodName) jdk_52_method_21_code (7 : Nat) (Option.some Jvm.ClassFile.FieldType.int), Jvm.Cond.code ({ cls := "java/lang/StringUTF16", name := "coderFromArrayLen", desc := "([BI)B" } : Jvm.MethodName) jdk_52_method_15_code (2 : Nat) (Option.some Jvm.ClassFile.FieldType.byte), Jvm.Cond.code ({ cls := "com/example/stavegate/stavegate/format/MeiMeasures$Staff", name := "<init>", desc := "(Ljava/lang/String;Ljava/lang/String;)V" } : Jvm.MethodName) prog_32_method_1_code (3 : Nat) (Option.none : Option Jvm.ClassFile.FieldType), Jvm.Cond.code ({ cls := "java/lang/Record", name := "<init>", desc := "()V" } : Jvm.MethodName) jdk_30_method_1_code (1 : Nat) (Option.none : Option Jvm.ClassFile.FieldType), Jvm.Cond.code ({ cls := "com/example/stavegate/stavegate/format/MeiMeasures$Staff", name := "name", desc := "()Ljava/lang/String;" } : Jvm.MethodName) prog_32_method_2_code (1 : Nat) (Option.some (Jvm.ClassFile.FieldType.object "java/lang/String")), Jvm.Cond.code ({ cls := "java/lang/String", name := "isEmpty", desc := "()Z" } : Jvm.MethodName) jdk_42_method_55_code (1 : Nat) (Option.some Jvm.ClassFile.FieldType.boolean), Jvm.Cond.code ({ cls := "java/lang/String", name := "length", desc := "()I" } : Jvm.MethodName) jdk_42_method_54_code (1 : Nat) (Option.some Jvm.ClassFile.FieldType.int), Jvm.Cond.code ({ cls := "java/lang/String", name := "coder", desc := "()B" } : Jvm.MethodName) jdk_42_method_152_code (1 : Nat) (Option.some Jvm.ClassFile.FieldType.byte), Jvm.Cond.code ({ cls := "java/lang/String", name := "equals", desc := "(Ljava/lang/Object;)Z" } : Jvm.MethodName) jdk_42_method_66_code (3 : Nat) (Option.some Jvm.ClassFile.FieldType.boolean), Jvm.Cond.code ({ cls := "java/lang/String", name := "valueOf", desc := "(C)Ljava/lang/String;" } : Jvm.MethodName) jdk_42_method_139_code (1 : Nat) (Option.some (Jvm.ClassFile.FieldType.object "java/lang/String")), Jvm.Cond.code ({ cls := "java/lang/StringLatin1", name := "canEncode", desc := "(C)Z" } : Jvm.MethodName) jdk_43_method_3_code (1 : Nat) (Option.some Jvm.ClassFile.FieldType.boolean), Jvm.Cond.code ({ cls := "java/lang/StringLatin1", name := "toBytes", desc := "(C)[B" } : Jvm.MethodName) jdk_43_method_46_code (1 : Nat) (Option.some (Jvm.ClassFile.FieldType.array Jvm.ClassFile.FieldType.byte)), Jvm.Cond.code ({ cls := "java/lang/String", name := "<init>", desc := "([BB)V" } : Jvm.MethodName) jdk_42_method_151_code (3 : Nat) (Option.none : Option Jvm.ClassFile.FieldType)]
set_option maxRecDepth 65536 in
theorem codes_eq : words1.filter isCode = codes1 := rfl
theorem w_codes : ∀ c ∈ words1.filter isCode, c.before args0 about1 = true := by
  rw [codes_eq]
  intro c hc
  simp only [codes1, List.mem_cons, List.not_mem_nil, or_false] at hc
  rcases hc with rfl | rfl | rfl | rfl | rfl | rfl | rfl | rfl | rfl | rfl | rfl | rfl | rfl | rfl | rfl | rfl | rfl | rfl | rfl
  · exact w_c0
  · exact w_c1
  · exact w_c2
  · exact w_c3
  · exact w_c4
  · exact w_c5
  · exact w_c6
  · exact w_c7
  · exact w_c8
  · exact w_c9
  · exact w_c10
  · exact w_c11
  · exact w_c12
  · exact w_c13
  · exact w_c14
  · exact w_c15
  · exact w_c16
  · exact w_c17
  · exact w_c18
set_option maxRecDepth 65536 in
theorem w_t1 : (words1.take 24).all (fun c => isCode c || c.before args0 about1) = true := by decide +kernel
set_option maxRecDepth 65536 in
theorem w_t2 : ((words1.drop 24).take 24).all (fun c => isCode c || c.before args0 about1) = true := by decide +kernel
set_option maxRecDepth 65536 in
theorem w_t3 : (((words1.drop 24).drop 24).take 24).all (fun c => isCode c || c.before args0 about1) = true := by decide +kernel
set_option maxRecDepth 65536 in
theorem w_t4 : (((words1.drop 24).drop 24).drop 24).all (fun c => isCode c || c.before args0 about1) = true := by decide +kernel
theorem w_tables : (allAtoms (Jvm.Cond.code x code maxLocals ret :: tables_1)).before args0 about1 = true := by
  rw [allAtoms_all]
  show words1.all (fun c => c.before args0 about1) = true
  refine all_split ?_ w_codes
  rw [← List.take_append_drop 24 words1, List.all_append, w_t1, ← List.take_append_drop 24 (words1.drop 24), List.all_append, w_t2, ← List.take_append_drop 24 ((words1.drop 24).drop 24), List.all_append, w_t3, w_t4]
  rfl
set_option maxRecDepth 65536 in
theorem w_rest : rest_1_c.before args0 about1 = true := by decide +kernel
set_option maxRecDepth 65536 in
theorem w_case : (Jvm.Cond.and given_1 narrow_1).before args0 about1 = true := by decide +kernel
set_option maxRecDepth 65536 in
theorem w_consts : constsHeld consts_1 about1 := Jvm.Lit.constsHeldB_iff.mp (by decide +kernel)
theorem w_applies : (headSpec (Jvm.Cond.code x code maxLocals ret :: tables_1) room_1).applies x e0.platform about1 = true :=
  (Spec.applies_iff w_frames).mpr ⟨w_running, w_runnable, w_alone, w_named, w_hears, w_ripe, w_room, w_tables⟩
theorem atStart : AtStart classFile x code maxLocals ret World_1 tables_1 room_1 Calls_1 rest_1 Pre_1 launch0 p0 e0 about1 theMethod args0 below0 :=
  ⟨lists_1, trivial, launch0.admits_env _ _ _, launch0.least_env, fairChoices_fair.cas, fairChoices_fair.clock, w_frames, w_args, w_heap, w_applies, ⟨w_consts, trivial⟩, w_rest, w_case⟩
end start1
theorem witness_1 : WitnessClaimed_1 := ⟨start1.p0, start1.e0, start1.about1, start1.theMethod, start1.args0, start1.below0, start1.atStart⟩
end Jvm.Pilot.@@N@@
