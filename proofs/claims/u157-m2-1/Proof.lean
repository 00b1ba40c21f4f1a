import JvmDerived
import JvmDerived.Pilot.@@N@@Statement
import JvmDerived.Pilot.@@N@@Code
set_option linter.unusedVariables false
set_option linter.unusedSimpArgs false
namespace Jvm.RoadKit
open Sem ClassFile Op Lib Jvm.Stand Jvm.Free Jvm.LawKit
section New
variable {p : Program} {l : Launch} {e : Env} {R : Room} {s : State} {m : MethodId} {args : Array Value} {below : List Frame} {meth : Method} {c : Code} {T : State} {locs : List Loc} {cells slots : Nat}
theorem own_retI (X : Stand p l e R s m args below meth c T locs cells slots) (hx : p.tables.exec = Jvm.exec) {pc : Nat} {Ls : Array Slot} {z : Int32} {rest : List Value} (hret : meth.sig.returnType = some .int) (hd : decode c.code pc = .ok (.ireturn, 1)) {fs : List Frame}
    (hl : ∀ (f : JFrame) (acts : List Action), f.method = m → f.locked = none → f.entered = [] → (doReturn e (T.setTop f) acts (some (.int z))).1 = T.setFrames fs) : Steps p.tables e below (T.setTop (mkF m pc Ls (.int z :: rest))) (T.setFrames fs) :=
  retOut X hx hret rfl (Or.inl ⟨rfl, Or.inl rfl, z, rfl⟩) hd hl
theorem own_start {S S0 : State} {P : State → Outcome → Prop} (pre : ∀ t, Steps p.tables e below S t → Steps p.tables e below S0 t)
    (k : ∀ G : State → Prop, (∀ {U U' : State}, (∀ t, Steps p.tables e below U' t → Steps p.tables e below U t) → G U' → G U) → (∀ U, (∃ s₂ o, Steps p.tables e below U s₂ ∧ P s₂ o) → G U) → G S) :
    ∃ s₂ o, Steps p.tables e below S0 s₂ ∧ P s₂ o := by
  obtain ⟨t, o, h1, h2⟩ := k (fun U => ∃ s₂ o, Steps p.tables e below U s₂ ∧ P s₂ o) (fun f ⟨t, o, h1, h2⟩ => ⟨t, o, f t h1, h2⟩) (fun _ h => h)
  exact ⟨t, o, pre t h1, h2⟩
theorem own_lsw {g : JFrame} {target : State} (X : Stand p l e R s m args below meth c T locs cells slots) (hx : p.tables.exec = Jvm.exec) (hg : g.method = m) {dflt : Int} {ps : Array (Int × Int)} {len : Nat} {pc0 pc' : Nat} (hpc : g.pc = pc0) (hd : decode c.code g.pc = .ok (.lookupswitch dflt ps, len)) {i : Int32} {rest : List Value} (hs : g.stack = .int i :: rest)
    (hsort : (ps.toList.zip ps.toList.tail).all (fun q => decide (q.1.1 < q.2.1)) = true) {o : Int} (hoff : lookupswitch.offset ps.toList dflt i.toInt = o) (ho : 0 ≤ (pc0 : Int) + o) (hp : ((pc0 : Int) + o).toNat = pc') (hr : Steps p.tables e below (T.setTop { g with pc := pc', stack := rest }) target) : Steps p.tables e below (T.setTop g) target := by
  subst hg hpc hp hoff
  jvm_step X.here [X.here.top, hx, hd, hs, ho, lookupswitch.wp_chain]
  exact ⟨fun a b a1 b1 hm => by simpa using List.all_eq_true.mp hsort _ hm, hr⟩
theorem own_lt {a b : Int32} (h : a < b) : a.toInt < b.toInt := Int32.lt_iff_toInt_lt.mp h
theorem own_nlt {a b : Int32} (h : ¬ a < b) : b.toInt ≤ a.toInt := Int.not_lt.mp fun q => h (Int32.lt_iff_toInt_lt.mpr q)
theorem own_miss {a o : Int} {r : List (Int × Int)} {d k : Int} (h : a ≠ k) : lookupswitch.offset ((a, o) :: r) d k = lookupswitch.offset r d k := by rw [lookupswitch.offset_cons, if_neg h]
theorem own_nek {x K : Int32} {k : Int} (h : ¬ x = K) (e : K.toInt = k) : k ≠ x.toInt := fun q => h (Int32.toInt_inj.mp (q.symm.trans e.symm))
theorem own_sta_keep {Z : State} {h h' : Heap} {C n d : String} {v : Value} (F : Sta Z h C n d v) (K : Keep h h' []) : Sta Z h' C n d v := by
  obtain ⟨cf, i, k, f, st, cell, h1, h2, h3, h4, h5, r⟩ := F; exact ⟨cf, i, k, f, st, cell, h1, h2, h3, h4, K.2.1 _ _ h5 nin0, r⟩
theorem own_sta_keepE {Z : State} {h h' : Heap} {C n d D : String} {v : Value} {a : Addr} (F : Sta Z h C n d v) (K : Keep h h' [a]) (E : Exa Z h a D) : Sta Z h' C n d v := by
  obtain ⟨cf, i, k, f, st, cell, h1, h2, h3, h4, h5, h6, r⟩ := F
  obtain ⟨c2, k2, q1, -, -, q4, -⟩ := E
  refine ⟨cf, i, k, f, st, cell, h1, h2, h3, h4, K.2.1 _ _ h5 (ninS (fun z => ?_) nin0), h6, r⟩
  subst z; cases q1.symm.trans h5; rw [q4] at h6; cases h6
theorem own_arvset {Z : State} {h h' : Heap} {a : Addr} {c : Cell} {ty : FieldType} {k : ClassId} {z j : Int32} {vs : List Value} {dv v : Value} {N : Nat} (A : Arr Z h a c ty) (q1 : c.cls = k) (S : c.slots.size = z.toNatClampNeg) (q3 : ¬ z < 0) (H : Has c vs dv) (F : ∀ i, i < c.slots.size → fits ty (vs.getD i dv) = true) (hv : fits ty v = true) (W : Wr h h' a j.toNatClampNeg v) (i : Nat) (hj : j.toNatClampNeg = i) (hl : vs.length = N) (hi : i < N) :
    ∃ vs', vs'.length = N ∧ Arv Z h' a k ty z vs' dv := ⟨_, by rw [List.length_set]; exact hl, Arv.set A q1 S q3 H F hv W i hj (by rw [hl]; exact hi)⟩
end New
end Jvm.RoadKit
namespace Jvm.Pilot.@@N@@
open Jvm Jvm.ClassFile Sem Op Lib Jvm.Free Jvm.Stand Jvm.LawKit Jvm.RoadKit Bundle Jvm.Pilot.@@N@@.Jvm.D
def own_max (a b : Int32) : Int32 := if a < b then b else a
def own_e (bb : Int32 → Int32) (s t p : Int32) : Int32 := if p < s + 2 then 0 else if t < p then 0 else if ¬ bb (p - 1) = 10 then 0 else if bb (p - 2) = 10 then 1 else if p - 3 < s then 0 else if ¬ bb (p - 2) = 13 then 0 else if ¬ bb (p - 3) = 10 then 0 else 1
def own_h (bb : Int32 → Int32) (t : Int32) : Nat → Int32 → Int32
  | 0, _ => -1
  | k + 1, i => if ¬ i < t then -1 else if ¬ bb i = 10 then own_h bb t k (i + 1)
      else if i + 1 < t ∧ bb (i + 1) = 13 then (if i + 2 < t ∧ bb (i + 2) = 10 then i + 2 + 1 else own_h bb t k (i + 1))
      else (if i + 1 < t ∧ bb (i + 1) = 10 then i + 1 + 1 else own_h bb t k (i + 1))
def own_R (bb : Int32 → Int32) (s t : Int32) : Nat → Int32 → Int32
  | 0, _ => -1
  | k + 1, p => if own_e bb s t p = 0 then own_R bb s t k (p + 1) else p
def own_ref (bb : Int32 → Int32) (s t : Int32) : Int32 := if own_e bb s t 2 = 0 then (if own_e bb s t 3 = 0 then (if own_e bb s t 4 = 0 then (if own_e bb s t 5 = 0 then (if own_e bb s t 6 = 0 then (if own_e bb s t 7 = 0 then (if own_e bb s t 8 = 0 then -1 else 8) else 7) else 6) else 5) else 4) else 3) else 2
theorem own_add (a k : Int32) (n : Int) (hk : k.toInt = n) (h1 : -2147483648 ≤ a.toInt + n) (h2 : a.toInt + n < 2147483648) : (a + k).toInt = a.toInt + n := by
  have := c_iadd a k
  have := (a + k).le_toInt
  have := (a + k).toInt_lt
  omega
theorem own_sub (a k : Int32) (n : Int) (hk : k.toInt = n) (h1 : -2147483648 ≤ a.toInt - n) (h2 : a.toInt - n < 2147483648) : (a - k).toInt = a.toInt - n := by
  have := c_isub a k
  have := (a - k).le_toInt
  have := (a - k).toInt_lt
  omega
theorem own_max_le {f t i : Int32} (h0 : 0 ≤ f.toInt) (hi : i = own_max (0 : Int32) (f - (3 : Int32))) (h1 : f.toInt ≤ t.toInt := by assumption) : 0 ≤ i.toInt ∧ i.toInt ≤ t.toInt := by
  have e := own_sub f 3 3 (by decide) (by omega) (by have := f.toInt_lt; omega)
  have e0 : (0 : Int32).toInt = 0 := by decide
  subst hi
  unfold own_max
  split
  · rename_i h
    rw [Int32.lt_iff_toInt_lt] at h
    omega
  · omega
theorem own_bytes {Z : State} {h : Heap} {a : Addr} {k : ClassId} {vs : List Value} {dv : Value} (V : Arv Z h a k .byte (8 : Int32) vs dv) : ∃ (cl : Cell) (bb : Int32 → Int32), Arr Z h a cl .byte ∧ ∀ j : Int32, 0 ≤ j.toInt → j.toInt < 8 → ¬ (j < 0 ∨ cl.slots.size ≤ j.toNatClampNeg) ∧ cl.slots[j.toNatClampNeg]? = some (.int (bb j)) := by
  obtain ⟨c, A, q, S, N, H, F⟩ := V
  refine ⟨c, fun j => match vs.getD j.toNatClampNeg dv with | .int x => x | _ => 0, A, fun j h0 h8 => ?_⟩
  have e0 : (0 : Int32).toInt = 0 := by decide
  have e8 : (8 : Int32).toInt = 8 := by decide
  have hin := inb_of (j := j) S ⟨by rw [Int32.lt_iff_toInt_lt]; omega, by rw [Int32.lt_iff_toInt_lt]; omega⟩
  have hlt := Nat.lt_of_not_le fun q => hin (Or.inr q)
  obtain ⟨x, ex⟩ := fit_I (F _ hlt) (by simp)
  refine ⟨hin, ?_⟩
  rw [H _ hlt]
  simp only [ex]
theorem own_tt (p t : Int32) (h : t = (p &&& (255 : Int32)) % (9 : Int32)) : 0 ≤ t.toInt ∧ t.toInt ≤ 8 := by
  subst h
  have h1 := c_and p 255 (by decide)
  have h2 := (c_irem (p &&& 255) 9 9 (by decide)).1 h1.1
  rw [h2]
  omega
theorem own_nz (t : Int32) (h0 : 0 ≤ t.toInt) (h1 : t.toInt ≤ 8) : t + (1 : Int32) ≠ 0 := fun q => by
  have e := own_add t 1 1 (by decide) (by omega) (by omega)
  rw [q] at e
  have e0 : (0 : Int32).toInt = 0 := by decide
  omega
theorem own_ff (p t f : Int32) (h0 : 0 ≤ t.toInt) (h1 : t.toInt ≤ 8) (h : f = (p &&& (2147483647 : Int32)) % (t + (1 : Int32))) : 0 ≤ f.toInt ∧ f.toInt ≤ t.toInt := by
  subst h
  have e := own_add t 1 1 (by decide) (by omega) (by omega)
  have h2 := c_and p 2147483647 (by decide)
  have h3 := (c_irem (p &&& 2147483647) (t + 1) (t.toInt + 1) e).1 h2.1
  rw [h3]
  have := Int.emod_nonneg (p &&& 2147483647).toInt (b := t.toInt + 1) (by omega)
  have := Int.emod_lt_of_pos (p &&& 2147483647).toInt (b := t.toInt + 1) (by omega)
  omega
theorem own_ss (f s t : Int32) (h0 : 0 ≤ f.toInt) (h1 : f.toInt ≤ t.toInt) (h : s = (if f < (3 : Int32) then (0 : Int32) else (f - (3 : Int32)))) : 0 ≤ s.toInt ∧ s.toInt ≤ t.toInt := by
  have e := own_sub f 3 3 (by decide) (by omega) (by have := f.toInt_lt; omega)
  have e0 : (0 : Int32).toInt = 0 := by decide
  have e3 : (3 : Int32).toInt = 3 := by decide
  subst h
  split
  · omega
  · rename_i h
    rw [Int32.lt_iff_toInt_lt] at h
    omega
theorem own_R_none (bb : Int32 → Int32) (s t : Int32) (ht : t.toInt ≤ 8) : ∀ (m : Nat) (p : Int32), t.toInt < p.toInt → p.toInt + m < 100 → own_R bb s t m p = -1 := by
  intro m
  induction m with
  | zero => intro p _ _; rfl
  | succ m ih =>
    intro p h1 h2
    have := p.le_toInt
    have e := own_add p 1 1 (by decide) (by omega) (by omega)
    have he : own_e bb s t p = 0 := by
      unfold own_e
      have : t < p := Int32.lt_iff_toInt_lt.mpr h1
      simp [this]
    rw [own_R, if_pos he]
    exact ih _ (by omega) (by omega)
theorem own_step (bb : Int32 → Int32) (s t : Int32) (hs : 0 ≤ s.toInt) (ht : t.toInt ≤ 8) : ∀ (k m : Nat) (i : Int32), s.toInt ≤ i.toInt → i.toInt ≤ t.toInt → t.toInt - i.toInt < k → t.toInt - i.toInt - 1 ≤ m → m < 50 →
    (s.toInt < i.toInt → ¬ (bb (i - 1) = 10 ∧ bb i = 13 ∧ bb (i + 1) = 10 ∧ i.toInt + 2 ≤ t.toInt)) → own_h bb t k i = own_R bb s t m (i + 2) := by
  intro k
  induction k with
  | zero => intro m i h1 h2 h3; omega
  | succ k ih =>
    intro m i h1 h2 h3 h4 h5 inv
    have t1 := own_add i 1 1 (by decide) (by omega) (by omega)
    have t2 := own_add i 2 2 (by decide) (by omega) (by omega)
    have t3 := own_add s 2 2 (by decide) (by omega) (by omega)
    have a1 : i + 2 - 1 = i + 1 := by
      apply Int32.toInt_inj.mp
      rw [own_sub (i + 2) 1 1 (by decide) (by omega) (by omega)]; omega
    have a2 : i + 2 - 2 = i := by
      apply Int32.toInt_inj.mp
      rw [own_sub (i + 2) 2 2 (by decide) (by omega) (by omega)]; omega
    have a3 : i + 2 - 3 = i - 1 := by
      apply Int32.toInt_inj.mp
      rw [own_sub (i + 2) 3 3 (by decide) (by omega) (by omega), own_sub i 1 1 (by decide) (by omega) (by omega)]; omega
    have t4 := own_sub i 1 1 (by decide) (by omega) (by omega)
    have a4 : i + 2 + 1 = i + 1 + 2 := by
      apply Int32.toInt_inj.mp
      rw [own_add (i + 2) 1 1 (by decide) (by omega) (by omega), own_add (i + 1) 2 2 (by decide) (by omega) (by omega)]; omega
    have a5 : i + 1 + 1 = i + 2 := by
      apply Int32.toInt_inj.mp
      rw [own_add (i + 1) 1 1 (by decide) (by omega) (by omega)]; omega
    have a6 : i + 1 - 1 = i := by
      apply Int32.toInt_inj.mp
      rw [own_sub (i + 1) 1 1 (by decide) (by omega) (by omega)]; omega
    have t5 := own_add (i + 1) 2 2 (by decide) (by omega) (by omega)
    by_cases hit : i < t
    · have hit' := Int32.lt_iff_toInt_lt.mp hit
      by_cases hl : i.toInt + 2 ≤ t.toInt
      · obtain ⟨m, rfl⟩ : ∃ n, m = n + 1 := ⟨m - 1, by omega⟩
        have c1 : ¬ (i + 2 < s + 2) := by rw [Int32.lt_iff_toInt_lt]; omega
        have c2 : ¬ (t < i + 2) := by rw [Int32.lt_iff_toInt_lt]; omega
        have c3 : i + 1 < t := by rw [Int32.lt_iff_toInt_lt]; omega
        have next : own_h bb t k (i + 1) = own_R bb s t m (i + 1 + 2) ∨ (bb i = 10 ∧ bb (i + 1) = 13 ∧ bb (i + 2) = 10 ∧ i.toInt + 3 ≤ t.toInt) := by
          by_cases q : bb i = 10 ∧ bb (i + 1) = 13 ∧ bb (i + 2) = 10 ∧ i.toInt + 3 ≤ t.toInt
          · exact Or.inr q
          · refine Or.inl (ih m (i + 1) (by omega) (by omega) (by omega) (by omega) (by omega) fun _ z => q ?_)
            rw [a6, a5] at z
            exact ⟨z.1, z.2.1, z.2.2.1, by omega⟩
        rw [own_R, own_h]
        by_cases A0 : bb i = 10
        · by_cases A1 : bb (i + 1) = 10
          · have he : own_e bb s t (i + 2) = 1 := by
              unfold own_e; rw [a1, a2]; simp [c1, c2, A0, A1]
            rw [he, a5]
            simp [hit, A0, A1, c3]
          · have he : own_e bb s t (i + 2) = 0 := by
              unfold own_e; rw [a1, a2]; simp [c1, c2, A1]
            rw [he, if_pos rfl, a4]
            by_cases B1 : bb (i + 1) = 13
            · by_cases q : i + 2 < t ∧ bb (i + 2) = 10
              · obtain ⟨q1, q2⟩ := q
                have q1' := Int32.lt_iff_toInt_lt.mp q1
                obtain ⟨m, rfl⟩ : ∃ n, m = n + 1 := ⟨m - 1, by omega⟩
                have b1 : i + 1 + 2 - 1 = i + 2 := by
                  apply Int32.toInt_inj.mp
                  rw [own_sub (i + 1 + 2) 1 1 (by decide) (by omega) (by omega)]; omega
                have b2 : i + 1 + 2 - 2 = i + 1 := by
                  apply Int32.toInt_inj.mp
                  rw [own_sub (i + 1 + 2) 2 2 (by decide) (by omega) (by omega)]; omega
                have b3 : i + 1 + 2 - 3 = i := by
                  apply Int32.toInt_inj.mp
                  rw [own_sub (i + 1 + 2) 3 3 (by decide) (by omega) (by omega)]; omega
                have d1 : ¬ (i + 1 + 2 < s + 2) := by rw [Int32.lt_iff_toInt_lt]; omega
                have d2 : ¬ (t < i + 1 + 2) := by rw [Int32.lt_iff_toInt_lt]; omega
                have d3 : ¬ (i < s) := by rw [Int32.lt_iff_toInt_lt]; omega
                have he' : own_e bb s t (i + 1 + 2) = 1 := by
                  unfold own_e; rw [b1, b2, b3]; simp [d1, d2, d3, q2, A0, B1]
                rw [own_R, he']
                simp [hit, A0, B1, c3, q1, q2, a4]
              · have hn : own_h bb t k (i + 1) = own_R bb s t m (i + 1 + 2) := next.resolve_right fun z => q ⟨Int32.lt_iff_toInt_lt.mpr (by omega), z.2.2.1⟩
                rw [if_neg (by simp [hit]), if_neg (by simp [A0]), if_pos ⟨c3, B1⟩, if_neg q]
                exact hn
            · have hn : own_h bb t k (i + 1) = own_R bb s t m (i + 1 + 2) := next.resolve_right fun z => B1 z.2.1
              rw [if_neg (by simp [hit]), if_neg (by simp [A0]), if_neg (fun z => B1 z.2), if_neg (fun z => A1 z.2)]
              exact hn
        · have hn : own_h bb t k (i + 1) = own_R bb s t m (i + 1 + 2) := next.resolve_right fun z => A0 z.1
          have he : own_e bb s t (i + 2) = 0 := by
            unfold own_e; rw [a1, a2, a3, if_neg c1, if_neg c2]
            by_cases A1 : bb (i + 1) = 10
            · rw [if_neg (by simp [A1]), if_neg A0]
              by_cases d : i - 1 < s
              · rw [if_pos d]
              · rw [if_neg d]
                rw [Int32.lt_iff_toInt_lt] at d
                by_cases B0 : bb i = 13
                · rw [if_neg (by simp [B0])]
                  by_cases Am : bb (i - 1) = 10
                  · exact absurd ⟨Am, B0, A1, hl⟩ (inv (by omega))
                  · rw [if_pos Am]
                · rw [if_pos B0]
            · rw [if_pos A1]
          rw [he, if_pos rfl, a4, if_neg (by simp [hit]), if_pos A0]
          exact hn
      · have hR := own_R_none bb s t ht m (i + 2) (by omega) (by omega)
        rw [hR, own_h]
        have c3 : ¬ (i + 1 < t) := by rw [Int32.lt_iff_toInt_lt]; omega
        have hn : own_h bb t k (i + 1) = -1 := by
          cases k with
          | zero => rfl
          | succ k => rw [own_h, if_pos c3]
        simp [hit, c3, hn]
    · rw [own_h, if_pos hit, own_R_none bb s t ht m (i + 2) (by rw [Int32.lt_iff_toInt_lt] at hit; omega) (by omega)]
theorem own_skip (bb : Int32 → Int32) (s t : Int32) (hs : 0 ≤ s.toInt) (hs8 : s.toInt ≤ 8) : ∀ (n m : Nat) (p : Int32), p.toInt + n = s.toInt + 2 → 2 ≤ p.toInt → own_R bb s t (n + m) p = own_R bb s t m (s + 2) := by
  intro n
  have e2 := own_add s 2 2 (by decide) (by omega) (by omega)
  induction n with
  | zero =>
    intro m p h _
    obtain rfl : p = s + 2 := Int32.toInt_inj.mp (by omega)
    rw [Nat.zero_add]
  | succ n ih =>
    intro m p h h2
    have e := own_add p 1 1 (by decide) (by omega) (by omega)
    have he : own_e bb s t p = 0 := by
      unfold own_e
      have : p < s + 2 := Int32.lt_iff_toInt_lt.mpr (by omega)
      simp [this]
    rw [show n + 1 + m = (n + m) + 1 by omega, own_R, if_pos he]
    exact ih m (p + 1) (by omega) (by omega)
theorem own_main (bb : Int32 → Int32) (f t s : Int32) (h0 : 0 ≤ f.toInt) (h1 : f.toInt ≤ t.toInt) (h2 : t.toInt ≤ 8) (h : s = (if f < (3 : Int32) then (0 : Int32) else (f - (3 : Int32)))) : own_h bb t 9 (own_max 0 (f - 3)) = own_ref bb s t := by
  have e := own_sub f 3 3 (by decide) (by omega) (by omega)
  have e0 : (0 : Int32).toInt = 0 := by decide
  have e3 : (3 : Int32).toInt = 3 := by decide
  have hm : own_max 0 (f - 3) = s := by
    apply Int32.toInt_inj.mp
    subst h
    unfold own_max
    split <;> split <;> simp only [Int32.lt_iff_toInt_lt] at * <;> omega
  have hs : 0 ≤ s.toInt ∧ s.toInt ≤ 5 ∧ s.toInt ≤ t.toInt := by
    subst h
    split <;> simp only [Int32.lt_iff_toInt_lt] at * <;> omega
  rw [hm]
  have hR : own_ref bb s t = own_R bb s t 7 2 := rfl
  rw [hR]
  obtain ⟨n, hn⟩ : ∃ n : Nat, (n : Int) = s.toInt := ⟨s.toInt.toNat, by omega⟩
  have e2 : (2 : Int32).toInt = 2 := by decide
  have hk := own_skip bb s t hs.1 (by omega) n (7 - n) 2 (by omega) (by omega)
  rw [show n + (7 - n) = 7 by omega] at hk
  rw [hk]
  exact own_step bb s t hs.1 h2 9 (7 - n) s (by omega) hs.2.2 (by omega) (by omega) (by omega) (by omega)

theorem d1_0 : decode method_2_code 0 = .ok (.iload_n 0, 1) := by decide +kernel
theorem d1_1 : decode method_2_code 1 = .ok (.iconst 3, 1) := by decide +kernel
theorem d1_2 : decode method_2_code 2 = .ok (.iand, 1) := by decide +kernel
theorem d1_3 : decode method_2_code 3 = .ok (.istore_n 1, 1) := by decide +kernel
theorem d1_4 : decode method_2_code 4 = .ok (.iload_n 1, 1) := by decide +kernel
theorem d1_5 : decode method_2_code 5 = .ok (.ifCond .ne 6, 3) := by decide +kernel
theorem d1_8 : decode method_2_code 8 = .ok (.bipush 10, 2) := by decide +kernel
theorem d1_10 : decode method_2_code 10 = .ok (.ireturn, 1) := by decide +kernel
theorem d1_11 : decode method_2_code 11 = .ok (.iload_n 1, 1) := by decide +kernel
theorem d1_12 : decode method_2_code 12 = .ok (.iconst 1, 1) := by decide +kernel
theorem d1_13 : decode method_2_code 13 = .ok (.if_icmp .ne 6, 3) := by decide +kernel
theorem d1_16 : decode method_2_code 16 = .ok (.bipush 13, 2) := by decide +kernel
theorem d1_18 : decode method_2_code 18 = .ok (.ireturn, 1) := by decide +kernel
theorem d1_19 : decode method_2_code 19 = .ok (.iload_n 1, 1) := by decide +kernel
theorem d1_20 : decode method_2_code 20 = .ok (.iconst 2, 1) := by decide +kernel
theorem d1_21 : decode method_2_code 21 = .ok (.if_icmp .ne 6, 3) := by decide +kernel
theorem d1_24 : decode method_2_code 24 = .ok (.bipush 97, 2) := by decide +kernel
theorem d1_26 : decode method_2_code 26 = .ok (.ireturn, 1) := by decide +kernel
theorem d1_27 : decode method_2_code 27 = .ok (.bipush (-118), 2) := by decide +kernel
theorem d1_29 : decode method_2_code 29 = .ok (.ireturn, 1) := by decide +kernel
theorem pn_com_example_stavegate_stavegate_http_RequestHeadEndPinLaw : plainName "com/example/stavegate/stavegate/http/RequestHeadEndPinLaw" = true := by first | (simp [plainName, overriddenIn]; done) | decide +kernel
theorem ef_1 (m : MethodId) (p0 : Int32) : entryFrame m #[(.int p0)] 2 = mkF m 0 #[.val (.int p0), .unset] [] := by first | (simp [entryFrame, mkF, argsToLocals, Value.category]; done) | rfl
def Q1 (h0 : Heap) (n0 : Nat) (v : Option Value) (h : Heap) (L : List Loc) : Prop := ∃ z : Int32, v = some (.int z) ∧ Fr n0 L ∧ h = h0
set_option maxRecDepth 65536 in
set_option maxHeartbeats 40000000 in
theorem rm1 (l : Launch) (Z : State) (a0 : Array Value) (hw : ∀ d ∈ tables_1, d.before a0 Z = true) (ws : List Jvm.Cond) (p0 : Int32)  (h0 : Heap) (n0 : Nat) (Z0 : n0 ≤ h0.size)  :
    MetFree l (⟨"com/example/stavegate/stavegate/http/RequestHeadEndPinLaw", "pick", "(I)B"⟩ : MethodName) (head1 (Jvm.Cond.code (⟨"com/example/stavegate/stavegate/http/RequestHeadEndPinLaw", "pick", "(I)B"⟩ : MethodName) method_2_code 2 (some .byte) :: ws) ({ frames := 0, cells := 0, slots := 0, locals := 0 } : Room)) (fun a U => a = #[(.int p0)] ∧ Z.Warmed39 U.vm ∧ U.heap = h0) (fun _ _ _ _ _ => True) (fun _ U o U' => ∃ v L, o = .returned v ∧ Q1 h0 n0 v U'.heap L ∧ FrameEnd U o U' L ({ frames := 0, cells := 0, slots := 0, locals := 0 } : Room).cells ({ frames := 0, cells := 0, slots := 0, locals := 0 } : Room).slots) := by
  refine MetFree.of_bodySF (plainFor_of_name pn_com_example_stavegate_stavegate_http_RequestHeadEndPinLaw) hisR ?_
  intro p e s m args below meth c s₁ Bd hml0 hP hK
  obtain ⟨rfl, hZ, hh⟩ := hP
  have hx := Bd.exec
  have hby := Bd.bytes
  have hml : c.maxLocals = 2 := hml0
  have hown : s.vm.findClass "com/example/stavegate/stavegate/http/RequestHeadEndPinLaw" = some m.cls := findClass_of_methodNamed Bd.named
  have hnm := (name_of_methodNamed Bd.named Bd.method).1
  have X0 : Stand p l e ({ frames := 0, cells := 0, slots := 0, locals := 0 } : Room) s m #[(.int p0)] below meth c s₁ [] 0 0 := Stand.of_body Bd
  have e0 : s₁.heap = h0 := by rw [← hh, Bd.state]; rfl
  have N0 := Fr.nil n0
  have pre0 : ∀ t, Steps p.tables e below (s₁.setTop (mkF m 0 #[.val (.int p0), .unset] [])) t → Steps p.tables e below (s₁.setTop (entryFrame m #[(.int p0)] 2)) t := fun t k => castTop (ef_1 m p0) k
  have K0 := Keep.refl h0 []
  refine own_start pre0 fun G gs gl => ?_
  show G (s₁.setTop (mkF m 0 #[.val (.int p0), .unset] []))
  refine gs (fun t k => XS.iloadN X0.here hx rfl (hb hby d1_0) rfl k) ?_
  show G (s₁.setTop (mkF m 1 #[.val (.int p0), .unset] [(.int p0)]))
  refine gs (fun t k => XS.iconst X0.here hx rfl (hb hby d1_1) k) ?_
  show G (s₁.setTop (mkF m 2 #[.val (.int p0), .unset] [(.int (3 : Int32)), (.int p0)]))
  refine gs (fun t k => XS.iand X0.here hx rfl (hb hby d1_2) rfl k) ?_
  show G (s₁.setTop (mkF m 3 #[.val (.int p0), .unset] [(.int (p0 &&& (3 : Int32)))]))
  refine gs (fun t k => XS.istoreN X0.here hx rfl (hb hby d1_3) rfl (l' := #[.val (.int p0), .val (.int (p0 &&& (3 : Int32)))]) rfl k) ?_
  show G (s₁.setTop (mkF m 4 #[.val (.int p0), .val (.int (p0 &&& (3 : Int32)))] []))
  refine gs (fun t k => XS.iloadN X0.here hx rfl (hb hby d1_4) rfl k) ?_
  show G (s₁.setTop (mkF m 5 #[.val (.int p0), .val (.int (p0 &&& (3 : Int32)))] [(.int (p0 &&& (3 : Int32)))]))
  by_cases hc5 : (p0 &&& (3 : Int32)) = (0 : Int32)
  · refine gs (fun t k => XS.ifNo X0.here hx rfl (hb hby d1_5) rfl ((if0 _ _).trans (teq hc5).2) k) ?_
    show G (s₁.setTop (mkF m 8 #[.val (.int p0), .val (.int (p0 &&& (3 : Int32)))] []))
    refine gs (fun t k => XS.bipush X0.here hx rfl (hb hby d1_8) k) ?_
    show G (s₁.setTop (mkF m 10 #[.val (.int p0), .val (.int (p0 &&& (3 : Int32)))] [(.int (10 : Int32))]))
    obtain ⟨fs, hr, hrun, hended, hW, hsame⟩ := X0.leave (v := some (.int (10 : Int32))) (fun h => by rw [Bd.returns] at h; cases h)
    refine gl _ ⟨_, _, retN X0 hx (t := .byte) Bd.returns (by simp) (hb hby d1_10) hr, hrun, hended, _, _, rfl, ?_, ⟨_, rfl⟩, hW, hsame.mono (by decide) (by decide)⟩
    show Q1 h0 n0 _ s₁.heap _
    rw [e0]
    exact ⟨_, rfl, N0, rfl⟩
  · refine gs (fun t k => XS.ifYes X0.here hx rfl (pc0 := 5) (pc' := 11) rfl (hb hby d1_5) rfl ((if0 _ _).trans (feq hc5).2) (by decide) (by decide) k) ?_
    show G (s₁.setTop (mkF m 11 #[.val (.int p0), .val (.int (p0 &&& (3 : Int32)))] []))
    refine gs (fun t k => XS.iloadN X0.here hx rfl (hb hby d1_11) rfl k) ?_
    show G (s₁.setTop (mkF m 12 #[.val (.int p0), .val (.int (p0 &&& (3 : Int32)))] [(.int (p0 &&& (3 : Int32)))]))
    refine gs (fun t k => XS.iconst X0.here hx rfl (hb hby d1_12) k) ?_
    show G (s₁.setTop (mkF m 13 #[.val (.int p0), .val (.int (p0 &&& (3 : Int32)))] [(.int (1 : Int32)), (.int (p0 &&& (3 : Int32)))]))
    by_cases hc13 : (p0 &&& (3 : Int32)) = (1 : Int32)
    · refine gs (fun t k => XS.icmpNo X0.here hx rfl (hb hby d1_13) rfl (teq hc13).2 k) ?_
      show G (s₁.setTop (mkF m 16 #[.val (.int p0), .val (.int (p0 &&& (3 : Int32)))] []))
      refine gs (fun t k => XS.bipush X0.here hx rfl (hb hby d1_16) k) ?_
      show G (s₁.setTop (mkF m 18 #[.val (.int p0), .val (.int (p0 &&& (3 : Int32)))] [(.int (13 : Int32))]))
      obtain ⟨fs, hr, hrun, hended, hW, hsame⟩ := X0.leave (v := some (.int (13 : Int32))) (fun h => by rw [Bd.returns] at h; cases h)
      refine gl _ ⟨_, _, retN X0 hx (t := .byte) Bd.returns (by simp) (hb hby d1_18) hr, hrun, hended, _, _, rfl, ?_, ⟨_, rfl⟩, hW, hsame.mono (by decide) (by decide)⟩
      show Q1 h0 n0 _ s₁.heap _
      rw [e0]
      exact ⟨_, rfl, N0, rfl⟩
    · refine gs (fun t k => XS.icmpYes X0.here hx rfl (pc0 := 13) (pc' := 19) rfl (hb hby d1_13) rfl (feq hc13).2 (by decide) (by decide) k) ?_
      show G (s₁.setTop (mkF m 19 #[.val (.int p0), .val (.int (p0 &&& (3 : Int32)))] []))
      refine gs (fun t k => XS.iloadN X0.here hx rfl (hb hby d1_19) rfl k) ?_
      show G (s₁.setTop (mkF m 20 #[.val (.int p0), .val (.int (p0 &&& (3 : Int32)))] [(.int (p0 &&& (3 : Int32)))]))
      refine gs (fun t k => XS.iconst X0.here hx rfl (hb hby d1_20) k) ?_
      show G (s₁.setTop (mkF m 21 #[.val (.int p0), .val (.int (p0 &&& (3 : Int32)))] [(.int (2 : Int32)), (.int (p0 &&& (3 : Int32)))]))
      by_cases hc21 : (p0 &&& (3 : Int32)) = (2 : Int32)
      · refine gs (fun t k => XS.icmpNo X0.here hx rfl (hb hby d1_21) rfl (teq hc21).2 k) ?_
        show G (s₁.setTop (mkF m 24 #[.val (.int p0), .val (.int (p0 &&& (3 : Int32)))] []))
        refine gs (fun t k => XS.bipush X0.here hx rfl (hb hby d1_24) k) ?_
        show G (s₁.setTop (mkF m 26 #[.val (.int p0), .val (.int (p0 &&& (3 : Int32)))] [(.int (97 : Int32))]))
        obtain ⟨fs, hr, hrun, hended, hW, hsame⟩ := X0.leave (v := some (.int (97 : Int32))) (fun h => by rw [Bd.returns] at h; cases h)
        refine gl _ ⟨_, _, retN X0 hx (t := .byte) Bd.returns (by simp) (hb hby d1_26) hr, hrun, hended, _, _, rfl, ?_, ⟨_, rfl⟩, hW, hsame.mono (by decide) (by decide)⟩
        show Q1 h0 n0 _ s₁.heap _
        rw [e0]
        exact ⟨_, rfl, N0, rfl⟩
      · refine gs (fun t k => XS.icmpYes X0.here hx rfl (pc0 := 21) (pc' := 27) rfl (hb hby d1_21) rfl (feq hc21).2 (by decide) (by decide) k) ?_
        show G (s₁.setTop (mkF m 27 #[.val (.int p0), .val (.int (p0 &&& (3 : Int32)))] []))
        refine gs (fun t k => XS.bipush X0.here hx rfl (hb hby d1_27) k) ?_
        show G (s₁.setTop (mkF m 29 #[.val (.int p0), .val (.int (p0 &&& (3 : Int32)))] [(.int (-118 : Int32))]))
        obtain ⟨fs, hr, hrun, hended, hW, hsame⟩ := X0.leave (v := some (.int (-118 : Int32))) (fun h => by rw [Bd.returns] at h; cases h)
        refine gl _ ⟨_, _, retN X0 hx (t := .byte) Bd.returns (by simp) (hb hby d1_29) hr, hrun, hended, _, _, rfl, ?_, ⟨_, rfl⟩, hW, hsame.mono (by decide) (by decide)⟩
        show Q1 h0 n0 _ s₁.heap _
        rw [e0]
        exact ⟨_, rfl, N0, rfl⟩
theorem d2_0 : decode method_3_code 0 = .ok (.iload_n 3, 1) := by decide +kernel
theorem d2_1 : decode method_3_code 1 = .ok (.iload_n 1, 1) := by decide +kernel
theorem d2_2 : decode method_3_code 2 = .ok (.iconst 2, 1) := by decide +kernel
theorem d2_3 : decode method_3_code 3 = .ok (.iadd, 1) := by decide +kernel
theorem d2_4 : decode method_3_code 4 = .ok (.if_icmp .lt 8, 3) := by decide +kernel
theorem d2_7 : decode method_3_code 7 = .ok (.iload_n 3, 1) := by decide +kernel
theorem d2_8 : decode method_3_code 8 = .ok (.iload_n 2, 1) := by decide +kernel
theorem d2_9 : decode method_3_code 9 = .ok (.if_icmp .le 5, 3) := by decide +kernel
theorem d2_12 : decode method_3_code 12 = .ok (.iconst 0, 1) := by decide +kernel
theorem d2_13 : decode method_3_code 13 = .ok (.ireturn, 1) := by decide +kernel
theorem d2_14 : decode method_3_code 14 = .ok (.aload_n 0, 1) := by decide +kernel
theorem d2_15 : decode method_3_code 15 = .ok (.iload_n 3, 1) := by decide +kernel
theorem d2_16 : decode method_3_code 16 = .ok (.iconst 1, 1) := by decide +kernel
theorem d2_17 : decode method_3_code 17 = .ok (.isub, 1) := by decide +kernel
theorem d2_18 : decode method_3_code 18 = .ok (.baload, 1) := by decide +kernel
theorem d2_19 : decode method_3_code 19 = .ok (.bipush 10, 2) := by decide +kernel
theorem d2_21 : decode method_3_code 21 = .ok (.if_icmp .eq 5, 3) := by decide +kernel
theorem d2_24 : decode method_3_code 24 = .ok (.iconst 0, 1) := by decide +kernel
theorem d2_25 : decode method_3_code 25 = .ok (.ireturn, 1) := by decide +kernel
theorem d2_26 : decode method_3_code 26 = .ok (.aload_n 0, 1) := by decide +kernel
theorem d2_27 : decode method_3_code 27 = .ok (.iload_n 3, 1) := by decide +kernel
theorem d2_28 : decode method_3_code 28 = .ok (.iconst 2, 1) := by decide +kernel
theorem d2_29 : decode method_3_code 29 = .ok (.isub, 1) := by decide +kernel
theorem d2_30 : decode method_3_code 30 = .ok (.baload, 1) := by decide +kernel
theorem d2_31 : decode method_3_code 31 = .ok (.bipush 10, 2) := by decide +kernel
theorem d2_33 : decode method_3_code 33 = .ok (.if_icmp .ne 5, 3) := by decide +kernel
theorem d2_36 : decode method_3_code 36 = .ok (.iconst 1, 1) := by decide +kernel
theorem d2_37 : decode method_3_code 37 = .ok (.ireturn, 1) := by decide +kernel
theorem d2_38 : decode method_3_code 38 = .ok (.iload_n 3, 1) := by decide +kernel
theorem d2_39 : decode method_3_code 39 = .ok (.iconst 3, 1) := by decide +kernel
theorem d2_40 : decode method_3_code 40 = .ok (.isub, 1) := by decide +kernel
theorem d2_41 : decode method_3_code 41 = .ok (.iload_n 1, 1) := by decide +kernel
theorem d2_42 : decode method_3_code 42 = .ok (.if_icmp .lt 27, 3) := by decide +kernel
theorem d2_45 : decode method_3_code 45 = .ok (.aload_n 0, 1) := by decide +kernel
theorem d2_46 : decode method_3_code 46 = .ok (.iload_n 3, 1) := by decide +kernel
theorem d2_47 : decode method_3_code 47 = .ok (.iconst 2, 1) := by decide +kernel
theorem d2_48 : decode method_3_code 48 = .ok (.isub, 1) := by decide +kernel
theorem d2_49 : decode method_3_code 49 = .ok (.baload, 1) := by decide +kernel
theorem d2_50 : decode method_3_code 50 = .ok (.bipush 13, 2) := by decide +kernel
theorem d2_52 : decode method_3_code 52 = .ok (.if_icmp .ne 17, 3) := by decide +kernel
theorem d2_55 : decode method_3_code 55 = .ok (.aload_n 0, 1) := by decide +kernel
theorem d2_56 : decode method_3_code 56 = .ok (.iload_n 3, 1) := by decide +kernel
theorem d2_57 : decode method_3_code 57 = .ok (.iconst 3, 1) := by decide +kernel
theorem d2_58 : decode method_3_code 58 = .ok (.isub, 1) := by decide +kernel
theorem d2_59 : decode method_3_code 59 = .ok (.baload, 1) := by decide +kernel
theorem d2_60 : decode method_3_code 60 = .ok (.bipush 10, 2) := by decide +kernel
theorem d2_62 : decode method_3_code 62 = .ok (.if_icmp .ne 7, 3) := by decide +kernel
theorem d2_65 : decode method_3_code 65 = .ok (.iconst 1, 1) := by decide +kernel
theorem d2_66 : decode method_3_code 66 = .ok (.goto 4, 3) := by decide +kernel
theorem d2_69 : decode method_3_code 69 = .ok (.iconst 0, 1) := by decide +kernel
theorem d2_70 : decode method_3_code 70 = .ok (.ireturn, 1) := by decide +kernel
theorem ef_2 (m : MethodId) (a0_ : Addr) (ps : Int32) (pt : Int32) (pp : Int32) : entryFrame m #[(.ref a0_), (.int ps), (.int pt), (.int pp)] 4 = mkF m 0 #[.val (.ref a0_), .val (.int ps), .val (.int pt), .val (.int pp)] [] := by first | (simp [entryFrame, mkF, argsToLocals, Value.category]; done) | rfl
def Q2 (bb : Int32 → Int32) (ps pt pp : Int32) (h0 : Heap) (n0 : Nat) (v : Option Value) (h : Heap) (L : List Loc) : Prop := v = some (.int (own_e bb ps pt pp)) ∧ Fr n0 L ∧ h = h0
set_option maxRecDepth 65536 in
set_option maxHeartbeats 40000000 in
theorem rm2 (l : Launch) (Z : State) (a0 : Array Value) (hw : ∀ d ∈ tables_1, d.before a0 Z = true) (ws : List Jvm.Cond) (a0_ : Addr) (ps : Int32) (pt : Int32) (pp : Int32) (cl : Cell) (bb : Int32 → Int32) (h0 : Heap) (n0 : Nat) (Z0 : n0 ≤ h0.size) (Ar : Arr Z h0 a0_ cl .byte) (hb8 : ∀ j : Int32, 0 ≤ j.toInt → j.toInt < 8 → ¬ (j < 0 ∨ cl.slots.size ≤ j.toNatClampNeg) ∧ cl.slots[j.toNatClampNeg]? = some (.int (bb j))) (b0 : 0 ≤ ps.toInt) (b1 : ps.toInt ≤ 8) (b2 : 2 ≤ pp.toInt) (b3 : pp.toInt ≤ 8) :
    MetFree l (⟨"com/example/stavegate/stavegate/http/RequestHeadEndPinLaw", "endsAt", "([BIII)Z"⟩ : MethodName) (head1 (Jvm.Cond.code (⟨"com/example/stavegate/stavegate/http/RequestHeadEndPinLaw", "endsAt", "([BIII)Z"⟩ : MethodName) method_3_code 4 (some .boolean) :: ws) ({ frames := 0, cells := 0, slots := 0, locals := 0 } : Room)) (fun a U => a = #[(.ref a0_), (.int ps), (.int pt), (.int pp)] ∧ Z.Warmed39 U.vm ∧ U.heap = h0) (fun _ _ _ _ _ => True) (fun _ U o U' => ∃ v L, o = .returned v ∧ Q2 bb ps pt pp h0 n0 v U'.heap L ∧ FrameEnd U o U' L ({ frames := 0, cells := 0, slots := 0, locals := 0 } : Room).cells ({ frames := 0, cells := 0, slots := 0, locals := 0 } : Room).slots) := by
  refine MetFree.of_bodySF (plainFor_of_name pn_com_example_stavegate_stavegate_http_RequestHeadEndPinLaw) hisR ?_
  intro p e s m args below meth c s₁ Bd hml0 hP hK
  obtain ⟨rfl, hZ, hh⟩ := hP
  have hx := Bd.exec
  have hby := Bd.bytes
  have hml : c.maxLocals = 4 := hml0
  have hown : s.vm.findClass "com/example/stavegate/stavegate/http/RequestHeadEndPinLaw" = some m.cls := findClass_of_methodNamed Bd.named
  have hnm := (name_of_methodNamed Bd.named Bd.method).1
  have X0 : Stand p l e ({ frames := 0, cells := 0, slots := 0, locals := 0 } : Room) s m #[(.ref a0_), (.int ps), (.int pt), (.int pp)] below meth c s₁ [] 0 0 := Stand.of_body Bd
  have e0 : s₁.heap = h0 := by rw [← hh, Bd.state]; rfl
  have N0 := Fr.nil n0
  have pre0 : ∀ t, Steps p.tables e below (s₁.setTop (mkF m 0 #[.val (.ref a0_), .val (.int ps), .val (.int pt), .val (.int pp)] [])) t → Steps p.tables e below (s₁.setTop (entryFrame m #[(.ref a0_), (.int ps), (.int pt), (.int pp)] 4)) t := fun t k => castTop (ef_2 m a0_ ps pt pp) k
  have K0 := Keep.refl h0 []
  refine own_start pre0 fun G gs gl => ?_
  show G (s₁.setTop (mkF m 0 #[.val (.ref a0_), .val (.int ps), .val (.int pt), .val (.int pp)] []))
  have t1 := own_sub pp 1 1 (by decide) (by omega) (by omega)
  have t2 := own_sub pp 2 2 (by decide) (by omega) (by omega)
  have t3 := own_sub pp 3 3 (by decide) (by omega) (by omega)
  have t4 := own_add ps 2 2 (by decide) (by omega) (by omega)
  refine gs (fun t k => XS.iloadN X0.here hx rfl (hb hby d2_0) rfl k) ?_
  show G (s₁.setTop (mkF m 1 #[.val (.ref a0_), .val (.int ps), .val (.int pt), .val (.int pp)] [(.int pp)]))
  refine gs (fun t k => XS.iloadN X0.here hx rfl (hb hby d2_1) rfl k) ?_
  show G (s₁.setTop (mkF m 2 #[.val (.ref a0_), .val (.int ps), .val (.int pt), .val (.int pp)] [(.int ps), (.int pp)]))
  refine gs (fun t k => XS.iconst X0.here hx rfl (hb hby d2_2) k) ?_
  show G (s₁.setTop (mkF m 3 #[.val (.ref a0_), .val (.int ps), .val (.int pt), .val (.int pp)] [(.int (2 : Int32)), (.int ps), (.int pp)]))
  refine gs (fun t k => XS.iadd X0.here hx rfl (hb hby d2_3) rfl k) ?_
  show G (s₁.setTop (mkF m 4 #[.val (.ref a0_), .val (.int ps), .val (.int pt), .val (.int pp)] [(.int (ps + (2 : Int32))), (.int pp)]))
  by_cases hc4 : pp < (ps + (2 : Int32))
  · refine gs (fun t k => XS.icmpYes X0.here hx rfl (pc0 := 4) (pc' := 12) rfl (hb hby d2_4) rfl (tlt hc4).1 (by decide) (by decide) k) ?_
    show G (s₁.setTop (mkF m 12 #[.val (.ref a0_), .val (.int ps), .val (.int pt), .val (.int pp)] []))
    have i_hc4 := own_lt hc4
    refine gs (fun t k => XS.iconst X0.here hx rfl (hb hby d2_12) k) ?_
    show G (s₁.setTop (mkF m 13 #[.val (.ref a0_), .val (.int ps), .val (.int pt), .val (.int pp)] [(.int (0 : Int32))]))
    obtain ⟨fs, hr, hrun, hended, hW, hsame⟩ := X0.leave (v := some (.int (0 : Int32))) (fun h => by rw [Bd.returns] at h; cases h)
    refine gl _ ⟨_, _, retN X0 hx (t := .boolean) Bd.returns (by simp) (hb hby d2_13) hr, hrun, hended, _, _, rfl, ?_, ⟨_, rfl⟩, hW, hsame.mono (by decide) (by decide)⟩
    show Q2 bb ps pt pp h0 n0 _ s₁.heap _
    rw [e0]
    exact ⟨congrArg (fun z => some (Value.int z)) (by simp [own_e, hc4]), N0, rfl⟩
  · refine gs (fun t k => XS.icmpNo X0.here hx rfl (hb hby d2_4) rfl (flt hc4).1 k) ?_
    show G (s₁.setTop (mkF m 7 #[.val (.ref a0_), .val (.int ps), .val (.int pt), .val (.int pp)] []))
    have i_hc4 := own_nlt hc4
    refine gs (fun t k => XS.iloadN X0.here hx rfl (hb hby d2_7) rfl k) ?_
    show G (s₁.setTop (mkF m 8 #[.val (.ref a0_), .val (.int ps), .val (.int pt), .val (.int pp)] [(.int pp)]))
    refine gs (fun t k => XS.iloadN X0.here hx rfl (hb hby d2_8) rfl k) ?_
    show G (s₁.setTop (mkF m 9 #[.val (.ref a0_), .val (.int ps), .val (.int pt), .val (.int pp)] [(.int pt), (.int pp)]))
    by_cases hc9 : pt < pp
    · refine gs (fun t k => XS.icmpNo X0.here hx rfl (hb hby d2_9) rfl (tlt hc9).2.2.2 k) ?_
      show G (s₁.setTop (mkF m 12 #[.val (.ref a0_), .val (.int ps), .val (.int pt), .val (.int pp)] []))
      have i_hc9 := own_lt hc9
      refine gs (fun t k => XS.iconst X0.here hx rfl (hb hby d2_12) k) ?_
      show G (s₁.setTop (mkF m 13 #[.val (.ref a0_), .val (.int ps), .val (.int pt), .val (.int pp)] [(.int (0 : Int32))]))
      obtain ⟨fs, hr, hrun, hended, hW, hsame⟩ := X0.leave (v := some (.int (0 : Int32))) (fun h => by rw [Bd.returns] at h; cases h)
      refine gl _ ⟨_, _, retN X0 hx (t := .boolean) Bd.returns (by simp) (hb hby d2_13) hr, hrun, hended, _, _, rfl, ?_, ⟨_, rfl⟩, hW, hsame.mono (by decide) (by decide)⟩
      show Q2 bb ps pt pp h0 n0 _ s₁.heap _
      rw [e0]
      exact ⟨congrArg (fun z => some (Value.int z)) (by simp [own_e, hc4, hc9]), N0, rfl⟩
    · refine gs (fun t k => XS.icmpYes X0.here hx rfl (pc0 := 9) (pc' := 14) rfl (hb hby d2_9) rfl (flt hc9).2.2.2 (by decide) (by decide) k) ?_
      show G (s₁.setTop (mkF m 14 #[.val (.ref a0_), .val (.int ps), .val (.int pt), .val (.int pp)] []))
      have i_hc9 := own_nlt hc9
      refine gs (fun t k => XS.aloadN X0.here hx rfl (hb hby d2_14) rfl rfl k) ?_
      show G (s₁.setTop (mkF m 15 #[.val (.ref a0_), .val (.int ps), .val (.int pt), .val (.int pp)] [(.ref a0_)]))
      refine gs (fun t k => XS.iloadN X0.here hx rfl (hb hby d2_15) rfl k) ?_
      show G (s₁.setTop (mkF m 16 #[.val (.ref a0_), .val (.int ps), .val (.int pt), .val (.int pp)] [(.int pp), (.ref a0_)]))
      refine gs (fun t k => XS.iconst X0.here hx rfl (hb hby d2_16) k) ?_
      show G (s₁.setTop (mkF m 17 #[.val (.ref a0_), .val (.int ps), .val (.int pt), .val (.int pp)] [(.int (1 : Int32)), (.int pp), (.ref a0_)]))
      refine gs (fun t k => XS.isub X0.here hx rfl (hb hby d2_17) rfl k) ?_
      show G (s₁.setTop (mkF m 18 #[.val (.ref a0_), .val (.int ps), .val (.int pt), .val (.int pp)] [(.int (pp - (1 : Int32))), (.ref a0_)]))
      obtain ⟨hin1, hat1⟩ := hb8 (pp - (1 : Int32)) (by omega) (by omega)
      refine gs (fun t k => X0.baloadBytes hx (j := (pp - (1 : Int32))) (v := (.int (bb (pp - (1 : Int32))))) (by rw [e0]; exact Ar.1) (State.isArrayOf_alike hZ.alike Ar.2.1) Ar.2.2 hin1 hat1 (g := (mkF m 18 #[.val (.ref a0_), .val (.int ps), .val (.int pt), .val (.int pp)] [(.int (pp - (1 : Int32))), (.ref a0_)])) rfl rfl (hb hby d2_18) _ k) ?_
      show G (s₁.setTop (mkF m 19 #[.val (.ref a0_), .val (.int ps), .val (.int pt), .val (.int pp)] [(.int (bb (pp - (1 : Int32))))]))
      refine gs (fun t k => XS.bipush X0.here hx rfl (hb hby d2_19) k) ?_
      show G (s₁.setTop (mkF m 21 #[.val (.ref a0_), .val (.int ps), .val (.int pt), .val (.int pp)] [(.int (10 : Int32)), (.int (bb (pp - (1 : Int32))))]))
      by_cases hc21 : (bb (pp - (1 : Int32))) = (10 : Int32)
      · refine gs (fun t k => XS.icmpYes X0.here hx rfl (pc0 := 21) (pc' := 26) rfl (hb hby d2_21) rfl (teq hc21).1 (by decide) (by decide) k) ?_
        show G (s₁.setTop (mkF m 26 #[.val (.ref a0_), .val (.int ps), .val (.int pt), .val (.int pp)] []))
        refine gs (fun t k => XS.aloadN X0.here hx rfl (hb hby d2_26) rfl rfl k) ?_
        show G (s₁.setTop (mkF m 27 #[.val (.ref a0_), .val (.int ps), .val (.int pt), .val (.int pp)] [(.ref a0_)]))
        refine gs (fun t k => XS.iloadN X0.here hx rfl (hb hby d2_27) rfl k) ?_
        show G (s₁.setTop (mkF m 28 #[.val (.ref a0_), .val (.int ps), .val (.int pt), .val (.int pp)] [(.int pp), (.ref a0_)]))
        refine gs (fun t k => XS.iconst X0.here hx rfl (hb hby d2_28) k) ?_
        show G (s₁.setTop (mkF m 29 #[.val (.ref a0_), .val (.int ps), .val (.int pt), .val (.int pp)] [(.int (2 : Int32)), (.int pp), (.ref a0_)]))
        refine gs (fun t k => XS.isub X0.here hx rfl (hb hby d2_29) rfl k) ?_
        show G (s₁.setTop (mkF m 30 #[.val (.ref a0_), .val (.int ps), .val (.int pt), .val (.int pp)] [(.int (pp - (2 : Int32))), (.ref a0_)]))
        obtain ⟨hin2, hat2⟩ := hb8 (pp - (2 : Int32)) (by omega) (by omega)
        refine gs (fun t k => X0.baloadBytes hx (j := (pp - (2 : Int32))) (v := (.int (bb (pp - (2 : Int32))))) (by rw [e0]; exact Ar.1) (State.isArrayOf_alike hZ.alike Ar.2.1) Ar.2.2 hin2 hat2 (g := (mkF m 30 #[.val (.ref a0_), .val (.int ps), .val (.int pt), .val (.int pp)] [(.int (pp - (2 : Int32))), (.ref a0_)])) rfl rfl (hb hby d2_30) _ k) ?_
        show G (s₁.setTop (mkF m 31 #[.val (.ref a0_), .val (.int ps), .val (.int pt), .val (.int pp)] [(.int (bb (pp - (2 : Int32))))]))
        refine gs (fun t k => XS.bipush X0.here hx rfl (hb hby d2_31) k) ?_
        show G (s₁.setTop (mkF m 33 #[.val (.ref a0_), .val (.int ps), .val (.int pt), .val (.int pp)] [(.int (10 : Int32)), (.int (bb (pp - (2 : Int32))))]))
        by_cases hc33 : (bb (pp - (2 : Int32))) = (10 : Int32)
        · refine gs (fun t k => XS.icmpNo X0.here hx rfl (hb hby d2_33) rfl (teq hc33).2 k) ?_
          show G (s₁.setTop (mkF m 36 #[.val (.ref a0_), .val (.int ps), .val (.int pt), .val (.int pp)] []))
          refine gs (fun t k => XS.iconst X0.here hx rfl (hb hby d2_36) k) ?_
          show G (s₁.setTop (mkF m 37 #[.val (.ref a0_), .val (.int ps), .val (.int pt), .val (.int pp)] [(.int (1 : Int32))]))
          obtain ⟨fs, hr, hrun, hended, hW, hsame⟩ := X0.leave (v := some (.int (1 : Int32))) (fun h => by rw [Bd.returns] at h; cases h)
          refine gl _ ⟨_, _, retN X0 hx (t := .boolean) Bd.returns (by simp) (hb hby d2_37) hr, hrun, hended, _, _, rfl, ?_, ⟨_, rfl⟩, hW, hsame.mono (by decide) (by decide)⟩
          show Q2 bb ps pt pp h0 n0 _ s₁.heap _
          rw [e0]
          exact ⟨congrArg (fun z => some (Value.int z)) (by simp [own_e, hc4, hc9, hc21, hc33]), N0, rfl⟩
        · refine gs (fun t k => XS.icmpYes X0.here hx rfl (pc0 := 33) (pc' := 38) rfl (hb hby d2_33) rfl (feq hc33).2 (by decide) (by decide) k) ?_
          show G (s₁.setTop (mkF m 38 #[.val (.ref a0_), .val (.int ps), .val (.int pt), .val (.int pp)] []))
          refine gs (fun t k => XS.iloadN X0.here hx rfl (hb hby d2_38) rfl k) ?_
          show G (s₁.setTop (mkF m 39 #[.val (.ref a0_), .val (.int ps), .val (.int pt), .val (.int pp)] [(.int pp)]))
          refine gs (fun t k => XS.iconst X0.here hx rfl (hb hby d2_39) k) ?_
          show G (s₁.setTop (mkF m 40 #[.val (.ref a0_), .val (.int ps), .val (.int pt), .val (.int pp)] [(.int (3 : Int32)), (.int pp)]))
          refine gs (fun t k => XS.isub X0.here hx rfl (hb hby d2_40) rfl k) ?_
          show G (s₁.setTop (mkF m 41 #[.val (.ref a0_), .val (.int ps), .val (.int pt), .val (.int pp)] [(.int (pp - (3 : Int32)))]))
          refine gs (fun t k => XS.iloadN X0.here hx rfl (hb hby d2_41) rfl k) ?_
          show G (s₁.setTop (mkF m 42 #[.val (.ref a0_), .val (.int ps), .val (.int pt), .val (.int pp)] [(.int ps), (.int (pp - (3 : Int32)))]))
          by_cases hc42 : (pp - (3 : Int32)) < ps
          · refine gs (fun t k => XS.icmpYes X0.here hx rfl (pc0 := 42) (pc' := 69) rfl (hb hby d2_42) rfl (tlt hc42).1 (by decide) (by decide) k) ?_
            show G (s₁.setTop (mkF m 69 #[.val (.ref a0_), .val (.int ps), .val (.int pt), .val (.int pp)] []))
            have i_hc42 := own_lt hc42
            refine gs (fun t k => XS.iconst X0.here hx rfl (hb hby d2_69) k) ?_
            show G (s₁.setTop (mkF m 70 #[.val (.ref a0_), .val (.int ps), .val (.int pt), .val (.int pp)] [(.int (0 : Int32))]))
            obtain ⟨fs, hr, hrun, hended, hW, hsame⟩ := X0.leave (v := some (.int (0 : Int32))) (fun h => by rw [Bd.returns] at h; cases h)
            refine gl _ ⟨_, _, retN X0 hx (t := .boolean) Bd.returns (by simp) (hb hby d2_70) hr, hrun, hended, _, _, rfl, ?_, ⟨_, rfl⟩, hW, hsame.mono (by decide) (by decide)⟩
            show Q2 bb ps pt pp h0 n0 _ s₁.heap _
            rw [e0]
            exact ⟨congrArg (fun z => some (Value.int z)) (by simp [own_e, hc4, hc9, hc21, hc33, hc42]), N0, rfl⟩
          · refine gs (fun t k => XS.icmpNo X0.here hx rfl (hb hby d2_42) rfl (flt hc42).1 k) ?_
            show G (s₁.setTop (mkF m 45 #[.val (.ref a0_), .val (.int ps), .val (.int pt), .val (.int pp)] []))
            have i_hc42 := own_nlt hc42
            refine gs (fun t k => XS.aloadN X0.here hx rfl (hb hby d2_45) rfl rfl k) ?_
            show G (s₁.setTop (mkF m 46 #[.val (.ref a0_), .val (.int ps), .val (.int pt), .val (.int pp)] [(.ref a0_)]))
            refine gs (fun t k => XS.iloadN X0.here hx rfl (hb hby d2_46) rfl k) ?_
            show G (s₁.setTop (mkF m 47 #[.val (.ref a0_), .val (.int ps), .val (.int pt), .val (.int pp)] [(.int pp), (.ref a0_)]))
            refine gs (fun t k => XS.iconst X0.here hx rfl (hb hby d2_47) k) ?_
            show G (s₁.setTop (mkF m 48 #[.val (.ref a0_), .val (.int ps), .val (.int pt), .val (.int pp)] [(.int (2 : Int32)), (.int pp), (.ref a0_)]))
            refine gs (fun t k => XS.isub X0.here hx rfl (hb hby d2_48) rfl k) ?_
            show G (s₁.setTop (mkF m 49 #[.val (.ref a0_), .val (.int ps), .val (.int pt), .val (.int pp)] [(.int (pp - (2 : Int32))), (.ref a0_)]))
            obtain ⟨hin3, hat3⟩ := hb8 (pp - (2 : Int32)) (by omega) (by omega)
            refine gs (fun t k => X0.baloadBytes hx (j := (pp - (2 : Int32))) (v := (.int (bb (pp - (2 : Int32))))) (by rw [e0]; exact Ar.1) (State.isArrayOf_alike hZ.alike Ar.2.1) Ar.2.2 hin3 hat3 (g := (mkF m 49 #[.val (.ref a0_), .val (.int ps), .val (.int pt), .val (.int pp)] [(.int (pp - (2 : Int32))), (.ref a0_)])) rfl rfl (hb hby d2_49) _ k) ?_
            show G (s₁.setTop (mkF m 50 #[.val (.ref a0_), .val (.int ps), .val (.int pt), .val (.int pp)] [(.int (bb (pp - (2 : Int32))))]))
            refine gs (fun t k => XS.bipush X0.here hx rfl (hb hby d2_50) k) ?_
            show G (s₁.setTop (mkF m 52 #[.val (.ref a0_), .val (.int ps), .val (.int pt), .val (.int pp)] [(.int (13 : Int32)), (.int (bb (pp - (2 : Int32))))]))
            by_cases hc52 : (bb (pp - (2 : Int32))) = (13 : Int32)
            · refine gs (fun t k => XS.icmpNo X0.here hx rfl (hb hby d2_52) rfl (teq hc52).2 k) ?_
              show G (s₁.setTop (mkF m 55 #[.val (.ref a0_), .val (.int ps), .val (.int pt), .val (.int pp)] []))
              refine gs (fun t k => XS.aloadN X0.here hx rfl (hb hby d2_55) rfl rfl k) ?_
              show G (s₁.setTop (mkF m 56 #[.val (.ref a0_), .val (.int ps), .val (.int pt), .val (.int pp)] [(.ref a0_)]))
              refine gs (fun t k => XS.iloadN X0.here hx rfl (hb hby d2_56) rfl k) ?_
              show G (s₁.setTop (mkF m 57 #[.val (.ref a0_), .val (.int ps), .val (.int pt), .val (.int pp)] [(.int pp), (.ref a0_)]))
              refine gs (fun t k => XS.iconst X0.here hx rfl (hb hby d2_57) k) ?_
              show G (s₁.setTop (mkF m 58 #[.val (.ref a0_), .val (.int ps), .val (.int pt), .val (.int pp)] [(.int (3 : Int32)), (.int pp), (.ref a0_)]))
              refine gs (fun t k => XS.isub X0.here hx rfl (hb hby d2_58) rfl k) ?_
              show G (s₁.setTop (mkF m 59 #[.val (.ref a0_), .val (.int ps), .val (.int pt), .val (.int pp)] [(.int (pp - (3 : Int32))), (.ref a0_)]))
              obtain ⟨hin4, hat4⟩ := hb8 (pp - (3 : Int32)) (by omega) (by omega)
              refine gs (fun t k => X0.baloadBytes hx (j := (pp - (3 : Int32))) (v := (.int (bb (pp - (3 : Int32))))) (by rw [e0]; exact Ar.1) (State.isArrayOf_alike hZ.alike Ar.2.1) Ar.2.2 hin4 hat4 (g := (mkF m 59 #[.val (.ref a0_), .val (.int ps), .val (.int pt), .val (.int pp)] [(.int (pp - (3 : Int32))), (.ref a0_)])) rfl rfl (hb hby d2_59) _ k) ?_
              show G (s₁.setTop (mkF m 60 #[.val (.ref a0_), .val (.int ps), .val (.int pt), .val (.int pp)] [(.int (bb (pp - (3 : Int32))))]))
              refine gs (fun t k => XS.bipush X0.here hx rfl (hb hby d2_60) k) ?_
              show G (s₁.setTop (mkF m 62 #[.val (.ref a0_), .val (.int ps), .val (.int pt), .val (.int pp)] [(.int (10 : Int32)), (.int (bb (pp - (3 : Int32))))]))
              by_cases hc62 : (bb (pp - (3 : Int32))) = (10 : Int32)
              · refine gs (fun t k => XS.icmpNo X0.here hx rfl (hb hby d2_62) rfl (teq hc62).2 k) ?_
                show G (s₁.setTop (mkF m 65 #[.val (.ref a0_), .val (.int ps), .val (.int pt), .val (.int pp)] []))
                refine gs (fun t k => XS.iconst X0.here hx rfl (hb hby d2_65) k) ?_
                show G (s₁.setTop (mkF m 66 #[.val (.ref a0_), .val (.int ps), .val (.int pt), .val (.int pp)] [(.int (1 : Int32))]))
                refine gs (fun t k => XS.goto X0.here hx rfl (pc0 := 66) (pc' := 70) rfl (hb hby d2_66) (by decide) (by decide) k) ?_
                show G (s₁.setTop (mkF m 70 #[.val (.ref a0_), .val (.int ps), .val (.int pt), .val (.int pp)] [(.int (1 : Int32))]))
                obtain ⟨fs, hr, hrun, hended, hW, hsame⟩ := X0.leave (v := some (.int (1 : Int32))) (fun h => by rw [Bd.returns] at h; cases h)
                refine gl _ ⟨_, _, retN X0 hx (t := .boolean) Bd.returns (by simp) (hb hby d2_70) hr, hrun, hended, _, _, rfl, ?_, ⟨_, rfl⟩, hW, hsame.mono (by decide) (by decide)⟩
                show Q2 bb ps pt pp h0 n0 _ s₁.heap _
                rw [e0]
                exact ⟨congrArg (fun z => some (Value.int z)) (by simp [own_e, hc4, hc9, hc21, hc33, hc42, hc52, hc62]), N0, rfl⟩
              · refine gs (fun t k => XS.icmpYes X0.here hx rfl (pc0 := 62) (pc' := 69) rfl (hb hby d2_62) rfl (feq hc62).2 (by decide) (by decide) k) ?_
                show G (s₁.setTop (mkF m 69 #[.val (.ref a0_), .val (.int ps), .val (.int pt), .val (.int pp)] []))
                refine gs (fun t k => XS.iconst X0.here hx rfl (hb hby d2_69) k) ?_
                show G (s₁.setTop (mkF m 70 #[.val (.ref a0_), .val (.int ps), .val (.int pt), .val (.int pp)] [(.int (0 : Int32))]))
                obtain ⟨fs, hr, hrun, hended, hW, hsame⟩ := X0.leave (v := some (.int (0 : Int32))) (fun h => by rw [Bd.returns] at h; cases h)
                refine gl _ ⟨_, _, retN X0 hx (t := .boolean) Bd.returns (by simp) (hb hby d2_70) hr, hrun, hended, _, _, rfl, ?_, ⟨_, rfl⟩, hW, hsame.mono (by decide) (by decide)⟩
                show Q2 bb ps pt pp h0 n0 _ s₁.heap _
                rw [e0]
                exact ⟨congrArg (fun z => some (Value.int z)) (by simp [own_e, hc4, hc9, hc21, hc33, hc42, hc52, hc62]), N0, rfl⟩
            · refine gs (fun t k => XS.icmpYes X0.here hx rfl (pc0 := 52) (pc' := 69) rfl (hb hby d2_52) rfl (feq hc52).2 (by decide) (by decide) k) ?_
              show G (s₁.setTop (mkF m 69 #[.val (.ref a0_), .val (.int ps), .val (.int pt), .val (.int pp)] []))
              refine gs (fun t k => XS.iconst X0.here hx rfl (hb hby d2_69) k) ?_
              show G (s₁.setTop (mkF m 70 #[.val (.ref a0_), .val (.int ps), .val (.int pt), .val (.int pp)] [(.int (0 : Int32))]))
              obtain ⟨fs, hr, hrun, hended, hW, hsame⟩ := X0.leave (v := some (.int (0 : Int32))) (fun h => by rw [Bd.returns] at h; cases h)
              refine gl _ ⟨_, _, retN X0 hx (t := .boolean) Bd.returns (by simp) (hb hby d2_70) hr, hrun, hended, _, _, rfl, ?_, ⟨_, rfl⟩, hW, hsame.mono (by decide) (by decide)⟩
              show Q2 bb ps pt pp h0 n0 _ s₁.heap _
              rw [e0]
              exact ⟨congrArg (fun z => some (Value.int z)) (by simp [own_e, hc4, hc9, hc21, hc33, hc42, hc52]), N0, rfl⟩
      · refine gs (fun t k => XS.icmpNo X0.here hx rfl (hb hby d2_21) rfl (feq hc21).1 k) ?_
        show G (s₁.setTop (mkF m 24 #[.val (.ref a0_), .val (.int ps), .val (.int pt), .val (.int pp)] []))
        refine gs (fun t k => XS.iconst X0.here hx rfl (hb hby d2_24) k) ?_
        show G (s₁.setTop (mkF m 25 #[.val (.ref a0_), .val (.int ps), .val (.int pt), .val (.int pp)] [(.int (0 : Int32))]))
        obtain ⟨fs, hr, hrun, hended, hW, hsame⟩ := X0.leave (v := some (.int (0 : Int32))) (fun h => by rw [Bd.returns] at h; cases h)
        refine gl _ ⟨_, _, retN X0 hx (t := .boolean) Bd.returns (by simp) (hb hby d2_25) hr, hrun, hended, _, _, rfl, ?_, ⟨_, rfl⟩, hW, hsame.mono (by decide) (by decide)⟩
        show Q2 bb ps pt pp h0 n0 _ s₁.heap _
        rw [e0]
        exact ⟨congrArg (fun z => some (Value.int z)) (by simp [own_e, hc4, hc9, hc21]), N0, rfl⟩
theorem d4_0 : decode jdk_29_method_65_code 0 = .ok (.iload_n 0, 1) := by decide +kernel
theorem d4_1 : decode jdk_29_method_65_code 1 = .ok (.iload_n 1, 1) := by decide +kernel
theorem d4_2 : decode jdk_29_method_65_code 2 = .ok (.if_icmp .lt 7, 3) := by decide +kernel
theorem d4_5 : decode jdk_29_method_65_code 5 = .ok (.iload_n 0, 1) := by decide +kernel
theorem d4_6 : decode jdk_29_method_65_code 6 = .ok (.goto 4, 3) := by decide +kernel
theorem d4_9 : decode jdk_29_method_65_code 9 = .ok (.iload_n 1, 1) := by decide +kernel
theorem d4_10 : decode jdk_29_method_65_code 10 = .ok (.ireturn, 1) := by decide +kernel
theorem ef_4 (m : MethodId) (p0 : Int32) (p1 : Int32) : entryFrame m #[(.int p0), (.int p1)] 2 = mkF m 0 #[.val (.int p0), .val (.int p1)] [] := by first | (simp [entryFrame, mkF, argsToLocals, Value.category]; done) | rfl
def Q4 (p0 p1 : Int32) (h0 : Heap) (n0 : Nat) (v : Option Value) (h : Heap) (L : List Loc) : Prop := v = some (.int (own_max p0 p1)) ∧ Fr n0 L ∧ h = h0
set_option maxRecDepth 65536 in
set_option maxHeartbeats 40000000 in
theorem rm4 (l : Launch) (Z : State) (a0 : Array Value) (hw : ∀ d ∈ tables_1, d.before a0 Z = true) (ws : List Jvm.Cond) (p0 : Int32) (p1 : Int32)  (h0 : Heap) (n0 : Nat) (Z0 : n0 ≤ h0.size)  :
    MetFree l (⟨"java/lang/Math", "max", "(II)I"⟩ : MethodName) (head1 (Jvm.Cond.code (⟨"java/lang/Math", "max", "(II)I"⟩ : MethodName) jdk_29_method_65_code 2 (some .int) :: ws) ({ frames := 0, cells := 0, slots := 0, locals := 0 } : Room)) (fun a U => a = #[(.int p0), (.int p1)] ∧ Z.Warmed39 U.vm ∧ U.heap = h0) (fun _ _ _ _ _ => True) (fun _ U o U' => ∃ v L, o = .returned v ∧ Q4 p0 p1 h0 n0 v U'.heap L ∧ FrameEnd U o U' L ({ frames := 0, cells := 0, slots := 0, locals := 0 } : Room).cells ({ frames := 0, cells := 0, slots := 0, locals := 0 } : Room).slots) := by
  refine MetFree.of_bodySF (Jvm.Free.JP.mathPlain rfl (by decide +kernel)) hisR ?_
  intro p e s m args below meth c s₁ Bd hml0 hP hK
  obtain ⟨rfl, hZ, hh⟩ := hP
  have hx := Bd.exec
  have hby := Bd.bytes
  have hml : c.maxLocals = 2 := hml0
  have hown : s.vm.findClass "java/lang/Math" = some m.cls := findClass_of_methodNamed Bd.named
  have hnm := (name_of_methodNamed Bd.named Bd.method).1
  have X0 : Stand p l e ({ frames := 0, cells := 0, slots := 0, locals := 0 } : Room) s m #[(.int p0), (.int p1)] below meth c s₁ [] 0 0 := Stand.of_body Bd
  have e0 : s₁.heap = h0 := by rw [← hh, Bd.state]; rfl
  have N0 := Fr.nil n0
  have pre0 : ∀ t, Steps p.tables e below (s₁.setTop (mkF m 0 #[.val (.int p0), .val (.int p1)] [])) t → Steps p.tables e below (s₁.setTop (entryFrame m #[(.int p0), (.int p1)] 2)) t := fun t k => castTop (ef_4 m p0 p1) k
  have K0 := Keep.refl h0 []
  refine own_start pre0 fun G gs gl => ?_
  show G (s₁.setTop (mkF m 0 #[.val (.int p0), .val (.int p1)] []))
  refine gs (fun t k => XS.iloadN X0.here hx rfl (hb hby d4_0) rfl k) ?_
  show G (s₁.setTop (mkF m 1 #[.val (.int p0), .val (.int p1)] [(.int p0)]))
  refine gs (fun t k => XS.iloadN X0.here hx rfl (hb hby d4_1) rfl k) ?_
  show G (s₁.setTop (mkF m 2 #[.val (.int p0), .val (.int p1)] [(.int p1), (.int p0)]))
  by_cases hc2 : p0 < p1
  · refine gs (fun t k => XS.icmpYes X0.here hx rfl (pc0 := 2) (pc' := 9) rfl (hb hby d4_2) rfl (tlt hc2).1 (by decide) (by decide) k) ?_
    show G (s₁.setTop (mkF m 9 #[.val (.int p0), .val (.int p1)] []))
    refine gs (fun t k => XS.iloadN X0.here hx rfl (hb hby d4_9) rfl k) ?_
    show G (s₁.setTop (mkF m 10 #[.val (.int p0), .val (.int p1)] [(.int p1)]))
    obtain ⟨fs, hr, hrun, hended, hW, hsame⟩ := X0.leave (v := some (.int p1)) (fun h => by rw [Bd.returns] at h; cases h)
    refine gl _ ⟨_, _, own_retI X0 hx Bd.returns (hb hby d4_10) hr, hrun, hended, _, _, rfl, ?_, ⟨_, rfl⟩, hW, hsame.mono (by decide) (by decide)⟩
    show Q4 p0 p1 h0 n0 _ s₁.heap _
    rw [e0]
    exact ⟨congrArg (fun z => some (Value.int z)) (by simp [own_max, hc2]), N0, rfl⟩
  · refine gs (fun t k => XS.icmpNo X0.here hx rfl (hb hby d4_2) rfl (flt hc2).1 k) ?_
    show G (s₁.setTop (mkF m 5 #[.val (.int p0), .val (.int p1)] []))
    refine gs (fun t k => XS.iloadN X0.here hx rfl (hb hby d4_5) rfl k) ?_
    show G (s₁.setTop (mkF m 6 #[.val (.int p0), .val (.int p1)] [(.int p0)]))
    refine gs (fun t k => XS.goto X0.here hx rfl (pc0 := 6) (pc' := 10) rfl (hb hby d4_6) (by decide) (by decide) k) ?_
    show G (s₁.setTop (mkF m 10 #[.val (.int p0), .val (.int p1)] [(.int p0)]))
    obtain ⟨fs, hr, hrun, hended, hW, hsame⟩ := X0.leave (v := some (.int p0)) (fun h => by rw [Bd.returns] at h; cases h)
    refine gl _ ⟨_, _, own_retI X0 hx Bd.returns (hb hby d4_10) hr, hrun, hended, _, _, rfl, ?_, ⟨_, rfl⟩, hW, hsame.mono (by decide) (by decide)⟩
    show Q4 p0 p1 h0 n0 _ s₁.heap _
    rw [e0]
    exact ⟨congrArg (fun z => some (Value.int z)) (by simp [own_max, hc2]), N0, rfl⟩
theorem pd_0 : parseMethodDescriptor "(II)I" = some ⟨[.int, .int], some .int⟩ := by decide +kernel
theorem d3_0 : decode prog_66_method_4_code 0 = .ok (.iconst 0, 1) := by decide +kernel
theorem d3_1 : decode prog_66_method_4_code 1 = .ok (.iload_n 1, 1) := by decide +kernel
theorem d3_2 : decode prog_66_method_4_code 2 = .ok (.iconst 3, 1) := by decide +kernel
theorem d3_3 : decode prog_66_method_4_code 3 = .ok (.isub, 1) := by decide +kernel
theorem d3_4 : decode prog_66_method_4_code 4 = .ok (.invokestatic 44, 3) := by decide +kernel
theorem d3_7 : decode prog_66_method_4_code 7 = .ok (.istore_n 3, 1) := by decide +kernel
theorem d3_8 : decode prog_66_method_4_code 8 = .ok (.iload_n 3, 1) := by decide +kernel
theorem d3_9 : decode prog_66_method_4_code 9 = .ok (.iload_n 2, 1) := by decide +kernel
theorem d3_10 : decode prog_66_method_4_code 10 = .ok (.if_icmp .ge 65, 3) := by decide +kernel
theorem d3_13 : decode prog_66_method_4_code 13 = .ok (.aload_n 0, 1) := by decide +kernel
theorem d3_14 : decode prog_66_method_4_code 14 = .ok (.iload_n 3, 1) := by decide +kernel
theorem d3_15 : decode prog_66_method_4_code 15 = .ok (.baload, 1) := by decide +kernel
theorem d3_16 : decode prog_66_method_4_code 16 = .ok (.bipush 10, 2) := by decide +kernel
theorem d3_18 : decode prog_66_method_4_code 18 = .ok (.if_icmp .ne 51, 3) := by decide +kernel
theorem d3_21 : decode prog_66_method_4_code 21 = .ok (.iload_n 3, 1) := by decide +kernel
theorem d3_22 : decode prog_66_method_4_code 22 = .ok (.iconst 1, 1) := by decide +kernel
theorem d3_23 : decode prog_66_method_4_code 23 = .ok (.iadd, 1) := by decide +kernel
theorem d3_24 : decode prog_66_method_4_code 24 = .ok (.iload_n 2, 1) := by decide +kernel
theorem d3_25 : decode prog_66_method_4_code 25 = .ok (.if_icmp .ge 19, 3) := by decide +kernel
theorem d3_28 : decode prog_66_method_4_code 28 = .ok (.aload_n 0, 1) := by decide +kernel
theorem d3_29 : decode prog_66_method_4_code 29 = .ok (.iload_n 3, 1) := by decide +kernel
theorem d3_30 : decode prog_66_method_4_code 30 = .ok (.iconst 1, 1) := by decide +kernel
theorem d3_31 : decode prog_66_method_4_code 31 = .ok (.iadd, 1) := by decide +kernel
theorem d3_32 : decode prog_66_method_4_code 32 = .ok (.baload, 1) := by decide +kernel
theorem d3_33 : decode prog_66_method_4_code 33 = .ok (.bipush 13, 2) := by decide +kernel
theorem d3_35 : decode prog_66_method_4_code 35 = .ok (.if_icmp .ne 9, 3) := by decide +kernel
theorem d3_38 : decode prog_66_method_4_code 38 = .ok (.iload_n 3, 1) := by decide +kernel
theorem d3_39 : decode prog_66_method_4_code 39 = .ok (.iconst 2, 1) := by decide +kernel
theorem d3_40 : decode prog_66_method_4_code 40 = .ok (.iadd, 1) := by decide +kernel
theorem d3_41 : decode prog_66_method_4_code 41 = .ok (.goto 6, 3) := by decide +kernel
theorem d3_44 : decode prog_66_method_4_code 44 = .ok (.iload_n 3, 1) := by decide +kernel
theorem d3_45 : decode prog_66_method_4_code 45 = .ok (.iconst 1, 1) := by decide +kernel
theorem d3_46 : decode prog_66_method_4_code 46 = .ok (.iadd, 1) := by decide +kernel
theorem d3_47 : decode prog_66_method_4_code 47 = .ok (.istore 4, 2) := by decide +kernel
theorem d3_49 : decode prog_66_method_4_code 49 = .ok (.iload 4, 2) := by decide +kernel
theorem d3_51 : decode prog_66_method_4_code 51 = .ok (.iload_n 2, 1) := by decide +kernel
theorem d3_52 : decode prog_66_method_4_code 52 = .ok (.if_icmp .ge 17, 3) := by decide +kernel
theorem d3_55 : decode prog_66_method_4_code 55 = .ok (.aload_n 0, 1) := by decide +kernel
theorem d3_56 : decode prog_66_method_4_code 56 = .ok (.iload 4, 2) := by decide +kernel
theorem d3_58 : decode prog_66_method_4_code 58 = .ok (.baload, 1) := by decide +kernel
theorem d3_59 : decode prog_66_method_4_code 59 = .ok (.bipush 10, 2) := by decide +kernel
theorem d3_61 : decode prog_66_method_4_code 61 = .ok (.if_icmp .ne 8, 3) := by decide +kernel
theorem d3_64 : decode prog_66_method_4_code 64 = .ok (.iload 4, 2) := by decide +kernel
theorem d3_66 : decode prog_66_method_4_code 66 = .ok (.iconst 1, 1) := by decide +kernel
theorem d3_67 : decode prog_66_method_4_code 67 = .ok (.iadd, 1) := by decide +kernel
theorem d3_68 : decode prog_66_method_4_code 68 = .ok (.ireturn, 1) := by decide +kernel
theorem d3_69 : decode prog_66_method_4_code 69 = .ok (.iinc 3 1, 3) := by decide +kernel
theorem d3_72 : decode prog_66_method_4_code 72 = .ok (.goto (-64), 3) := by decide +kernel
theorem d3_75 : decode prog_66_method_4_code 75 = .ok (.iconst (-1), 1) := by decide +kernel
theorem d3_76 : decode prog_66_method_4_code 76 = .ok (.ireturn, 1) := by decide +kernel
theorem pn_com_example_stavegate_stavegate_http_Request : plainName "com/example/stavegate/stavegate/http/Request" = true := by first | (simp [plainName, overriddenIn]; done) | decide +kernel
theorem ef_3 (m : MethodId) (a0_ : Addr) (pf : Int32) (pt : Int32) : entryFrame m #[(.ref a0_), (.int pf), (.int pt)] 5 = mkF m 0 #[.val (.ref a0_), .val (.int pf), .val (.int pt), .unset, .unset] [] := by first | (simp [entryFrame, mkF, argsToLocals, Value.category]; done) | rfl
def Q3 (bb : Int32 → Int32) (pf pt : Int32) (h0 : Heap) (n0 : Nat) (v : Option Value) (h : Heap) (L : List Loc) : Prop := v = some (.int (own_h bb pt 9 (own_max 0 (pf - 3)))) ∧ Fr n0 L ∧ h = h0
theorem own_st_3_47 {z0 z1 z2 z3 : Value} {s4 : Slot} {v : Int32} (h : One s4) : storeLocals #[.val z0, .val z1, .val z2, .val z3, s4] 4 (.int v) = some #[.val z0, .val z1, .val z2, .val z3, .val (.int v)] := by
  rcases h with rfl | ⟨w, rfl, hw⟩
  · rfl
  · cases w <;> first | rfl | (simp [Value.category] at hw)
set_option maxRecDepth 65536 in
set_option maxHeartbeats 40000000 in
theorem rm3 (l : Launch) (Z : State) (a0 : Array Value) (hw : ∀ d ∈ tables_1, d.before a0 Z = true) (ws : List Jvm.Cond) (a0_ : Addr) (pf : Int32) (pt : Int32) (cl : Cell) (bb : Int32 → Int32) (h0 : Heap) (n0 : Nat) (Z0 : n0 ≤ h0.size) (Ar : Arr Z h0 a0_ cl .byte) (hb8 : ∀ j : Int32, 0 ≤ j.toInt → j.toInt < 8 → ¬ (j < 0 ∨ cl.slots.size ≤ j.toNatClampNeg) ∧ cl.slots[j.toNatClampNeg]? = some (.int (bb j))) (b0 : 0 ≤ pf.toInt) (b1 : pf.toInt ≤ pt.toInt) (b2 : pt.toInt ≤ 8) :
    MetFree l (⟨"com/example/stavegate/stavegate/http/Request", "headEnd", "([BII)I"⟩ : MethodName) (head1 (Jvm.Cond.code (⟨"com/example/stavegate/stavegate/http/Request", "headEnd", "([BII)I"⟩ : MethodName) prog_66_method_4_code 5 (some .int) :: ws) ({ frames := 1, cells := 0, slots := 0, locals := 13 } : Room)) (fun a U => a = #[(.ref a0_), (.int pf), (.int pt)] ∧ Z.Warmed39 U.vm ∧ U.heap = h0) (fun _ _ _ _ _ => True) (fun _ U o U' => ∃ v L, o = .returned v ∧ Q3 bb pf pt h0 n0 v U'.heap L ∧ FrameEnd U o U' L ({ frames := 1, cells := 0, slots := 0, locals := 13 } : Room).cells ({ frames := 1, cells := 0, slots := 0, locals := 13 } : Room).slots) := by
  refine MetFree.of_bodySF (plainFor_of_name pn_com_example_stavegate_stavegate_http_Request) hisR ?_
  intro p e s m args below meth c s₁ Bd hml0 hP hK
  obtain ⟨rfl, hZ, hh⟩ := hP
  have hx := Bd.exec
  have hby := Bd.bytes
  have hml : c.maxLocals = 5 := hml0
  have hown : s.vm.findClass "com/example/stavegate/stavegate/http/Request" = some m.cls := findClass_of_methodNamed Bd.named
  have hnm := (name_of_methodNamed Bd.named Bd.method).1
  have X0 : Stand p l e ({ frames := 1, cells := 0, slots := 0, locals := 13 } : Room) s m #[(.ref a0_), (.int pf), (.int pt)] below meth c s₁ [] 0 0 := Stand.of_body Bd
  have e0 : s₁.heap = h0 := by rw [← hh, Bd.state]; rfl
  have N0 := Fr.nil n0
  have pre0 : ∀ t, Steps p.tables e below (s₁.setTop (mkF m 0 #[.val (.ref a0_), .val (.int pf), .val (.int pt), .unset, .unset] [])) t → Steps p.tables e below (s₁.setTop (entryFrame m #[(.ref a0_), (.int pf), (.int pt)] 5)) t := fun t k => castTop (ef_3 m a0_ pf pt) k
  have K0 := Keep.refl h0 []
  refine own_start pre0 fun G gs gl => ?_
  show G (s₁.setTop (mkF m 0 #[.val (.ref a0_), .val (.int pf), .val (.int pt), .unset, .unset] []))
  refine gs (fun t k => XS.iconst X0.here hx rfl (hb hby d3_0) k) ?_
  show G (s₁.setTop (mkF m 1 #[.val (.ref a0_), .val (.int pf), .val (.int pt), .unset, .unset] [(.int (0 : Int32))]))
  refine gs (fun t k => XS.iloadN X0.here hx rfl (hb hby d3_1) rfl k) ?_
  show G (s₁.setTop (mkF m 2 #[.val (.ref a0_), .val (.int pf), .val (.int pt), .unset, .unset] [(.int pf), (.int (0 : Int32))]))
  refine gs (fun t k => XS.iconst X0.here hx rfl (hb hby d3_2) k) ?_
  show G (s₁.setTop (mkF m 3 #[.val (.ref a0_), .val (.int pf), .val (.int pt), .unset, .unset] [(.int (3 : Int32)), (.int pf), (.int (0 : Int32))]))
  refine gs (fun t k => XS.isub X0.here hx rfl (hb hby d3_3) rfl k) ?_
  show G (s₁.setTop (mkF m 4 #[.val (.ref a0_), .val (.int pf), .val (.int pt), .unset, .unset] [(.int (pf - (3 : Int32))), (.int (0 : Int32))]))
  obtain ⟨_, _, ⟨T1, L1, k1, n1⟩, -, X1, ⟨Lc1, hQ1, l1, y1, z1⟩, st1⟩ := Jvm.LawKit.callS X0 hx (y := (⟨"java/lang/Math", "max", "(II)I"⟩ : MethodName)) hown (mvT hZ (hw _ (List.mem_of_getElem? (i := 13) rfl))) (mvT hZ (hw _ (List.mem_of_getElem? (i := 14) rfl))) (mvT hZ (hw _ (List.mem_of_getElem? (i := 15) rfl))) (mvT hZ (hw _ (List.mem_of_getElem? (i := 16) rfl))) (by decide) (backOf (W := 0) (rm4 l Z a0 hw [] (0 : Int32) (pf - (3 : Int32)) h0 n0 Z0) hZ (hw _ (List.mem_of_getElem? (i := 16) rfl)) (hw _ (List.mem_of_getElem? (i := 15) rfl)) (by decide) (by decide)) (g := (mkF m 4 #[.val (.ref a0_), .val (.int pf), .val (.int pt), .unset, .unset] [(.int (pf - (3 : Int32))), (.int (0 : Int32))])) rfl (by rw [hml]; rfl) (argsL := [(.int (0 : Int32)), (.int (pf - (3 : Int32)))]) (rest := []) (lenOf pd_0 rfl) rfl (by show 2 * 0 + _ ≤ _; exact Nat.le_of_eq rfl) (hb hby d3_4) (fun _ _ => ⟨rfl, e0, (by decide : 0 + 0 ≤ _), (by decide : 0 + 0 ≤ _)⟩)
  dsimp only [Pt.U, Pt.locs, Pt.cells, Pt.slots] at X1 l1 y1 z1 st1 hQ1
  subst y1 z1
  obtain ⟨rfl, N1q, e1⟩ := hQ1
  have N1 : Fr n0 L1 := by rw [l1]; exact Fr.app N0 N1q
  refine gs (fun t k => st1 _ k) ?_
  show G (T1.setTop (mkF m 7 #[.val (.ref a0_), .val (.int pf), .val (.int pt), .unset, .unset] [(.int (own_max (0 : Int32) (pf - (3 : Int32))))]))
  obtain ⟨i0, hi0⟩ : ∃ z : Int32, z = (own_max (0 : Int32) (pf - (3 : Int32))) := ⟨_, rfl⟩
  rw [← hi0]
  show G (T1.setTop (mkF m 7 #[.val (.ref a0_), .val (.int pf), .val (.int pt), .unset, .unset] [(.int i0)]))
  refine gs (fun t k => XS.istoreN X1.here hx rfl (hb hby d3_7) rfl (l' := #[.val (.ref a0_), .val (.int pf), .val (.int pt), .val (.int i0), .unset]) rfl k) ?_
  show G (T1.setTop (mkF m 8 #[.val (.ref a0_), .val (.int pf), .val (.int pt), .val (.int i0), .unset] []))
  obtain ⟨m1, m2⟩ := own_max_le b0 hi0
  obtain ⟨rr, hrr⟩ : ∃ z : Int32, z = own_h bb pt 9 i0 := ⟨_, rfl⟩
  have hrr' : rr = own_h bb pt 9 (own_max 0 (pf - 3)) := by rw [hrr, hi0]
  have loop : ∀ (k : Nat) (i : Int32) (s4 : Slot), One s4 → 0 ≤ i.toInt → i.toInt ≤ pt.toInt → pt.toInt - i.toInt < k → rr = own_h bb pt k i → G (T1.setTop (mkF m 8 #[.val (.ref a0_), .val (.int pf), .val (.int pt), .val (.int i), s4] [])) := by
    intro k
    induction k with
    | zero => exact fun i s4 hs4 c0 c1 c2 c3 => absurd c2 (by omega)
    | succ k ih =>
      intro i s4 hs4 c0 c1 c2 c3
      have t1 := own_add i 1 1 (by decide) (by omega) (by omega)
      have t2 := own_add i 2 2 (by decide) (by omega) (by omega)
      have t3 := own_add i 3 3 (by decide) (by omega) (by omega)
      show G (T1.setTop (mkF m 8 #[.val (.ref a0_), .val (.int pf), .val (.int pt), .val (.int i), s4] []))
      refine gs (fun t k => XS.iloadN X1.here hx rfl (hb hby d3_8) rfl k) ?_
      show G (T1.setTop (mkF m 9 #[.val (.ref a0_), .val (.int pf), .val (.int pt), .val (.int i), s4] [(.int i)]))
      refine gs (fun t k => XS.iloadN X1.here hx rfl (hb hby d3_9) rfl k) ?_
      show G (T1.setTop (mkF m 10 #[.val (.ref a0_), .val (.int pf), .val (.int pt), .val (.int i), s4] [(.int pt), (.int i)]))
      by_cases hc10 : i < pt
      · refine gs (fun t k => XS.icmpNo X1.here hx rfl (hb hby d3_10) rfl (tlt hc10).2.1 k) ?_
        show G (T1.setTop (mkF m 13 #[.val (.ref a0_), .val (.int pf), .val (.int pt), .val (.int i), s4] []))
        have i_hc10 := own_lt hc10
        refine gs (fun t k => XS.aloadN X1.here hx rfl (hb hby d3_13) rfl rfl k) ?_
        show G (T1.setTop (mkF m 14 #[.val (.ref a0_), .val (.int pf), .val (.int pt), .val (.int i), s4] [(.ref a0_)]))
        refine gs (fun t k => XS.iloadN X1.here hx rfl (hb hby d3_14) rfl k) ?_
        show G (T1.setTop (mkF m 15 #[.val (.ref a0_), .val (.int pf), .val (.int pt), .val (.int i), s4] [(.int i), (.ref a0_)]))
        obtain ⟨hin2, hat2⟩ := hb8 i (by omega) (by omega)
        refine gs (fun t k => X1.baloadBytes hx (j := i) (v := (.int (bb i))) (by rw [e1]; exact Ar.1) (State.isArrayOf_alike hZ.alike Ar.2.1) Ar.2.2 hin2 hat2 (g := (mkF m 15 #[.val (.ref a0_), .val (.int pf), .val (.int pt), .val (.int i), s4] [(.int i), (.ref a0_)])) rfl rfl (hb hby d3_15) _ k) ?_
        show G (T1.setTop (mkF m 16 #[.val (.ref a0_), .val (.int pf), .val (.int pt), .val (.int i), s4] [(.int (bb i))]))
        refine gs (fun t k => XS.bipush X1.here hx rfl (hb hby d3_16) k) ?_
        show G (T1.setTop (mkF m 18 #[.val (.ref a0_), .val (.int pf), .val (.int pt), .val (.int i), s4] [(.int (10 : Int32)), (.int (bb i))]))
        by_cases hc18 : (bb i) = (10 : Int32)
        · refine gs (fun t k => XS.icmpNo X1.here hx rfl (hb hby d3_18) rfl (teq hc18).2 k) ?_
          show G (T1.setTop (mkF m 21 #[.val (.ref a0_), .val (.int pf), .val (.int pt), .val (.int i), s4] []))
          refine gs (fun t k => XS.iloadN X1.here hx rfl (hb hby d3_21) rfl k) ?_
          show G (T1.setTop (mkF m 22 #[.val (.ref a0_), .val (.int pf), .val (.int pt), .val (.int i), s4] [(.int i)]))
          refine gs (fun t k => XS.iconst X1.here hx rfl (hb hby d3_22) k) ?_
          show G (T1.setTop (mkF m 23 #[.val (.ref a0_), .val (.int pf), .val (.int pt), .val (.int i), s4] [(.int (1 : Int32)), (.int i)]))
          refine gs (fun t k => XS.iadd X1.here hx rfl (hb hby d3_23) rfl k) ?_
          show G (T1.setTop (mkF m 24 #[.val (.ref a0_), .val (.int pf), .val (.int pt), .val (.int i), s4] [(.int (i + (1 : Int32)))]))
          refine gs (fun t k => XS.iloadN X1.here hx rfl (hb hby d3_24) rfl k) ?_
          show G (T1.setTop (mkF m 25 #[.val (.ref a0_), .val (.int pf), .val (.int pt), .val (.int i), s4] [(.int pt), (.int (i + (1 : Int32)))]))
          by_cases hc25 : (i + (1 : Int32)) < pt
          · refine gs (fun t k => XS.icmpNo X1.here hx rfl (hb hby d3_25) rfl (tlt hc25).2.1 k) ?_
            show G (T1.setTop (mkF m 28 #[.val (.ref a0_), .val (.int pf), .val (.int pt), .val (.int i), s4] []))
            have i_hc25 := own_lt hc25
            refine gs (fun t k => XS.aloadN X1.here hx rfl (hb hby d3_28) rfl rfl k) ?_
            show G (T1.setTop (mkF m 29 #[.val (.ref a0_), .val (.int pf), .val (.int pt), .val (.int i), s4] [(.ref a0_)]))
            refine gs (fun t k => XS.iloadN X1.here hx rfl (hb hby d3_29) rfl k) ?_
            show G (T1.setTop (mkF m 30 #[.val (.ref a0_), .val (.int pf), .val (.int pt), .val (.int i), s4] [(.int i), (.ref a0_)]))
            refine gs (fun t k => XS.iconst X1.here hx rfl (hb hby d3_30) k) ?_
            show G (T1.setTop (mkF m 31 #[.val (.ref a0_), .val (.int pf), .val (.int pt), .val (.int i), s4] [(.int (1 : Int32)), (.int i), (.ref a0_)]))
            refine gs (fun t k => XS.iadd X1.here hx rfl (hb hby d3_31) rfl k) ?_
            show G (T1.setTop (mkF m 32 #[.val (.ref a0_), .val (.int pf), .val (.int pt), .val (.int i), s4] [(.int (i + (1 : Int32))), (.ref a0_)]))
            obtain ⟨hin3, hat3⟩ := hb8 (i + (1 : Int32)) (by omega) (by omega)
            refine gs (fun t k => X1.baloadBytes hx (j := (i + (1 : Int32))) (v := (.int (bb (i + (1 : Int32))))) (by rw [e1]; exact Ar.1) (State.isArrayOf_alike hZ.alike Ar.2.1) Ar.2.2 hin3 hat3 (g := (mkF m 32 #[.val (.ref a0_), .val (.int pf), .val (.int pt), .val (.int i), s4] [(.int (i + (1 : Int32))), (.ref a0_)])) rfl rfl (hb hby d3_32) _ k) ?_
            show G (T1.setTop (mkF m 33 #[.val (.ref a0_), .val (.int pf), .val (.int pt), .val (.int i), s4] [(.int (bb (i + (1 : Int32))))]))
            refine gs (fun t k => XS.bipush X1.here hx rfl (hb hby d3_33) k) ?_
            show G (T1.setTop (mkF m 35 #[.val (.ref a0_), .val (.int pf), .val (.int pt), .val (.int i), s4] [(.int (13 : Int32)), (.int (bb (i + (1 : Int32))))]))
            by_cases hc35 : (bb (i + (1 : Int32))) = (13 : Int32)
            · refine gs (fun t k => XS.icmpNo X1.here hx rfl (hb hby d3_35) rfl (teq hc35).2 k) ?_
              show G (T1.setTop (mkF m 38 #[.val (.ref a0_), .val (.int pf), .val (.int pt), .val (.int i), s4] []))
              refine gs (fun t k => XS.iloadN X1.here hx rfl (hb hby d3_38) rfl k) ?_
              show G (T1.setTop (mkF m 39 #[.val (.ref a0_), .val (.int pf), .val (.int pt), .val (.int i), s4] [(.int i)]))
              refine gs (fun t k => XS.iconst X1.here hx rfl (hb hby d3_39) k) ?_
              show G (T1.setTop (mkF m 40 #[.val (.ref a0_), .val (.int pf), .val (.int pt), .val (.int i), s4] [(.int (2 : Int32)), (.int i)]))
              refine gs (fun t k => XS.iadd X1.here hx rfl (hb hby d3_40) rfl k) ?_
              show G (T1.setTop (mkF m 41 #[.val (.ref a0_), .val (.int pf), .val (.int pt), .val (.int i), s4] [(.int (i + (2 : Int32)))]))
              refine gs (fun t k => XS.goto X1.here hx rfl (pc0 := 41) (pc' := 47) rfl (hb hby d3_41) (by decide) (by decide) k) ?_
              show G (T1.setTop (mkF m 47 #[.val (.ref a0_), .val (.int pf), .val (.int pt), .val (.int i), s4] [(.int (i + (2 : Int32)))]))
              refine gs (fun t k => XS.istore X1.here hx rfl (hb hby d3_47) rfl (l' := #[.val (.ref a0_), .val (.int pf), .val (.int pt), .val (.int i), .val (.int (i + (2 : Int32)))]) (own_st_3_47 hs4) k) ?_
              show G (T1.setTop (mkF m 49 #[.val (.ref a0_), .val (.int pf), .val (.int pt), .val (.int i), .val (.int (i + (2 : Int32)))] []))
              refine gs (fun t k => XS.iload X1.here hx rfl (hb hby d3_49) rfl k) ?_
              show G (T1.setTop (mkF m 51 #[.val (.ref a0_), .val (.int pf), .val (.int pt), .val (.int i), .val (.int (i + (2 : Int32)))] [(.int (i + (2 : Int32)))]))
              refine gs (fun t k => XS.iloadN X1.here hx rfl (hb hby d3_51) rfl k) ?_
              show G (T1.setTop (mkF m 52 #[.val (.ref a0_), .val (.int pf), .val (.int pt), .val (.int i), .val (.int (i + (2 : Int32)))] [(.int pt), (.int (i + (2 : Int32)))]))
              by_cases hc52 : (i + (2 : Int32)) < pt
              · refine gs (fun t k => XS.icmpNo X1.here hx rfl (hb hby d3_52) rfl (tlt hc52).2.1 k) ?_
                show G (T1.setTop (mkF m 55 #[.val (.ref a0_), .val (.int pf), .val (.int pt), .val (.int i), .val (.int (i + (2 : Int32)))] []))
                have i_hc52 := own_lt hc52
                refine gs (fun t k => XS.aloadN X1.here hx rfl (hb hby d3_55) rfl rfl k) ?_
                show G (T1.setTop (mkF m 56 #[.val (.ref a0_), .val (.int pf), .val (.int pt), .val (.int i), .val (.int (i + (2 : Int32)))] [(.ref a0_)]))
                refine gs (fun t k => XS.iload X1.here hx rfl (hb hby d3_56) rfl k) ?_
                show G (T1.setTop (mkF m 58 #[.val (.ref a0_), .val (.int pf), .val (.int pt), .val (.int i), .val (.int (i + (2 : Int32)))] [(.int (i + (2 : Int32))), (.ref a0_)]))
                obtain ⟨hin4, hat4⟩ := hb8 (i + (2 : Int32)) (by omega) (by omega)
                refine gs (fun t k => X1.baloadBytes hx (j := (i + (2 : Int32))) (v := (.int (bb (i + (2 : Int32))))) (by rw [e1]; exact Ar.1) (State.isArrayOf_alike hZ.alike Ar.2.1) Ar.2.2 hin4 hat4 (g := (mkF m 58 #[.val (.ref a0_), .val (.int pf), .val (.int pt), .val (.int i), .val (.int (i + (2 : Int32)))] [(.int (i + (2 : Int32))), (.ref a0_)])) rfl rfl (hb hby d3_58) _ k) ?_
                show G (T1.setTop (mkF m 59 #[.val (.ref a0_), .val (.int pf), .val (.int pt), .val (.int i), .val (.int (i + (2 : Int32)))] [(.int (bb (i + (2 : Int32))))]))
                refine gs (fun t k => XS.bipush X1.here hx rfl (hb hby d3_59) k) ?_
                show G (T1.setTop (mkF m 61 #[.val (.ref a0_), .val (.int pf), .val (.int pt), .val (.int i), .val (.int (i + (2 : Int32)))] [(.int (10 : Int32)), (.int (bb (i + (2 : Int32))))]))
                by_cases hc61 : (bb (i + (2 : Int32))) = (10 : Int32)
                · refine gs (fun t k => XS.icmpNo X1.here hx rfl (hb hby d3_61) rfl (teq hc61).2 k) ?_
                  show G (T1.setTop (mkF m 64 #[.val (.ref a0_), .val (.int pf), .val (.int pt), .val (.int i), .val (.int (i + (2 : Int32)))] []))
                  refine gs (fun t k => XS.iload X1.here hx rfl (hb hby d3_64) rfl k) ?_
                  show G (T1.setTop (mkF m 66 #[.val (.ref a0_), .val (.int pf), .val (.int pt), .val (.int i), .val (.int (i + (2 : Int32)))] [(.int (i + (2 : Int32)))]))
                  refine gs (fun t k => XS.iconst X1.here hx rfl (hb hby d3_66) k) ?_
                  show G (T1.setTop (mkF m 67 #[.val (.ref a0_), .val (.int pf), .val (.int pt), .val (.int i), .val (.int (i + (2 : Int32)))] [(.int (1 : Int32)), (.int (i + (2 : Int32)))]))
                  refine gs (fun t k => XS.iadd X1.here hx rfl (hb hby d3_67) rfl k) ?_
                  show G (T1.setTop (mkF m 68 #[.val (.ref a0_), .val (.int pf), .val (.int pt), .val (.int i), .val (.int (i + (2 : Int32)))] [(.int ((i + (2 : Int32)) + (1 : Int32)))]))
                  obtain ⟨fs, hr, hrun, hended, hW, hsame⟩ := X1.leave (v := some (.int ((i + (2 : Int32)) + (1 : Int32)))) (fun h => by rw [Bd.returns] at h; cases h)
                  refine gl _ ⟨_, _, own_retI X1 hx Bd.returns (hb hby d3_68) hr, hrun, hended, _, _, rfl, ?_, ⟨_, rfl⟩, hW, hsame.mono (by decide) (by decide)⟩
                  show Q3 bb pf pt h0 n0 _ T1.heap _
                  rw [e1]
                  exact ⟨congrArg (fun z => some (Value.int z)) (Eq.trans (by simp [own_h, hc10, hc18, hc25, hc35, hc52, hc61]) (c3.symm.trans hrr')), N1, rfl⟩
                · refine gs (fun t k => XS.icmpYes X1.here hx rfl (pc0 := 61) (pc' := 69) rfl (hb hby d3_61) rfl (feq hc61).2 (by decide) (by decide) k) ?_
                  show G (T1.setTop (mkF m 69 #[.val (.ref a0_), .val (.int pf), .val (.int pt), .val (.int i), .val (.int (i + (2 : Int32)))] []))
                  refine gs (fun t k => XS.iinc X1.here hx rfl (hb hby d3_69) rfl (l' := #[.val (.ref a0_), .val (.int pf), .val (.int pt), .val (.int (i + (1 : Int32))), .val (.int (i + (2 : Int32)))]) rfl k) ?_
                  show G (T1.setTop (mkF m 72 #[.val (.ref a0_), .val (.int pf), .val (.int pt), .val (.int (i + (1 : Int32))), .val (.int (i + (2 : Int32)))] []))
                  refine gs (fun t k => XS.goto X1.here hx rfl (pc0 := 72) (pc' := 8) rfl (hb hby d3_72) (by decide) (by decide) k) ?_
                  show G (T1.setTop (mkF m 8 #[.val (.ref a0_), .val (.int pf), .val (.int pt), .val (.int (i + (1 : Int32))), .val (.int (i + (2 : Int32)))] []))
                  exact ih (i + (1 : Int32)) _ (One.val rfl) (by omega) (by omega) (by omega) (c3.trans (by simp [own_h, hc10, hc18, hc25, hc35, hc52, hc61]))
              · refine gs (fun t k => XS.icmpYes X1.here hx rfl (pc0 := 52) (pc' := 69) rfl (hb hby d3_52) rfl (flt hc52).2.1 (by decide) (by decide) k) ?_
                show G (T1.setTop (mkF m 69 #[.val (.ref a0_), .val (.int pf), .val (.int pt), .val (.int i), .val (.int (i + (2 : Int32)))] []))
                have i_hc52 := own_nlt hc52
                refine gs (fun t k => XS.iinc X1.here hx rfl (hb hby d3_69) rfl (l' := #[.val (.ref a0_), .val (.int pf), .val (.int pt), .val (.int (i + (1 : Int32))), .val (.int (i + (2 : Int32)))]) rfl k) ?_
                show G (T1.setTop (mkF m 72 #[.val (.ref a0_), .val (.int pf), .val (.int pt), .val (.int (i + (1 : Int32))), .val (.int (i + (2 : Int32)))] []))
                refine gs (fun t k => XS.goto X1.here hx rfl (pc0 := 72) (pc' := 8) rfl (hb hby d3_72) (by decide) (by decide) k) ?_
                show G (T1.setTop (mkF m 8 #[.val (.ref a0_), .val (.int pf), .val (.int pt), .val (.int (i + (1 : Int32))), .val (.int (i + (2 : Int32)))] []))
                exact ih (i + (1 : Int32)) _ (One.val rfl) (by omega) (by omega) (by omega) (c3.trans (by simp [own_h, hc10, hc18, hc25, hc35, hc52]))
            · refine gs (fun t k => XS.icmpYes X1.here hx rfl (pc0 := 35) (pc' := 44) rfl (hb hby d3_35) rfl (feq hc35).2 (by decide) (by decide) k) ?_
              show G (T1.setTop (mkF m 44 #[.val (.ref a0_), .val (.int pf), .val (.int pt), .val (.int i), s4] []))
              refine gs (fun t k => XS.iloadN X1.here hx rfl (hb hby d3_44) rfl k) ?_
              show G (T1.setTop (mkF m 45 #[.val (.ref a0_), .val (.int pf), .val (.int pt), .val (.int i), s4] [(.int i)]))
              refine gs (fun t k => XS.iconst X1.here hx rfl (hb hby d3_45) k) ?_
              show G (T1.setTop (mkF m 46 #[.val (.ref a0_), .val (.int pf), .val (.int pt), .val (.int i), s4] [(.int (1 : Int32)), (.int i)]))
              refine gs (fun t k => XS.iadd X1.here hx rfl (hb hby d3_46) rfl k) ?_
              show G (T1.setTop (mkF m 47 #[.val (.ref a0_), .val (.int pf), .val (.int pt), .val (.int i), s4] [(.int (i + (1 : Int32)))]))
              refine gs (fun t k => XS.istore X1.here hx rfl (hb hby d3_47) rfl (l' := #[.val (.ref a0_), .val (.int pf), .val (.int pt), .val (.int i), .val (.int (i + (1 : Int32)))]) (own_st_3_47 hs4) k) ?_
              show G (T1.setTop (mkF m 49 #[.val (.ref a0_), .val (.int pf), .val (.int pt), .val (.int i), .val (.int (i + (1 : Int32)))] []))
              refine gs (fun t k => XS.iload X1.here hx rfl (hb hby d3_49) rfl k) ?_
              show G (T1.setTop (mkF m 51 #[.val (.ref a0_), .val (.int pf), .val (.int pt), .val (.int i), .val (.int (i + (1 : Int32)))] [(.int (i + (1 : Int32)))]))
              refine gs (fun t k => XS.iloadN X1.here hx rfl (hb hby d3_51) rfl k) ?_
              show G (T1.setTop (mkF m 52 #[.val (.ref a0_), .val (.int pf), .val (.int pt), .val (.int i), .val (.int (i + (1 : Int32)))] [(.int pt), (.int (i + (1 : Int32)))]))
              refine gs (fun t k => XS.icmpNo X1.here hx rfl (hb hby d3_52) rfl (tlt hc25).2.1 k) ?_
              show G (T1.setTop (mkF m 55 #[.val (.ref a0_), .val (.int pf), .val (.int pt), .val (.int i), .val (.int (i + (1 : Int32)))] []))
              refine gs (fun t k => XS.aloadN X1.here hx rfl (hb hby d3_55) rfl rfl k) ?_
              show G (T1.setTop (mkF m 56 #[.val (.ref a0_), .val (.int pf), .val (.int pt), .val (.int i), .val (.int (i + (1 : Int32)))] [(.ref a0_)]))
              refine gs (fun t k => XS.iload X1.here hx rfl (hb hby d3_56) rfl k) ?_
              show G (T1.setTop (mkF m 58 #[.val (.ref a0_), .val (.int pf), .val (.int pt), .val (.int i), .val (.int (i + (1 : Int32)))] [(.int (i + (1 : Int32))), (.ref a0_)]))
              obtain ⟨hin5, hat5⟩ := hb8 (i + (1 : Int32)) (by omega) (by omega)
              refine gs (fun t k => X1.baloadBytes hx (j := (i + (1 : Int32))) (v := (.int (bb (i + (1 : Int32))))) (by rw [e1]; exact Ar.1) (State.isArrayOf_alike hZ.alike Ar.2.1) Ar.2.2 hin5 hat5 (g := (mkF m 58 #[.val (.ref a0_), .val (.int pf), .val (.int pt), .val (.int i), .val (.int (i + (1 : Int32)))] [(.int (i + (1 : Int32))), (.ref a0_)])) rfl rfl (hb hby d3_58) _ k) ?_
              show G (T1.setTop (mkF m 59 #[.val (.ref a0_), .val (.int pf), .val (.int pt), .val (.int i), .val (.int (i + (1 : Int32)))] [(.int (bb (i + (1 : Int32))))]))
              refine gs (fun t k => XS.bipush X1.here hx rfl (hb hby d3_59) k) ?_
              show G (T1.setTop (mkF m 61 #[.val (.ref a0_), .val (.int pf), .val (.int pt), .val (.int i), .val (.int (i + (1 : Int32)))] [(.int (10 : Int32)), (.int (bb (i + (1 : Int32))))]))
              by_cases hc61 : (bb (i + (1 : Int32))) = (10 : Int32)
              · refine gs (fun t k => XS.icmpNo X1.here hx rfl (hb hby d3_61) rfl (teq hc61).2 k) ?_
                show G (T1.setTop (mkF m 64 #[.val (.ref a0_), .val (.int pf), .val (.int pt), .val (.int i), .val (.int (i + (1 : Int32)))] []))
                refine gs (fun t k => XS.iload X1.here hx rfl (hb hby d3_64) rfl k) ?_
                show G (T1.setTop (mkF m 66 #[.val (.ref a0_), .val (.int pf), .val (.int pt), .val (.int i), .val (.int (i + (1 : Int32)))] [(.int (i + (1 : Int32)))]))
                refine gs (fun t k => XS.iconst X1.here hx rfl (hb hby d3_66) k) ?_
                show G (T1.setTop (mkF m 67 #[.val (.ref a0_), .val (.int pf), .val (.int pt), .val (.int i), .val (.int (i + (1 : Int32)))] [(.int (1 : Int32)), (.int (i + (1 : Int32)))]))
                refine gs (fun t k => XS.iadd X1.here hx rfl (hb hby d3_67) rfl k) ?_
                show G (T1.setTop (mkF m 68 #[.val (.ref a0_), .val (.int pf), .val (.int pt), .val (.int i), .val (.int (i + (1 : Int32)))] [(.int ((i + (1 : Int32)) + (1 : Int32)))]))
                obtain ⟨fs, hr, hrun, hended, hW, hsame⟩ := X1.leave (v := some (.int ((i + (1 : Int32)) + (1 : Int32)))) (fun h => by rw [Bd.returns] at h; cases h)
                refine gl _ ⟨_, _, own_retI X1 hx Bd.returns (hb hby d3_68) hr, hrun, hended, _, _, rfl, ?_, ⟨_, rfl⟩, hW, hsame.mono (by decide) (by decide)⟩
                show Q3 bb pf pt h0 n0 _ T1.heap _
                rw [e1]
                exact ⟨congrArg (fun z => some (Value.int z)) (Eq.trans (by simp [own_h, hc10, hc18, hc25, hc35, hc61]) (c3.symm.trans hrr')), N1, rfl⟩
              · refine gs (fun t k => XS.icmpYes X1.here hx rfl (pc0 := 61) (pc' := 69) rfl (hb hby d3_61) rfl (feq hc61).2 (by decide) (by decide) k) ?_
                show G (T1.setTop (mkF m 69 #[.val (.ref a0_), .val (.int pf), .val (.int pt), .val (.int i), .val (.int (i + (1 : Int32)))] []))
                refine gs (fun t k => XS.iinc X1.here hx rfl (hb hby d3_69) rfl (l' := #[.val (.ref a0_), .val (.int pf), .val (.int pt), .val (.int (i + (1 : Int32))), .val (.int (i + (1 : Int32)))]) rfl k) ?_
                show G (T1.setTop (mkF m 72 #[.val (.ref a0_), .val (.int pf), .val (.int pt), .val (.int (i + (1 : Int32))), .val (.int (i + (1 : Int32)))] []))
                refine gs (fun t k => XS.goto X1.here hx rfl (pc0 := 72) (pc' := 8) rfl (hb hby d3_72) (by decide) (by decide) k) ?_
                show G (T1.setTop (mkF m 8 #[.val (.ref a0_), .val (.int pf), .val (.int pt), .val (.int (i + (1 : Int32))), .val (.int (i + (1 : Int32)))] []))
                exact ih (i + (1 : Int32)) _ (One.val rfl) (by omega) (by omega) (by omega) (c3.trans (by simp [own_h, hc10, hc18, hc25, hc35, hc61]))
          · refine gs (fun t k => XS.icmpYes X1.here hx rfl (pc0 := 25) (pc' := 44) rfl (hb hby d3_25) rfl (flt hc25).2.1 (by decide) (by decide) k) ?_
            show G (T1.setTop (mkF m 44 #[.val (.ref a0_), .val (.int pf), .val (.int pt), .val (.int i), s4] []))
            have i_hc25 := own_nlt hc25
            refine gs (fun t k => XS.iloadN X1.here hx rfl (hb hby d3_44) rfl k) ?_
            show G (T1.setTop (mkF m 45 #[.val (.ref a0_), .val (.int pf), .val (.int pt), .val (.int i), s4] [(.int i)]))
            refine gs (fun t k => XS.iconst X1.here hx rfl (hb hby d3_45) k) ?_
            show G (T1.setTop (mkF m 46 #[.val (.ref a0_), .val (.int pf), .val (.int pt), .val (.int i), s4] [(.int (1 : Int32)), (.int i)]))
            refine gs (fun t k => XS.iadd X1.here hx rfl (hb hby d3_46) rfl k) ?_
            show G (T1.setTop (mkF m 47 #[.val (.ref a0_), .val (.int pf), .val (.int pt), .val (.int i), s4] [(.int (i + (1 : Int32)))]))
            refine gs (fun t k => XS.istore X1.here hx rfl (hb hby d3_47) rfl (l' := #[.val (.ref a0_), .val (.int pf), .val (.int pt), .val (.int i), .val (.int (i + (1 : Int32)))]) (own_st_3_47 hs4) k) ?_
            show G (T1.setTop (mkF m 49 #[.val (.ref a0_), .val (.int pf), .val (.int pt), .val (.int i), .val (.int (i + (1 : Int32)))] []))
            refine gs (fun t k => XS.iload X1.here hx rfl (hb hby d3_49) rfl k) ?_
            show G (T1.setTop (mkF m 51 #[.val (.ref a0_), .val (.int pf), .val (.int pt), .val (.int i), .val (.int (i + (1 : Int32)))] [(.int (i + (1 : Int32)))]))
            refine gs (fun t k => XS.iloadN X1.here hx rfl (hb hby d3_51) rfl k) ?_
            show G (T1.setTop (mkF m 52 #[.val (.ref a0_), .val (.int pf), .val (.int pt), .val (.int i), .val (.int (i + (1 : Int32)))] [(.int pt), (.int (i + (1 : Int32)))]))
            refine gs (fun t k => XS.icmpYes X1.here hx rfl (pc0 := 52) (pc' := 69) rfl (hb hby d3_52) rfl (flt hc25).2.1 (by decide) (by decide) k) ?_
            show G (T1.setTop (mkF m 69 #[.val (.ref a0_), .val (.int pf), .val (.int pt), .val (.int i), .val (.int (i + (1 : Int32)))] []))
            refine gs (fun t k => XS.iinc X1.here hx rfl (hb hby d3_69) rfl (l' := #[.val (.ref a0_), .val (.int pf), .val (.int pt), .val (.int (i + (1 : Int32))), .val (.int (i + (1 : Int32)))]) rfl k) ?_
            show G (T1.setTop (mkF m 72 #[.val (.ref a0_), .val (.int pf), .val (.int pt), .val (.int (i + (1 : Int32))), .val (.int (i + (1 : Int32)))] []))
            refine gs (fun t k => XS.goto X1.here hx rfl (pc0 := 72) (pc' := 8) rfl (hb hby d3_72) (by decide) (by decide) k) ?_
            show G (T1.setTop (mkF m 8 #[.val (.ref a0_), .val (.int pf), .val (.int pt), .val (.int (i + (1 : Int32))), .val (.int (i + (1 : Int32)))] []))
            exact ih (i + (1 : Int32)) _ (One.val rfl) (by omega) (by omega) (by omega) (c3.trans (by simp [own_h, hc10, hc18, hc25]))
        · refine gs (fun t k => XS.icmpYes X1.here hx rfl (pc0 := 18) (pc' := 69) rfl (hb hby d3_18) rfl (feq hc18).2 (by decide) (by decide) k) ?_
          show G (T1.setTop (mkF m 69 #[.val (.ref a0_), .val (.int pf), .val (.int pt), .val (.int i), s4] []))
          refine gs (fun t k => XS.iinc X1.here hx rfl (hb hby d3_69) rfl (l' := #[.val (.ref a0_), .val (.int pf), .val (.int pt), .val (.int (i + (1 : Int32))), s4]) rfl k) ?_
          show G (T1.setTop (mkF m 72 #[.val (.ref a0_), .val (.int pf), .val (.int pt), .val (.int (i + (1 : Int32))), s4] []))
          refine gs (fun t k => XS.goto X1.here hx rfl (pc0 := 72) (pc' := 8) rfl (hb hby d3_72) (by decide) (by decide) k) ?_
          show G (T1.setTop (mkF m 8 #[.val (.ref a0_), .val (.int pf), .val (.int pt), .val (.int (i + (1 : Int32))), s4] []))
          exact ih (i + (1 : Int32)) s4 hs4 (by omega) (by omega) (by omega) (c3.trans (by simp [own_h, hc10, hc18]))
      · refine gs (fun t k => XS.icmpYes X1.here hx rfl (pc0 := 10) (pc' := 75) rfl (hb hby d3_10) rfl (flt hc10).2.1 (by decide) (by decide) k) ?_
        show G (T1.setTop (mkF m 75 #[.val (.ref a0_), .val (.int pf), .val (.int pt), .val (.int i), s4] []))
        have i_hc10 := own_nlt hc10
        refine gs (fun t k => XS.iconst X1.here hx rfl (hb hby d3_75) k) ?_
        show G (T1.setTop (mkF m 76 #[.val (.ref a0_), .val (.int pf), .val (.int pt), .val (.int i), s4] [(.int (-1 : Int32))]))
        obtain ⟨fs, hr, hrun, hended, hW, hsame⟩ := X1.leave (v := some (.int (-1 : Int32))) (fun h => by rw [Bd.returns] at h; cases h)
        refine gl _ ⟨_, _, own_retI X1 hx Bd.returns (hb hby d3_76) hr, hrun, hended, _, _, rfl, ?_, ⟨_, rfl⟩, hW, hsame.mono (by decide) (by decide)⟩
        show Q3 bb pf pt h0 n0 _ T1.heap _
        rw [e1]
        exact ⟨congrArg (fun z => some (Value.int z)) (Eq.trans (by simp [own_h, hc10]) (c3.symm.trans hrr')), N1, rfl⟩
  exact loop 9 i0 _ One.u m1 m2 (by omega) hrr
theorem pd_1 : parseMethodDescriptor "(I)B" = some ⟨[.int], some .byte⟩ := by decide +kernel
theorem pd_2 : parseMethodDescriptor "([BIII)Z" = some ⟨[(.array .byte), .int, .int, .int], some .boolean⟩ := by decide +kernel
theorem pd_3 : parseMethodDescriptor "([BII)I" = some ⟨[(.array .byte), .int, .int], some .int⟩ := by decide +kernel
theorem ef_0 (m : MethodId) (p0 : Int32) (p1 : Int32) (p2 : Int32) : entryFrame m #[(.int p0), (.int p1), (.int p2)] maxLocals = mkF m 0 #[.val (.int p0), .val (.int p1), .val (.int p2), .unset, .unset, .unset, .unset, .unset, .unset] [] := by first | (simp [entryFrame, mkF, argsToLocals, Value.category, maxLocals]; done) | rfl
def Q0 (h0 : Heap) (n0 : Nat) (v : Option Value) (h : Heap) (L : List Loc) : Prop := v = some (.int 1) ∧ Fr n0 L
set_option maxRecDepth 65536 in
set_option maxHeartbeats 40000000 in
theorem rm0 (l : Launch) (Z : State) (a0 : Array Value) (hw : ∀ d ∈ tables_1, d.before a0 Z = true) (ws : List Jvm.Cond) (p0 : Int32) (p1 : Int32) (p2 : Int32)  (h0 : Heap) (n0 : Nat) (Z0 : n0 ≤ h0.size)  :
    MetFree l x (head1 (Jvm.Cond.code x code maxLocals ret :: ws) room_1) (fun a U => a = #[(.int p0), (.int p1), (.int p2)] ∧ Z.Warmed39 U.vm ∧ U.heap = h0) (fun _ _ _ _ _ => True) (fun _ U o U' => ∃ v L, o = .returned v ∧ Q0 h0 n0 v U'.heap L ∧ FrameEnd U o U' L room_1.cells room_1.slots) := by
  refine MetFree.of_bodySF (plainFor_of_name pn_com_example_stavegate_stavegate_http_RequestHeadEndPinLaw) hisR ?_
  intro p e s m args below meth c s₁ Bd hml0 hP hK
  obtain ⟨rfl, hZ, hh⟩ := hP
  have hx := Bd.exec
  have hby := Bd.bytes
  have hml : c.maxLocals = 9 := hml0
  have hown : s.vm.findClass "com/example/stavegate/stavegate/http/RequestHeadEndPinLaw" = some m.cls := findClass_of_methodNamed Bd.named
  have hnm := (name_of_methodNamed Bd.named Bd.method).1
  have X0 : Stand p l e room_1 s m #[(.int p0), (.int p1), (.int p2)] below meth c s₁ [] 0 0 := Stand.of_body Bd
  have e0 : s₁.heap = h0 := by rw [← hh, Bd.state]; rfl
  have N0 := Fr.nil n0
  have pre0 : ∀ t, Steps p.tables e below (s₁.setTop (mkF m 0 #[.val (.int p0), .val (.int p1), .val (.int p2), .unset, .unset, .unset, .unset, .unset, .unset] [])) t → Steps p.tables e below (s₁.setTop (entryFrame m #[(.int p0), (.int p1), (.int p2)] maxLocals)) t := fun t k => castTop (ef_0 m p0 p1 p2) k
  have K0 := Keep.refl h0 []
  refine own_start pre0 fun G gs gl => ?_
  show G (s₁.setTop (mkF m 0 #[.val (.int p0), .val (.int p1), .val (.int p2), .unset, .unset, .unset, .unset, .unset, .unset] []))
  refine gs (fun t k => XS.bipush X0.here hx rfl (hb hby at_0) k) ?_
  show G (s₁.setTop (mkF m 2 #[.val (.int p0), .val (.int p1), .val (.int p2), .unset, .unset, .unset, .unset, .unset, .unset] [(.int (8 : Int32))]))
  obtain ⟨T1, h1, k1, X1, e1, E1, A1, st1⟩ := newP X0 hx hZ (hw _ (List.mem_of_getElem? (i := 0) rfl)) e0 (g := (mkF m 2 #[.val (.int p0), .val (.int p1), .val (.int p2), .unset, .unset, .unset, .unset, .unset, .unset] [(.int (8 : Int32))])) rfl (hb hby at_2) rfl (by decide) (cap := 8) (by decide) (by decide) (by decide) (by decide)
  obtain ⟨b1, g1⟩ : ∃ z, z = h0.size := ⟨_, rfl⟩
  rw [← g1] at A1 st1
  have sz_b1 : h0.size ≤ b1 := Nat.le_trans K0.1 (Nat.le_of_eq g1.symm)
  have g_b1 : n0 ≤ b1 := Nat.le_trans Z0 sz_b1
  have K2 := K0.ext E1
  have V_b1 : Arv Z h1 b1 k1 .byte (8 : Int32) [(.int (0 : Int32)), (.int (0 : Int32)), (.int (0 : Int32)), (.int (0 : Int32)), (.int (0 : Int32)), (.int (0 : Int32)), (.int (0 : Int32)), (.int (0 : Int32))] (.int (0 : Int32)) := (Arv.new A1 (by decide)).pad (pad_rep [] (.int (0 : Int32)) 8)
  obtain ⟨vl1, hl1, V_b1a⟩ : ∃ vs, vs.length = 8 ∧ Arv Z h1 b1 k1 .byte (8 : Int32) vs (.int (0 : Int32)) := ⟨_, rfl, V_b1⟩
  refine gs (fun t k => st1 _ k) ?_
  show G (T1.setTop (mkF m 4 #[.val (.int p0), .val (.int p1), .val (.int p2), .unset, .unset, .unset, .unset, .unset, .unset] [(.ref b1)]))
  refine gs (fun t k => XS.astoreN X1.here hx rfl (hb hby at_4) rfl rfl (l' := #[.val (.int p0), .val (.int p1), .val (.int p2), .val (.ref b1), .unset, .unset, .unset, .unset, .unset]) rfl k) ?_
  show G (T1.setTop (mkF m 5 #[.val (.int p0), .val (.int p1), .val (.int p2), .val (.ref b1), .unset, .unset, .unset, .unset, .unset] []))
  refine gs (fun t k => XS.aloadN X1.here hx rfl (hb hby at_5) rfl rfl k) ?_
  show G (T1.setTop (mkF m 6 #[.val (.int p0), .val (.int p1), .val (.int p2), .val (.ref b1), .unset, .unset, .unset, .unset, .unset] [(.ref b1)]))
  refine gs (fun t k => XS.iconst X1.here hx rfl (hb hby at_6) k) ?_
  show G (T1.setTop (mkF m 7 #[.val (.int p0), .val (.int p1), .val (.int p2), .val (.ref b1), .unset, .unset, .unset, .unset, .unset] [(.int (0 : Int32)), (.ref b1)]))
  refine gs (fun t k => XS.iloadN X1.here hx rfl (hb hby at_7) rfl k) ?_
  show G (T1.setTop (mkF m 8 #[.val (.int p0), .val (.int p1), .val (.int p2), .val (.ref b1), .unset, .unset, .unset, .unset, .unset] [(.int p0), (.int (0 : Int32)), (.ref b1)]))
  obtain ⟨_, _, ⟨T3, L3, k3, n3⟩, -, X3, ⟨Lc3, hQ3, l3, y3, z3⟩, st3⟩ := Jvm.LawKit.callS X1 hx (y := (⟨"com/example/stavegate/stavegate/http/RequestHeadEndPinLaw", "pick", "(I)B"⟩ : MethodName)) hown (mvT hZ (hw _ (List.mem_of_getElem? (i := 1) rfl))) (mvT hZ (hw _ (List.mem_of_getElem? (i := 2) rfl))) (mvT hZ (hw _ (List.mem_of_getElem? (i := 3) rfl))) (mvT hZ (hw _ (List.mem_of_getElem? (i := 4) rfl))) (by decide) (backOf (W := 2) (rm1 l Z a0 hw [] p0 h1 n0 (Nat.le_trans Z0 K2.1)) hZ (hw _ (List.mem_of_getElem? (i := 4) rfl)) (hw _ (List.mem_of_getElem? (i := 3) rfl)) (by decide) (by decide)) (g := (mkF m 8 #[.val (.int p0), .val (.int p1), .val (.int p2), .val (.ref b1), .unset, .unset, .unset, .unset, .unset] [(.int p0), (.int (0 : Int32)), (.ref b1)])) rfl (by rw [hml]; rfl) (argsL := [(.int p0)]) (rest := [(.int (0 : Int32)), (.ref b1)]) (lenOf pd_1 rfl) rfl (by show 2 * 0 + _ ≤ _; exact Nat.le_of_eq rfl) (hb hby at_8) (fun _ _ => ⟨rfl, e1, (by decide : 1 + 0 ≤ _), (by decide : 8 + 0 ≤ _)⟩)
  dsimp only [Pt.U, Pt.locs, Pt.cells, Pt.slots] at X3 l3 y3 z3 st3 hQ3
  subst y3 z3
  obtain ⟨zz3, rfl, N3q, e3⟩ := hQ3
  have N3 : Fr n0 L3 := by rw [l3]; exact Fr.app N0 N3q
  refine gs (fun t k => st3 _ k) ?_
  show G (T3.setTop (mkF m 11 #[.val (.int p0), .val (.int p1), .val (.int p2), .val (.ref b1), .unset, .unset, .unset, .unset, .unset] [(.int zz3), (.int (0 : Int32)), (.ref b1)]))
  obtain ⟨vc4, vA4, vq4, vS4, vN4, vH4, vG4⟩ := V_b1a
  have hin4 : ¬ ((0 : Int32) < 0 ∨ vc4.slots.size ≤ ((0 : Int32)).toNatClampNeg) := inb_of vS4 ⟨by decide, by decide⟩
  obtain ⟨T4, h4, X4, e4, W4, st4⟩ := stB X3 hx hZ e3 vA4 (j := (0 : Int32)) hin4 (g := (mkF m 11 #[.val (.int p0), .val (.int p1), .val (.int p2), .val (.ref b1), .unset, .unset, .unset, .unset, .unset] [(.int zz3), (.int (0 : Int32)), (.ref b1)])) rfl rfl (hb hby at_11)
  have K5 := K2.wr W4 (Or.inr sz_b1)
  obtain ⟨vl4, hl4, V_b1_q4⟩ := own_arvset vA4 vq4 vS4 vN4 vH4 vG4 (fits_nar_byte _) W4 0 rfl hl1 (by decide)
  have N4 := Fr.snoc X4 N3 g_b1
  refine gs (fun t k => st4 _ k) ?_
  show G (T4.setTop (mkF m 12 #[.val (.int p0), .val (.int p1), .val (.int p2), .val (.ref b1), .unset, .unset, .unset, .unset, .unset] []))
  refine gs (fun t k => XS.aloadN X4.here hx rfl (hb hby at_12) rfl rfl k) ?_
  show G (T4.setTop (mkF m 13 #[.val (.int p0), .val (.int p1), .val (.int p2), .val (.ref b1), .unset, .unset, .unset, .unset, .unset] [(.ref b1)]))
  refine gs (fun t k => XS.iconst X4.here hx rfl (hb hby at_13) k) ?_
  show G (T4.setTop (mkF m 14 #[.val (.int p0), .val (.int p1), .val (.int p2), .val (.ref b1), .unset, .unset, .unset, .unset, .unset] [(.int (1 : Int32)), (.ref b1)]))
  refine gs (fun t k => XS.iloadN X4.here hx rfl (hb hby at_14) rfl k) ?_
  show G (T4.setTop (mkF m 15 #[.val (.int p0), .val (.int p1), .val (.int p2), .val (.ref b1), .unset, .unset, .unset, .unset, .unset] [(.int p0), (.int (1 : Int32)), (.ref b1)]))
  refine gs (fun t k => XS.iconst X4.here hx rfl (hb hby at_15) k) ?_
  show G (T4.setTop (mkF m 16 #[.val (.int p0), .val (.int p1), .val (.int p2), .val (.ref b1), .unset, .unset, .unset, .unset, .unset] [(.int (2 : Int32)), (.int p0), (.int (1 : Int32)), (.ref b1)]))
  refine gs (fun t k => XS.iushr X4.here hx rfl (hb hby at_16) rfl k) ?_
  show G (T4.setTop (mkF m 17 #[.val (.int p0), .val (.int p1), .val (.int p2), .val (.ref b1), .unset, .unset, .unset, .unset, .unset] [(.int ((p0.toUInt32 >>> ((2 : Int32) &&& 31).toUInt32).toInt32)), (.int (1 : Int32)), (.ref b1)]))
  obtain ⟨_, _, ⟨T6, L6, k6, n6⟩, -, X6, ⟨Lc6, hQ6, l6, y6, z6⟩, st6⟩ := Jvm.LawKit.callS X4 hx (y := (⟨"com/example/stavegate/stavegate/http/RequestHeadEndPinLaw", "pick", "(I)B"⟩ : MethodName)) hown (mvT hZ (hw _ (List.mem_of_getElem? (i := 1) rfl))) (mvT hZ (hw _ (List.mem_of_getElem? (i := 2) rfl))) (mvT hZ (hw _ (List.mem_of_getElem? (i := 3) rfl))) (mvT hZ (hw _ (List.mem_of_getElem? (i := 4) rfl))) (by decide) (backOf (W := 2) (rm1 l Z a0 hw [] ((p0.toUInt32 >>> ((2 : Int32) &&& 31).toUInt32).toInt32) h4 n0 (Nat.le_trans Z0 K5.1)) hZ (hw _ (List.mem_of_getElem? (i := 4) rfl)) (hw _ (List.mem_of_getElem? (i := 3) rfl)) (by decide) (by decide)) (g := (mkF m 17 #[.val (.int p0), .val (.int p1), .val (.int p2), .val (.ref b1), .unset, .unset, .unset, .unset, .unset] [(.int ((p0.toUInt32 >>> ((2 : Int32) &&& 31).toUInt32).toInt32)), (.int (1 : Int32)), (.ref b1)])) rfl (by rw [hml]; rfl) (argsL := [(.int ((p0.toUInt32 >>> ((2 : Int32) &&& 31).toUInt32).toInt32))]) (rest := [(.int (1 : Int32)), (.ref b1)]) (lenOf pd_1 rfl) rfl (by show 2 * 0 + _ ≤ _; exact Nat.le_of_eq rfl) (hb hby at_17) (fun _ _ => ⟨rfl, e4, (by decide : 1 + 0 ≤ _), (by decide : 8 + 0 ≤ _)⟩)
  dsimp only [Pt.U, Pt.locs, Pt.cells, Pt.slots] at X6 l6 y6 z6 st6 hQ6
  subst y6 z6
  obtain ⟨zz6, rfl, N6q, e6⟩ := hQ6
  have N6 : Fr n0 L6 := by rw [l6]; exact Fr.app N4 N6q
  refine gs (fun t k => st6 _ k) ?_
  show G (T6.setTop (mkF m 20 #[.val (.int p0), .val (.int p1), .val (.int p2), .val (.ref b1), .unset, .unset, .unset, .unset, .unset] [(.int zz6), (.int (1 : Int32)), (.ref b1)]))
  obtain ⟨vc7, vA7, vq7, vS7, vN7, vH7, vG7⟩ := V_b1_q4
  have hin7 : ¬ ((1 : Int32) < 0 ∨ vc7.slots.size ≤ ((1 : Int32)).toNatClampNeg) := inb_of vS7 ⟨by decide, by decide⟩
  obtain ⟨T7, h7, X7, e7, W7, st7⟩ := stB X6 hx hZ e6 vA7 (j := (1 : Int32)) hin7 (g := (mkF m 20 #[.val (.int p0), .val (.int p1), .val (.int p2), .val (.ref b1), .unset, .unset, .unset, .unset, .unset] [(.int zz6), (.int (1 : Int32)), (.ref b1)])) rfl rfl (hb hby at_20)
  have K8 := K5.wr W7 (Or.inr sz_b1)
  obtain ⟨vl7, hl7, V_b1_q7⟩ := own_arvset vA7 vq7 vS7 vN7 vH7 vG7 (fits_nar_byte _) W7 1 rfl hl4 (by decide)
  have N7 := Fr.snoc X7 N6 g_b1
  refine gs (fun t k => st7 _ k) ?_
  show G (T7.setTop (mkF m 21 #[.val (.int p0), .val (.int p1), .val (.int p2), .val (.ref b1), .unset, .unset, .unset, .unset, .unset] []))
  refine gs (fun t k => XS.aloadN X7.here hx rfl (hb hby at_21) rfl rfl k) ?_
  show G (T7.setTop (mkF m 22 #[.val (.int p0), .val (.int p1), .val (.int p2), .val (.ref b1), .unset, .unset, .unset, .unset, .unset] [(.ref b1)]))
  refine gs (fun t k => XS.iconst X7.here hx rfl (hb hby at_22) k) ?_
  show G (T7.setTop (mkF m 23 #[.val (.int p0), .val (.int p1), .val (.int p2), .val (.ref b1), .unset, .unset, .unset, .unset, .unset] [(.int (2 : Int32)), (.ref b1)]))
  refine gs (fun t k => XS.iloadN X7.here hx rfl (hb hby at_23) rfl k) ?_
  show G (T7.setTop (mkF m 24 #[.val (.int p0), .val (.int p1), .val (.int p2), .val (.ref b1), .unset, .unset, .unset, .unset, .unset] [(.int p0), (.int (2 : Int32)), (.ref b1)]))
  refine gs (fun t k => XS.iconst X7.here hx rfl (hb hby at_24) k) ?_
  show G (T7.setTop (mkF m 25 #[.val (.int p0), .val (.int p1), .val (.int p2), .val (.ref b1), .unset, .unset, .unset, .unset, .unset] [(.int (4 : Int32)), (.int p0), (.int (2 : Int32)), (.ref b1)]))
  refine gs (fun t k => XS.iushr X7.here hx rfl (hb hby at_25) rfl k) ?_
  show G (T7.setTop (mkF m 26 #[.val (.int p0), .val (.int p1), .val (.int p2), .val (.ref b1), .unset, .unset, .unset, .unset, .unset] [(.int ((p0.toUInt32 >>> ((4 : Int32) &&& 31).toUInt32).toInt32)), (.int (2 : Int32)), (.ref b1)]))
  obtain ⟨_, _, ⟨T9, L9, k9, n9⟩, -, X9, ⟨Lc9, hQ9, l9, y9, z9⟩, st9⟩ := Jvm.LawKit.callS X7 hx (y := (⟨"com/example/stavegate/stavegate/http/RequestHeadEndPinLaw", "pick", "(I)B"⟩ : MethodName)) hown (mvT hZ (hw _ (List.mem_of_getElem? (i := 1) rfl))) (mvT hZ (hw _ (List.mem_of_getElem? (i := 2) rfl))) (mvT hZ (hw _ (List.mem_of_getElem? (i := 3) rfl))) (mvT hZ (hw _ (List.mem_of_getElem? (i := 4) rfl))) (by decide) (backOf (W := 2) (rm1 l Z a0 hw [] ((p0.toUInt32 >>> ((4 : Int32) &&& 31).toUInt32).toInt32) h7 n0 (Nat.le_trans Z0 K8.1)) hZ (hw _ (List.mem_of_getElem? (i := 4) rfl)) (hw _ (List.mem_of_getElem? (i := 3) rfl)) (by decide) (by decide)) (g := (mkF m 26 #[.val (.int p0), .val (.int p1), .val (.int p2), .val (.ref b1), .unset, .unset, .unset, .unset, .unset] [(.int ((p0.toUInt32 >>> ((4 : Int32) &&& 31).toUInt32).toInt32)), (.int (2 : Int32)), (.ref b1)])) rfl (by rw [hml]; rfl) (argsL := [(.int ((p0.toUInt32 >>> ((4 : Int32) &&& 31).toUInt32).toInt32))]) (rest := [(.int (2 : Int32)), (.ref b1)]) (lenOf pd_1 rfl) rfl (by show 2 * 0 + _ ≤ _; exact Nat.le_of_eq rfl) (hb hby at_26) (fun _ _ => ⟨rfl, e7, (by decide : 1 + 0 ≤ _), (by decide : 8 + 0 ≤ _)⟩)
  dsimp only [Pt.U, Pt.locs, Pt.cells, Pt.slots] at X9 l9 y9 z9 st9 hQ9
  subst y9 z9
  obtain ⟨zz9, rfl, N9q, e9⟩ := hQ9
  have N9 : Fr n0 L9 := by rw [l9]; exact Fr.app N7 N9q
  refine gs (fun t k => st9 _ k) ?_
  show G (T9.setTop (mkF m 29 #[.val (.int p0), .val (.int p1), .val (.int p2), .val (.ref b1), .unset, .unset, .unset, .unset, .unset] [(.int zz9), (.int (2 : Int32)), (.ref b1)]))
  obtain ⟨vc10, vA10, vq10, vS10, vN10, vH10, vG10⟩ := V_b1_q7
  have hin10 : ¬ ((2 : Int32) < 0 ∨ vc10.slots.size ≤ ((2 : Int32)).toNatClampNeg) := inb_of vS10 ⟨by decide, by decide⟩
  obtain ⟨T10, h10, X10, e10, W10, st10⟩ := stB X9 hx hZ e9 vA10 (j := (2 : Int32)) hin10 (g := (mkF m 29 #[.val (.int p0), .val (.int p1), .val (.int p2), .val (.ref b1), .unset, .unset, .unset, .unset, .unset] [(.int zz9), (.int (2 : Int32)), (.ref b1)])) rfl rfl (hb hby at_29)
  have K11 := K8.wr W10 (Or.inr sz_b1)
  obtain ⟨vl10, hl10, V_b1_q10⟩ := own_arvset vA10 vq10 vS10 vN10 vH10 vG10 (fits_nar_byte _) W10 2 rfl hl7 (by decide)
  have N10 := Fr.snoc X10 N9 g_b1
  refine gs (fun t k => st10 _ k) ?_
  show G (T10.setTop (mkF m 30 #[.val (.int p0), .val (.int p1), .val (.int p2), .val (.ref b1), .unset, .unset, .unset, .unset, .unset] []))
  refine gs (fun t k => XS.aloadN X10.here hx rfl (hb hby at_30) rfl rfl k) ?_
  show G (T10.setTop (mkF m 31 #[.val (.int p0), .val (.int p1), .val (.int p2), .val (.ref b1), .unset, .unset, .unset, .unset, .unset] [(.ref b1)]))
  refine gs (fun t k => XS.iconst X10.here hx rfl (hb hby at_31) k) ?_
  show G (T10.setTop (mkF m 32 #[.val (.int p0), .val (.int p1), .val (.int p2), .val (.ref b1), .unset, .unset, .unset, .unset, .unset] [(.int (3 : Int32)), (.ref b1)]))
  refine gs (fun t k => XS.iloadN X10.here hx rfl (hb hby at_32) rfl k) ?_
  show G (T10.setTop (mkF m 33 #[.val (.int p0), .val (.int p1), .val (.int p2), .val (.ref b1), .unset, .unset, .unset, .unset, .unset] [(.int p0), (.int (3 : Int32)), (.ref b1)]))
  refine gs (fun t k => XS.bipush X10.here hx rfl (hb hby at_33) k) ?_
  show G (T10.setTop (mkF m 35 #[.val (.int p0), .val (.int p1), .val (.int p2), .val (.ref b1), .unset, .unset, .unset, .unset, .unset] [(.int (6 : Int32)), (.int p0), (.int (3 : Int32)), (.ref b1)]))
  refine gs (fun t k => XS.iushr X10.here hx rfl (hb hby at_35) rfl k) ?_
  show G (T10.setTop (mkF m 36 #[.val (.int p0), .val (.int p1), .val (.int p2), .val (.ref b1), .unset, .unset, .unset, .unset, .unset] [(.int ((p0.toUInt32 >>> ((6 : Int32) &&& 31).toUInt32).toInt32)), (.int (3 : Int32)), (.ref b1)]))
  obtain ⟨_, _, ⟨T12, L12, k12, n12⟩, -, X12, ⟨Lc12, hQ12, l12, y12, z12⟩, st12⟩ := Jvm.LawKit.callS X10 hx (y := (⟨"com/example/stavegate/stavegate/http/RequestHeadEndPinLaw", "pick", "(I)B"⟩ : MethodName)) hown (mvT hZ (hw _ (List.mem_of_getElem? (i := 1) rfl))) (mvT hZ (hw _ (List.mem_of_getElem? (i := 2) rfl))) (mvT hZ (hw _ (List.mem_of_getElem? (i := 3) rfl))) (mvT hZ (hw _ (List.mem_of_getElem? (i := 4) rfl))) (by decide) (backOf (W := 2) (rm1 l Z a0 hw [] ((p0.toUInt32 >>> ((6 : Int32) &&& 31).toUInt32).toInt32) h10 n0 (Nat.le_trans Z0 K11.1)) hZ (hw _ (List.mem_of_getElem? (i := 4) rfl)) (hw _ (List.mem_of_getElem? (i := 3) rfl)) (by decide) (by decide)) (g := (mkF m 36 #[.val (.int p0), .val (.int p1), .val (.int p2), .val (.ref b1), .unset, .unset, .unset, .unset, .unset] [(.int ((p0.toUInt32 >>> ((6 : Int32) &&& 31).toUInt32).toInt32)), (.int (3 : Int32)), (.ref b1)])) rfl (by rw [hml]; rfl) (argsL := [(.int ((p0.toUInt32 >>> ((6 : Int32) &&& 31).toUInt32).toInt32))]) (rest := [(.int (3 : Int32)), (.ref b1)]) (lenOf pd_1 rfl) rfl (by show 2 * 0 + _ ≤ _; exact Nat.le_of_eq rfl) (hb hby at_36) (fun _ _ => ⟨rfl, e10, (by decide : 1 + 0 ≤ _), (by decide : 8 + 0 ≤ _)⟩)
  dsimp only [Pt.U, Pt.locs, Pt.cells, Pt.slots] at X12 l12 y12 z12 st12 hQ12
  subst y12 z12
  obtain ⟨zz12, rfl, N12q, e12⟩ := hQ12
  have N12 : Fr n0 L12 := by rw [l12]; exact Fr.app N10 N12q
  refine gs (fun t k => st12 _ k) ?_
  show G (T12.setTop (mkF m 39 #[.val (.int p0), .val (.int p1), .val (.int p2), .val (.ref b1), .unset, .unset, .unset, .unset, .unset] [(.int zz12), (.int (3 : Int32)), (.ref b1)]))
  obtain ⟨vc13, vA13, vq13, vS13, vN13, vH13, vG13⟩ := V_b1_q10
  have hin13 : ¬ ((3 : Int32) < 0 ∨ vc13.slots.size ≤ ((3 : Int32)).toNatClampNeg) := inb_of vS13 ⟨by decide, by decide⟩
  obtain ⟨T13, h13, X13, e13, W13, st13⟩ := stB X12 hx hZ e12 vA13 (j := (3 : Int32)) hin13 (g := (mkF m 39 #[.val (.int p0), .val (.int p1), .val (.int p2), .val (.ref b1), .unset, .unset, .unset, .unset, .unset] [(.int zz12), (.int (3 : Int32)), (.ref b1)])) rfl rfl (hb hby at_39)
  have K14 := K11.wr W13 (Or.inr sz_b1)
  obtain ⟨vl13, hl13, V_b1_q13⟩ := own_arvset vA13 vq13 vS13 vN13 vH13 vG13 (fits_nar_byte _) W13 3 rfl hl10 (by decide)
  have N13 := Fr.snoc X13 N12 g_b1
  refine gs (fun t k => st13 _ k) ?_
  show G (T13.setTop (mkF m 40 #[.val (.int p0), .val (.int p1), .val (.int p2), .val (.ref b1), .unset, .unset, .unset, .unset, .unset] []))
  refine gs (fun t k => XS.aloadN X13.here hx rfl (hb hby at_40) rfl rfl k) ?_
  show G (T13.setTop (mkF m 41 #[.val (.int p0), .val (.int p1), .val (.int p2), .val (.ref b1), .unset, .unset, .unset, .unset, .unset] [(.ref b1)]))
  refine gs (fun t k => XS.iconst X13.here hx rfl (hb hby at_41) k) ?_
  show G (T13.setTop (mkF m 42 #[.val (.int p0), .val (.int p1), .val (.int p2), .val (.ref b1), .unset, .unset, .unset, .unset, .unset] [(.int (4 : Int32)), (.ref b1)]))
  refine gs (fun t k => XS.iloadN X13.here hx rfl (hb hby at_42) rfl k) ?_
  show G (T13.setTop (mkF m 43 #[.val (.int p0), .val (.int p1), .val (.int p2), .val (.ref b1), .unset, .unset, .unset, .unset, .unset] [(.int p0), (.int (4 : Int32)), (.ref b1)]))
  refine gs (fun t k => XS.bipush X13.here hx rfl (hb hby at_43) k) ?_
  show G (T13.setTop (mkF m 45 #[.val (.int p0), .val (.int p1), .val (.int p2), .val (.ref b1), .unset, .unset, .unset, .unset, .unset] [(.int (8 : Int32)), (.int p0), (.int (4 : Int32)), (.ref b1)]))
  refine gs (fun t k => XS.iushr X13.here hx rfl (hb hby at_45) rfl k) ?_
  show G (T13.setTop (mkF m 46 #[.val (.int p0), .val (.int p1), .val (.int p2), .val (.ref b1), .unset, .unset, .unset, .unset, .unset] [(.int ((p0.toUInt32 >>> ((8 : Int32) &&& 31).toUInt32).toInt32)), (.int (4 : Int32)), (.ref b1)]))
  obtain ⟨_, _, ⟨T15, L15, k15, n15⟩, -, X15, ⟨Lc15, hQ15, l15, y15, z15⟩, st15⟩ := Jvm.LawKit.callS X13 hx (y := (⟨"com/example/stavegate/stavegate/http/RequestHeadEndPinLaw", "pick", "(I)B"⟩ : MethodName)) hown (mvT hZ (hw _ (List.mem_of_getElem? (i := 1) rfl))) (mvT hZ (hw _ (List.mem_of_getElem? (i := 2) rfl))) (mvT hZ (hw _ (List.mem_of_getElem? (i := 3) rfl))) (mvT hZ (hw _ (List.mem_of_getElem? (i := 4) rfl))) (by decide) (backOf (W := 2) (rm1 l Z a0 hw [] ((p0.toUInt32 >>> ((8 : Int32) &&& 31).toUInt32).toInt32) h13 n0 (Nat.le_trans Z0 K14.1)) hZ (hw _ (List.mem_of_getElem? (i := 4) rfl)) (hw _ (List.mem_of_getElem? (i := 3) rfl)) (by decide) (by decide)) (g := (mkF m 46 #[.val (.int p0), .val (.int p1), .val (.int p2), .val (.ref b1), .unset, .unset, .unset, .unset, .unset] [(.int ((p0.toUInt32 >>> ((8 : Int32) &&& 31).toUInt32).toInt32)), (.int (4 : Int32)), (.ref b1)])) rfl (by rw [hml]; rfl) (argsL := [(.int ((p0.toUInt32 >>> ((8 : Int32) &&& 31).toUInt32).toInt32))]) (rest := [(.int (4 : Int32)), (.ref b1)]) (lenOf pd_1 rfl) rfl (by show 2 * 0 + _ ≤ _; exact Nat.le_of_eq rfl) (hb hby at_46) (fun _ _ => ⟨rfl, e13, (by decide : 1 + 0 ≤ _), (by decide : 8 + 0 ≤ _)⟩)
  dsimp only [Pt.U, Pt.locs, Pt.cells, Pt.slots] at X15 l15 y15 z15 st15 hQ15
  subst y15 z15
  obtain ⟨zz15, rfl, N15q, e15⟩ := hQ15
  have N15 : Fr n0 L15 := by rw [l15]; exact Fr.app N13 N15q
  refine gs (fun t k => st15 _ k) ?_
  show G (T15.setTop (mkF m 49 #[.val (.int p0), .val (.int p1), .val (.int p2), .val (.ref b1), .unset, .unset, .unset, .unset, .unset] [(.int zz15), (.int (4 : Int32)), (.ref b1)]))
  obtain ⟨vc16, vA16, vq16, vS16, vN16, vH16, vG16⟩ := V_b1_q13
  have hin16 : ¬ ((4 : Int32) < 0 ∨ vc16.slots.size ≤ ((4 : Int32)).toNatClampNeg) := inb_of vS16 ⟨by decide, by decide⟩
  obtain ⟨T16, h16, X16, e16, W16, st16⟩ := stB X15 hx hZ e15 vA16 (j := (4 : Int32)) hin16 (g := (mkF m 49 #[.val (.int p0), .val (.int p1), .val (.int p2), .val (.ref b1), .unset, .unset, .unset, .unset, .unset] [(.int zz15), (.int (4 : Int32)), (.ref b1)])) rfl rfl (hb hby at_49)
  have K17 := K14.wr W16 (Or.inr sz_b1)
  obtain ⟨vl16, hl16, V_b1_q16⟩ := own_arvset vA16 vq16 vS16 vN16 vH16 vG16 (fits_nar_byte _) W16 4 rfl hl13 (by decide)
  have N16 := Fr.snoc X16 N15 g_b1
  refine gs (fun t k => st16 _ k) ?_
  show G (T16.setTop (mkF m 50 #[.val (.int p0), .val (.int p1), .val (.int p2), .val (.ref b1), .unset, .unset, .unset, .unset, .unset] []))
  refine gs (fun t k => XS.aloadN X16.here hx rfl (hb hby at_50) rfl rfl k) ?_
  show G (T16.setTop (mkF m 51 #[.val (.int p0), .val (.int p1), .val (.int p2), .val (.ref b1), .unset, .unset, .unset, .unset, .unset] [(.ref b1)]))
  refine gs (fun t k => XS.iconst X16.here hx rfl (hb hby at_51) k) ?_
  show G (T16.setTop (mkF m 52 #[.val (.int p0), .val (.int p1), .val (.int p2), .val (.ref b1), .unset, .unset, .unset, .unset, .unset] [(.int (5 : Int32)), (.ref b1)]))
  refine gs (fun t k => XS.iloadN X16.here hx rfl (hb hby at_52) rfl k) ?_
  show G (T16.setTop (mkF m 53 #[.val (.int p0), .val (.int p1), .val (.int p2), .val (.ref b1), .unset, .unset, .unset, .unset, .unset] [(.int p0), (.int (5 : Int32)), (.ref b1)]))
  refine gs (fun t k => XS.bipush X16.here hx rfl (hb hby at_53) k) ?_
  show G (T16.setTop (mkF m 55 #[.val (.int p0), .val (.int p1), .val (.int p2), .val (.ref b1), .unset, .unset, .unset, .unset, .unset] [(.int (10 : Int32)), (.int p0), (.int (5 : Int32)), (.ref b1)]))
  refine gs (fun t k => XS.iushr X16.here hx rfl (hb hby at_55) rfl k) ?_
  show G (T16.setTop (mkF m 56 #[.val (.int p0), .val (.int p1), .val (.int p2), .val (.ref b1), .unset, .unset, .unset, .unset, .unset] [(.int ((p0.toUInt32 >>> ((10 : Int32) &&& 31).toUInt32).toInt32)), (.int (5 : Int32)), (.ref b1)]))
  obtain ⟨_, _, ⟨T18, L18, k18, n18⟩, -, X18, ⟨Lc18, hQ18, l18, y18, z18⟩, st18⟩ := Jvm.LawKit.callS X16 hx (y := (⟨"com/example/stavegate/stavegate/http/RequestHeadEndPinLaw", "pick", "(I)B"⟩ : MethodName)) hown (mvT hZ (hw _ (List.mem_of_getElem? (i := 1) rfl))) (mvT hZ (hw _ (List.mem_of_getElem? (i := 2) rfl))) (mvT hZ (hw _ (List.mem_of_getElem? (i := 3) rfl))) (mvT hZ (hw _ (List.mem_of_getElem? (i := 4) rfl))) (by decide) (backOf (W := 2) (rm1 l Z a0 hw [] ((p0.toUInt32 >>> ((10 : Int32) &&& 31).toUInt32).toInt32) h16 n0 (Nat.le_trans Z0 K17.1)) hZ (hw _ (List.mem_of_getElem? (i := 4) rfl)) (hw _ (List.mem_of_getElem? (i := 3) rfl)) (by decide) (by decide)) (g := (mkF m 56 #[.val (.int p0), .val (.int p1), .val (.int p2), .val (.ref b1), .unset, .unset, .unset, .unset, .unset] [(.int ((p0.toUInt32 >>> ((10 : Int32) &&& 31).toUInt32).toInt32)), (.int (5 : Int32)), (.ref b1)])) rfl (by rw [hml]; rfl) (argsL := [(.int ((p0.toUInt32 >>> ((10 : Int32) &&& 31).toUInt32).toInt32))]) (rest := [(.int (5 : Int32)), (.ref b1)]) (lenOf pd_1 rfl) rfl (by show 2 * 0 + _ ≤ _; exact Nat.le_of_eq rfl) (hb hby at_56) (fun _ _ => ⟨rfl, e16, (by decide : 1 + 0 ≤ _), (by decide : 8 + 0 ≤ _)⟩)
  dsimp only [Pt.U, Pt.locs, Pt.cells, Pt.slots] at X18 l18 y18 z18 st18 hQ18
  subst y18 z18
  obtain ⟨zz18, rfl, N18q, e18⟩ := hQ18
  have N18 : Fr n0 L18 := by rw [l18]; exact Fr.app N16 N18q
  refine gs (fun t k => st18 _ k) ?_
  show G (T18.setTop (mkF m 59 #[.val (.int p0), .val (.int p1), .val (.int p2), .val (.ref b1), .unset, .unset, .unset, .unset, .unset] [(.int zz18), (.int (5 : Int32)), (.ref b1)]))
  obtain ⟨vc19, vA19, vq19, vS19, vN19, vH19, vG19⟩ := V_b1_q16
  have hin19 : ¬ ((5 : Int32) < 0 ∨ vc19.slots.size ≤ ((5 : Int32)).toNatClampNeg) := inb_of vS19 ⟨by decide, by decide⟩
  obtain ⟨T19, h19, X19, e19, W19, st19⟩ := stB X18 hx hZ e18 vA19 (j := (5 : Int32)) hin19 (g := (mkF m 59 #[.val (.int p0), .val (.int p1), .val (.int p2), .val (.ref b1), .unset, .unset, .unset, .unset, .unset] [(.int zz18), (.int (5 : Int32)), (.ref b1)])) rfl rfl (hb hby at_59)
  have K20 := K17.wr W19 (Or.inr sz_b1)
  obtain ⟨vl19, hl19, V_b1_q19⟩ := own_arvset vA19 vq19 vS19 vN19 vH19 vG19 (fits_nar_byte _) W19 5 rfl hl16 (by decide)
  have N19 := Fr.snoc X19 N18 g_b1
  refine gs (fun t k => st19 _ k) ?_
  show G (T19.setTop (mkF m 60 #[.val (.int p0), .val (.int p1), .val (.int p2), .val (.ref b1), .unset, .unset, .unset, .unset, .unset] []))
  refine gs (fun t k => XS.aloadN X19.here hx rfl (hb hby at_60) rfl rfl k) ?_
  show G (T19.setTop (mkF m 61 #[.val (.int p0), .val (.int p1), .val (.int p2), .val (.ref b1), .unset, .unset, .unset, .unset, .unset] [(.ref b1)]))
  refine gs (fun t k => XS.bipush X19.here hx rfl (hb hby at_61) k) ?_
  show G (T19.setTop (mkF m 63 #[.val (.int p0), .val (.int p1), .val (.int p2), .val (.ref b1), .unset, .unset, .unset, .unset, .unset] [(.int (6 : Int32)), (.ref b1)]))
  refine gs (fun t k => XS.iloadN X19.here hx rfl (hb hby at_63) rfl k) ?_
  show G (T19.setTop (mkF m 64 #[.val (.int p0), .val (.int p1), .val (.int p2), .val (.ref b1), .unset, .unset, .unset, .unset, .unset] [(.int p0), (.int (6 : Int32)), (.ref b1)]))
  refine gs (fun t k => XS.bipush X19.here hx rfl (hb hby at_64) k) ?_
  show G (T19.setTop (mkF m 66 #[.val (.int p0), .val (.int p1), .val (.int p2), .val (.ref b1), .unset, .unset, .unset, .unset, .unset] [(.int (12 : Int32)), (.int p0), (.int (6 : Int32)), (.ref b1)]))
  refine gs (fun t k => XS.iushr X19.here hx rfl (hb hby at_66) rfl k) ?_
  show G (T19.setTop (mkF m 67 #[.val (.int p0), .val (.int p1), .val (.int p2), .val (.ref b1), .unset, .unset, .unset, .unset, .unset] [(.int ((p0.toUInt32 >>> ((12 : Int32) &&& 31).toUInt32).toInt32)), (.int (6 : Int32)), (.ref b1)]))
  obtain ⟨_, _, ⟨T21, L21, k21, n21⟩, -, X21, ⟨Lc21, hQ21, l21, y21, z21⟩, st21⟩ := Jvm.LawKit.callS X19 hx (y := (⟨"com/example/stavegate/stavegate/http/RequestHeadEndPinLaw", "pick", "(I)B"⟩ : MethodName)) hown (mvT hZ (hw _ (List.mem_of_getElem? (i := 1) rfl))) (mvT hZ (hw _ (List.mem_of_getElem? (i := 2) rfl))) (mvT hZ (hw _ (List.mem_of_getElem? (i := 3) rfl))) (mvT hZ (hw _ (List.mem_of_getElem? (i := 4) rfl))) (by decide) (backOf (W := 2) (rm1 l Z a0 hw [] ((p0.toUInt32 >>> ((12 : Int32) &&& 31).toUInt32).toInt32) h19 n0 (Nat.le_trans Z0 K20.1)) hZ (hw _ (List.mem_of_getElem? (i := 4) rfl)) (hw _ (List.mem_of_getElem? (i := 3) rfl)) (by decide) (by decide)) (g := (mkF m 67 #[.val (.int p0), .val (.int p1), .val (.int p2), .val (.ref b1), .unset, .unset, .unset, .unset, .unset] [(.int ((p0.toUInt32 >>> ((12 : Int32) &&& 31).toUInt32).toInt32)), (.int (6 : Int32)), (.ref b1)])) rfl (by rw [hml]; rfl) (argsL := [(.int ((p0.toUInt32 >>> ((12 : Int32) &&& 31).toUInt32).toInt32))]) (rest := [(.int (6 : Int32)), (.ref b1)]) (lenOf pd_1 rfl) rfl (by show 2 * 0 + _ ≤ _; exact Nat.le_of_eq rfl) (hb hby at_67) (fun _ _ => ⟨rfl, e19, (by decide : 1 + 0 ≤ _), (by decide : 8 + 0 ≤ _)⟩)
  dsimp only [Pt.U, Pt.locs, Pt.cells, Pt.slots] at X21 l21 y21 z21 st21 hQ21
  subst y21 z21
  obtain ⟨zz21, rfl, N21q, e21⟩ := hQ21
  have N21 : Fr n0 L21 := by rw [l21]; exact Fr.app N19 N21q
  refine gs (fun t k => st21 _ k) ?_
  show G (T21.setTop (mkF m 70 #[.val (.int p0), .val (.int p1), .val (.int p2), .val (.ref b1), .unset, .unset, .unset, .unset, .unset] [(.int zz21), (.int (6 : Int32)), (.ref b1)]))
  obtain ⟨vc22, vA22, vq22, vS22, vN22, vH22, vG22⟩ := V_b1_q19
  have hin22 : ¬ ((6 : Int32) < 0 ∨ vc22.slots.size ≤ ((6 : Int32)).toNatClampNeg) := inb_of vS22 ⟨by decide, by decide⟩
  obtain ⟨T22, h22, X22, e22, W22, st22⟩ := stB X21 hx hZ e21 vA22 (j := (6 : Int32)) hin22 (g := (mkF m 70 #[.val (.int p0), .val (.int p1), .val (.int p2), .val (.ref b1), .unset, .unset, .unset, .unset, .unset] [(.int zz21), (.int (6 : Int32)), (.ref b1)])) rfl rfl (hb hby at_70)
  have K23 := K20.wr W22 (Or.inr sz_b1)
  obtain ⟨vl22, hl22, V_b1_q22⟩ := own_arvset vA22 vq22 vS22 vN22 vH22 vG22 (fits_nar_byte _) W22 6 rfl hl19 (by decide)
  have N22 := Fr.snoc X22 N21 g_b1
  refine gs (fun t k => st22 _ k) ?_
  show G (T22.setTop (mkF m 71 #[.val (.int p0), .val (.int p1), .val (.int p2), .val (.ref b1), .unset, .unset, .unset, .unset, .unset] []))
  refine gs (fun t k => XS.aloadN X22.here hx rfl (hb hby at_71) rfl rfl k) ?_
  show G (T22.setTop (mkF m 72 #[.val (.int p0), .val (.int p1), .val (.int p2), .val (.ref b1), .unset, .unset, .unset, .unset, .unset] [(.ref b1)]))
  refine gs (fun t k => XS.bipush X22.here hx rfl (hb hby at_72) k) ?_
  show G (T22.setTop (mkF m 74 #[.val (.int p0), .val (.int p1), .val (.int p2), .val (.ref b1), .unset, .unset, .unset, .unset, .unset] [(.int (7 : Int32)), (.ref b1)]))
  refine gs (fun t k => XS.iloadN X22.here hx rfl (hb hby at_74) rfl k) ?_
  show G (T22.setTop (mkF m 75 #[.val (.int p0), .val (.int p1), .val (.int p2), .val (.ref b1), .unset, .unset, .unset, .unset, .unset] [(.int p0), (.int (7 : Int32)), (.ref b1)]))
  refine gs (fun t k => XS.bipush X22.here hx rfl (hb hby at_75) k) ?_
  show G (T22.setTop (mkF m 77 #[.val (.int p0), .val (.int p1), .val (.int p2), .val (.ref b1), .unset, .unset, .unset, .unset, .unset] [(.int (14 : Int32)), (.int p0), (.int (7 : Int32)), (.ref b1)]))
  refine gs (fun t k => XS.iushr X22.here hx rfl (hb hby at_77) rfl k) ?_
  show G (T22.setTop (mkF m 78 #[.val (.int p0), .val (.int p1), .val (.int p2), .val (.ref b1), .unset, .unset, .unset, .unset, .unset] [(.int ((p0.toUInt32 >>> ((14 : Int32) &&& 31).toUInt32).toInt32)), (.int (7 : Int32)), (.ref b1)]))
  obtain ⟨_, _, ⟨T24, L24, k24, n24⟩, -, X24, ⟨Lc24, hQ24, l24, y24, z24⟩, st24⟩ := Jvm.LawKit.callS X22 hx (y := (⟨"com/example/stavegate/stavegate/http/RequestHeadEndPinLaw", "pick", "(I)B"⟩ : MethodName)) hown (mvT hZ (hw _ (List.mem_of_getElem? (i := 1) rfl))) (mvT hZ (hw _ (List.mem_of_getElem? (i := 2) rfl))) (mvT hZ (hw _ (List.mem_of_getElem? (i := 3) rfl))) (mvT hZ (hw _ (List.mem_of_getElem? (i := 4) rfl))) (by decide) (backOf (W := 2) (rm1 l Z a0 hw [] ((p0.toUInt32 >>> ((14 : Int32) &&& 31).toUInt32).toInt32) h22 n0 (Nat.le_trans Z0 K23.1)) hZ (hw _ (List.mem_of_getElem? (i := 4) rfl)) (hw _ (List.mem_of_getElem? (i := 3) rfl)) (by decide) (by decide)) (g := (mkF m 78 #[.val (.int p0), .val (.int p1), .val (.int p2), .val (.ref b1), .unset, .unset, .unset, .unset, .unset] [(.int ((p0.toUInt32 >>> ((14 : Int32) &&& 31).toUInt32).toInt32)), (.int (7 : Int32)), (.ref b1)])) rfl (by rw [hml]; rfl) (argsL := [(.int ((p0.toUInt32 >>> ((14 : Int32) &&& 31).toUInt32).toInt32))]) (rest := [(.int (7 : Int32)), (.ref b1)]) (lenOf pd_1 rfl) rfl (by show 2 * 0 + _ ≤ _; exact Nat.le_of_eq rfl) (hb hby at_78) (fun _ _ => ⟨rfl, e22, (by decide : 1 + 0 ≤ _), (by decide : 8 + 0 ≤ _)⟩)
  dsimp only [Pt.U, Pt.locs, Pt.cells, Pt.slots] at X24 l24 y24 z24 st24 hQ24
  subst y24 z24
  obtain ⟨zz24, rfl, N24q, e24⟩ := hQ24
  have N24 : Fr n0 L24 := by rw [l24]; exact Fr.app N22 N24q
  refine gs (fun t k => st24 _ k) ?_
  show G (T24.setTop (mkF m 81 #[.val (.int p0), .val (.int p1), .val (.int p2), .val (.ref b1), .unset, .unset, .unset, .unset, .unset] [(.int zz24), (.int (7 : Int32)), (.ref b1)]))
  obtain ⟨vc25, vA25, vq25, vS25, vN25, vH25, vG25⟩ := V_b1_q22
  have hin25 : ¬ ((7 : Int32) < 0 ∨ vc25.slots.size ≤ ((7 : Int32)).toNatClampNeg) := inb_of vS25 ⟨by decide, by decide⟩
  obtain ⟨T25, h25, X25, e25, W25, st25⟩ := stB X24 hx hZ e24 vA25 (j := (7 : Int32)) hin25 (g := (mkF m 81 #[.val (.int p0), .val (.int p1), .val (.int p2), .val (.ref b1), .unset, .unset, .unset, .unset, .unset] [(.int zz24), (.int (7 : Int32)), (.ref b1)])) rfl rfl (hb hby at_81)
  have K26 := K23.wr W25 (Or.inr sz_b1)
  obtain ⟨vl25, hl25, V_b1_q25⟩ := own_arvset vA25 vq25 vS25 vN25 vH25 vG25 (fits_nar_byte _) W25 7 rfl hl22 (by decide)
  have N25 := Fr.snoc X25 N24 g_b1
  refine gs (fun t k => st25 _ k) ?_
  show G (T25.setTop (mkF m 82 #[.val (.int p0), .val (.int p1), .val (.int p2), .val (.ref b1), .unset, .unset, .unset, .unset, .unset] []))
  obtain ⟨cl, bb, Ar, hb8⟩ := own_bytes V_b1_q25
  have Z9 : n0 ≤ h25.size := Nat.le_trans Z0 K26.1
  show G (T25.setTop (mkF m 82 #[.val (.int p0), .val (.int p1), .val (.int p2), .val (.ref b1), .unset, .unset, .unset, .unset, .unset] []))
  refine gs (fun t k => XS.iloadN X25.here hx rfl (hb hby at_82) rfl k) ?_
  show G (T25.setTop (mkF m 83 #[.val (.int p0), .val (.int p1), .val (.int p2), .val (.ref b1), .unset, .unset, .unset, .unset, .unset] [(.int p1)]))
  refine gs (fun t k => XS.sipush X25.here hx rfl (hb hby at_83) k) ?_
  show G (T25.setTop (mkF m 86 #[.val (.int p0), .val (.int p1), .val (.int p2), .val (.ref b1), .unset, .unset, .unset, .unset, .unset] [(.int (255 : Int32)), (.int p1)]))
  refine gs (fun t k => XS.iand X25.here hx rfl (hb hby at_86) rfl k) ?_
  show G (T25.setTop (mkF m 87 #[.val (.int p0), .val (.int p1), .val (.int p2), .val (.ref b1), .unset, .unset, .unset, .unset, .unset] [(.int (p1 &&& (255 : Int32)))]))
  refine gs (fun t k => XS.bipush X25.here hx rfl (hb hby at_87) k) ?_
  show G (T25.setTop (mkF m 89 #[.val (.int p0), .val (.int p1), .val (.int p2), .val (.ref b1), .unset, .unset, .unset, .unset, .unset] [(.int (9 : Int32)), (.int (p1 &&& (255 : Int32)))]))
  refine gs (fun t k => iremM X25 hx rfl (hb hby at_89) rfl (by decide) k) ?_
  show G (T25.setTop (mkF m 90 #[.val (.int p0), .val (.int p1), .val (.int p2), .val (.ref b1), .unset, .unset, .unset, .unset, .unset] [(.int ((p1 &&& (255 : Int32)) % (9 : Int32)))]))
  obtain ⟨tt, htt⟩ : ∃ z : Int32, z = ((p1 &&& (255 : Int32)) % (9 : Int32)) := ⟨_, rfl⟩
  rw [← htt]
  show G (T25.setTop (mkF m 90 #[.val (.int p0), .val (.int p1), .val (.int p2), .val (.ref b1), .unset, .unset, .unset, .unset, .unset] [(.int tt)]))
  obtain ⟨t0, t1⟩ := own_tt p1 tt htt
  have nz := own_nz tt t0 t1
  refine gs (fun t k => XS.istore X25.here hx rfl (hb hby at_90) rfl (l' := #[.val (.int p0), .val (.int p1), .val (.int p2), .val (.ref b1), .val (.int tt), .unset, .unset, .unset, .unset]) rfl k) ?_
  show G (T25.setTop (mkF m 92 #[.val (.int p0), .val (.int p1), .val (.int p2), .val (.ref b1), .val (.int tt), .unset, .unset, .unset, .unset] []))
  refine gs (fun t k => XS.iloadN X25.here hx rfl (hb hby at_92) rfl k) ?_
  show G (T25.setTop (mkF m 93 #[.val (.int p0), .val (.int p1), .val (.int p2), .val (.ref b1), .val (.int tt), .unset, .unset, .unset, .unset] [(.int p2)]))
  refine gs (fun t k => X25.ldcInt hx hown (mvT hZ (hw _ (List.mem_of_getElem? (i := 5) rfl))) (g := (mkF m 93 #[.val (.int p0), .val (.int p1), .val (.int p2), .val (.ref b1), .val (.int tt), .unset, .unset, .unset, .unset] [(.int p2)])) rfl (hb hby at_93) _ k) ?_
  show G (T25.setTop (mkF m 95 #[.val (.int p0), .val (.int p1), .val (.int p2), .val (.ref b1), .val (.int tt), .unset, .unset, .unset, .unset] [(.int (2147483647 : Int32)), (.int p2)]))
  refine gs (fun t k => XS.iand X25.here hx rfl (hb hby at_95) rfl k) ?_
  show G (T25.setTop (mkF m 96 #[.val (.int p0), .val (.int p1), .val (.int p2), .val (.ref b1), .val (.int tt), .unset, .unset, .unset, .unset] [(.int (p2 &&& (2147483647 : Int32)))]))
  refine gs (fun t k => XS.iload X25.here hx rfl (hb hby at_96) rfl k) ?_
  show G (T25.setTop (mkF m 98 #[.val (.int p0), .val (.int p1), .val (.int p2), .val (.ref b1), .val (.int tt), .unset, .unset, .unset, .unset] [(.int tt), (.int (p2 &&& (2147483647 : Int32)))]))
  refine gs (fun t k => XS.iconst X25.here hx rfl (hb hby at_98) k) ?_
  show G (T25.setTop (mkF m 99 #[.val (.int p0), .val (.int p1), .val (.int p2), .val (.ref b1), .val (.int tt), .unset, .unset, .unset, .unset] [(.int (1 : Int32)), (.int tt), (.int (p2 &&& (2147483647 : Int32)))]))
  refine gs (fun t k => XS.iadd X25.here hx rfl (hb hby at_99) rfl k) ?_
  show G (T25.setTop (mkF m 100 #[.val (.int p0), .val (.int p1), .val (.int p2), .val (.ref b1), .val (.int tt), .unset, .unset, .unset, .unset] [(.int (tt + (1 : Int32))), (.int (p2 &&& (2147483647 : Int32)))]))
  refine gs (fun t k => iremM X25 hx rfl (hb hby at_100) rfl nz k) ?_
  show G (T25.setTop (mkF m 101 #[.val (.int p0), .val (.int p1), .val (.int p2), .val (.ref b1), .val (.int tt), .unset, .unset, .unset, .unset] [(.int ((p2 &&& (2147483647 : Int32)) % (tt + (1 : Int32))))]))
  obtain ⟨ff, hff⟩ : ∃ z : Int32, z = ((p2 &&& (2147483647 : Int32)) % (tt + (1 : Int32))) := ⟨_, rfl⟩
  rw [← hff]
  show G (T25.setTop (mkF m 101 #[.val (.int p0), .val (.int p1), .val (.int p2), .val (.ref b1), .val (.int tt), .unset, .unset, .unset, .unset] [(.int ff)]))
  obtain ⟨f0, f1⟩ := own_ff p2 tt ff t0 t1 hff
  refine gs (fun t k => XS.istore X25.here hx rfl (hb hby at_101) rfl (l' := #[.val (.int p0), .val (.int p1), .val (.int p2), .val (.ref b1), .val (.int tt), .val (.int ff), .unset, .unset, .unset]) rfl k) ?_
  show G (T25.setTop (mkF m 103 #[.val (.int p0), .val (.int p1), .val (.int p2), .val (.ref b1), .val (.int tt), .val (.int ff), .unset, .unset, .unset] []))
  refine gs (fun t k => XS.iload X25.here hx rfl (hb hby at_103) rfl k) ?_
  show G (T25.setTop (mkF m 105 #[.val (.int p0), .val (.int p1), .val (.int p2), .val (.ref b1), .val (.int tt), .val (.int ff), .unset, .unset, .unset] [(.int ff)]))
  refine gs (fun t k => XS.iconst X25.here hx rfl (hb hby at_105) k) ?_
  show G (T25.setTop (mkF m 106 #[.val (.int p0), .val (.int p1), .val (.int p2), .val (.ref b1), .val (.int tt), .val (.int ff), .unset, .unset, .unset] [(.int (3 : Int32)), (.int ff)]))
  have J106 : ∀ (s_ : Int32), s_ = (if ff < (3 : Int32) then (0 : Int32) else (ff - (3 : Int32))) → G (T25.setTop (mkF m 117 #[.val (.int p0), .val (.int p1), .val (.int p2), .val (.ref b1), .val (.int tt), .val (.int ff), .unset, .unset, .unset] [(.int s_)])) := by
    intro s_ hs_
    obtain ⟨s0, s1⟩ := own_ss ff s_ tt f0 f1 hs_
    have s8 : s_.toInt ≤ 8 := by omega
    refine gs (fun t k => XS.istore X25.here hx rfl (hb hby at_117) rfl (l' := #[.val (.int p0), .val (.int p1), .val (.int p2), .val (.ref b1), .val (.int tt), .val (.int ff), .val (.int s_), .unset, .unset]) rfl k) ?_
    show G (T25.setTop (mkF m 119 #[.val (.int p0), .val (.int p1), .val (.int p2), .val (.ref b1), .val (.int tt), .val (.int ff), .val (.int s_), .unset, .unset] []))
    refine gs (fun t k => XS.iconst X25.here hx rfl (hb hby at_119) k) ?_
    show G (T25.setTop (mkF m 120 #[.val (.int p0), .val (.int p1), .val (.int p2), .val (.ref b1), .val (.int tt), .val (.int ff), .val (.int s_), .unset, .unset] [(.int (-1 : Int32))]))
    refine gs (fun t k => XS.istore X25.here hx rfl (hb hby at_120) rfl (l' := #[.val (.int p0), .val (.int p1), .val (.int p2), .val (.ref b1), .val (.int tt), .val (.int ff), .val (.int s_), .val (.int (-1 : Int32)), .unset]) rfl k) ?_
    show G (T25.setTop (mkF m 122 #[.val (.int p0), .val (.int p1), .val (.int p2), .val (.ref b1), .val (.int tt), .val (.int ff), .val (.int s_), .val (.int (-1 : Int32)), .unset] []))
    refine gs (fun t k => XS.aloadN X25.here hx rfl (hb hby at_122) rfl rfl k) ?_
    show G (T25.setTop (mkF m 123 #[.val (.int p0), .val (.int p1), .val (.int p2), .val (.ref b1), .val (.int tt), .val (.int ff), .val (.int s_), .val (.int (-1 : Int32)), .unset] [(.ref b1)]))
    refine gs (fun t k => XS.iload X25.here hx rfl (hb hby at_123) rfl k) ?_
    show G (T25.setTop (mkF m 125 #[.val (.int p0), .val (.int p1), .val (.int p2), .val (.ref b1), .val (.int tt), .val (.int ff), .val (.int s_), .val (.int (-1 : Int32)), .unset] [(.int s_), (.ref b1)]))
    refine gs (fun t k => XS.iload X25.here hx rfl (hb hby at_125) rfl k) ?_
    show G (T25.setTop (mkF m 127 #[.val (.int p0), .val (.int p1), .val (.int p2), .val (.ref b1), .val (.int tt), .val (.int ff), .val (.int s_), .val (.int (-1 : Int32)), .unset] [(.int tt), (.int s_), (.ref b1)]))
    refine gs (fun t k => XS.iconst X25.here hx rfl (hb hby at_127) k) ?_
    show G (T25.setTop (mkF m 128 #[.val (.int p0), .val (.int p1), .val (.int p2), .val (.ref b1), .val (.int tt), .val (.int ff), .val (.int s_), .val (.int (-1 : Int32)), .unset] [(.int (2 : Int32)), (.int tt), (.int s_), (.ref b1)]))
    obtain ⟨_, _, ⟨T27, L27, k27, n27⟩, -, X27, ⟨Lc27, hQ27, l27, y27, z27⟩, st27⟩ := Jvm.LawKit.callS X25 hx (y := (⟨"com/example/stavegate/stavegate/http/RequestHeadEndPinLaw", "endsAt", "([BIII)Z"⟩ : MethodName)) hown (mvT hZ (hw _ (List.mem_of_getElem? (i := 6) rfl))) (mvT hZ (hw _ (List.mem_of_getElem? (i := 7) rfl))) (mvT hZ (hw _ (List.mem_of_getElem? (i := 3) rfl))) (mvT hZ (hw _ (List.mem_of_getElem? (i := 8) rfl))) (by decide) (backOf (W := 0) (rm2 l Z a0 hw [] b1 s_ tt (2 : Int32) cl bb h25 n0 Z9 Ar hb8 s0 s8 (by decide) (by decide)) hZ (hw _ (List.mem_of_getElem? (i := 8) rfl)) (hw _ (List.mem_of_getElem? (i := 3) rfl)) (by decide) (by decide)) (g := (mkF m 128 #[.val (.int p0), .val (.int p1), .val (.int p2), .val (.ref b1), .val (.int tt), .val (.int ff), .val (.int s_), .val (.int (-1 : Int32)), .unset] [(.int (2 : Int32)), (.int tt), (.int s_), (.ref b1)])) rfl (by rw [hml]; rfl) (argsL := [(.ref b1), (.int s_), (.int tt), (.int (2 : Int32))]) (rest := []) (lenOf pd_2 rfl) rfl (by show 2 * 0 + _ ≤ _; exact Nat.le_of_eq rfl) (hb hby at_128) (fun _ _ => ⟨rfl, e25, (by decide : 1 + 0 ≤ _), (by decide : 8 + 0 ≤ _)⟩)
    dsimp only [Pt.U, Pt.locs, Pt.cells, Pt.slots] at X27 l27 y27 z27 st27 hQ27
    subst y27 z27
    obtain ⟨rfl, N27q, e27⟩ := hQ27
    have N27 : Fr n0 L27 := by rw [l27]; exact Fr.app N25 N27q
    refine gs (fun t k => st27 _ k) ?_
    show G (T27.setTop (mkF m 131 #[.val (.int p0), .val (.int p1), .val (.int p2), .val (.ref b1), .val (.int tt), .val (.int ff), .val (.int s_), .val (.int (-1 : Int32)), .unset] [(.int (own_e bb s_ tt (2 : Int32)))]))
    by_cases hc131 : (own_e bb s_ tt (2 : Int32)) = (0 : Int32)
    · refine gs (fun t k => XS.ifYes X27.here hx rfl (pc0 := 131) (pc' := 140) rfl (hb hby at_131) rfl ((if0 _ _).trans (teq hc131).1) (by decide) (by decide) k) ?_
      show G (T27.setTop (mkF m 140 #[.val (.int p0), .val (.int p1), .val (.int p2), .val (.ref b1), .val (.int tt), .val (.int ff), .val (.int s_), .val (.int (-1 : Int32)), .unset] []))
      refine gs (fun t k => XS.aloadN X27.here hx rfl (hb hby at_140) rfl rfl k) ?_
      show G (T27.setTop (mkF m 141 #[.val (.int p0), .val (.int p1), .val (.int p2), .val (.ref b1), .val (.int tt), .val (.int ff), .val (.int s_), .val (.int (-1 : Int32)), .unset] [(.ref b1)]))
      refine gs (fun t k => XS.iload X27.here hx rfl (hb hby at_141) rfl k) ?_
      show G (T27.setTop (mkF m 143 #[.val (.int p0), .val (.int p1), .val (.int p2), .val (.ref b1), .val (.int tt), .val (.int ff), .val (.int s_), .val (.int (-1 : Int32)), .unset] [(.int s_), (.ref b1)]))
      refine gs (fun t k => XS.iload X27.here hx rfl (hb hby at_143) rfl k) ?_
      show G (T27.setTop (mkF m 145 #[.val (.int p0), .val (.int p1), .val (.int p2), .val (.ref b1), .val (.int tt), .val (.int ff), .val (.int s_), .val (.int (-1 : Int32)), .unset] [(.int tt), (.int s_), (.ref b1)]))
      refine gs (fun t k => XS.iconst X27.here hx rfl (hb hby at_145) k) ?_
      show G (T27.setTop (mkF m 146 #[.val (.int p0), .val (.int p1), .val (.int p2), .val (.ref b1), .val (.int tt), .val (.int ff), .val (.int s_), .val (.int (-1 : Int32)), .unset] [(.int (3 : Int32)), (.int tt), (.int s_), (.ref b1)]))
      obtain ⟨_, _, ⟨T28, L28, k28, n28⟩, -, X28, ⟨Lc28, hQ28, l28, y28, z28⟩, st28⟩ := Jvm.LawKit.callS X27 hx (y := (⟨"com/example/stavegate/stavegate/http/RequestHeadEndPinLaw", "endsAt", "([BIII)Z"⟩ : MethodName)) hown (mvT hZ (hw _ (List.mem_of_getElem? (i := 6) rfl))) (mvT hZ (hw _ (List.mem_of_getElem? (i := 7) rfl))) (mvT hZ (hw _ (List.mem_of_getElem? (i := 3) rfl))) (mvT hZ (hw _ (List.mem_of_getElem? (i := 8) rfl))) (by decide) (backOf (W := 0) (rm2 l Z a0 hw [] b1 s_ tt (3 : Int32) cl bb h25 n0 Z9 Ar hb8 s0 s8 (by decide) (by decide)) hZ (hw _ (List.mem_of_getElem? (i := 8) rfl)) (hw _ (List.mem_of_getElem? (i := 3) rfl)) (by decide) (by decide)) (g := (mkF m 146 #[.val (.int p0), .val (.int p1), .val (.int p2), .val (.ref b1), .val (.int tt), .val (.int ff), .val (.int s_), .val (.int (-1 : Int32)), .unset] [(.int (3 : Int32)), (.int tt), (.int s_), (.ref b1)])) rfl (by rw [hml]; rfl) (argsL := [(.ref b1), (.int s_), (.int tt), (.int (3 : Int32))]) (rest := []) (lenOf pd_2 rfl) rfl (by show 2 * 0 + _ ≤ _; exact Nat.le_of_eq rfl) (hb hby at_146) (fun _ _ => ⟨rfl, e27, (by decide : 1 + 0 ≤ _), (by decide : 8 + 0 ≤ _)⟩)
      dsimp only [Pt.U, Pt.locs, Pt.cells, Pt.slots] at X28 l28 y28 z28 st28 hQ28
      subst y28 z28
      obtain ⟨rfl, N28q, e28⟩ := hQ28
      have N28 : Fr n0 L28 := by rw [l28]; exact Fr.app N27 N28q
      refine gs (fun t k => st28 _ k) ?_
      show G (T28.setTop (mkF m 149 #[.val (.int p0), .val (.int p1), .val (.int p2), .val (.ref b1), .val (.int tt), .val (.int ff), .val (.int s_), .val (.int (-1 : Int32)), .unset] [(.int (own_e bb s_ tt (3 : Int32)))]))
      by_cases hc149 : (own_e bb s_ tt (3 : Int32)) = (0 : Int32)
      · refine gs (fun t k => XS.ifYes X28.here hx rfl (pc0 := 149) (pc' := 158) rfl (hb hby at_149) rfl ((if0 _ _).trans (teq hc149).1) (by decide) (by decide) k) ?_
        show G (T28.setTop (mkF m 158 #[.val (.int p0), .val (.int p1), .val (.int p2), .val (.ref b1), .val (.int tt), .val (.int ff), .val (.int s_), .val (.int (-1 : Int32)), .unset] []))
        refine gs (fun t k => XS.aloadN X28.here hx rfl (hb hby at_158) rfl rfl k) ?_
        show G (T28.setTop (mkF m 159 #[.val (.int p0), .val (.int p1), .val (.int p2), .val (.ref b1), .val (.int tt), .val (.int ff), .val (.int s_), .val (.int (-1 : Int32)), .unset] [(.ref b1)]))
        refine gs (fun t k => XS.iload X28.here hx rfl (hb hby at_159) rfl k) ?_
        show G (T28.setTop (mkF m 161 #[.val (.int p0), .val (.int p1), .val (.int p2), .val (.ref b1), .val (.int tt), .val (.int ff), .val (.int s_), .val (.int (-1 : Int32)), .unset] [(.int s_), (.ref b1)]))
        refine gs (fun t k => XS.iload X28.here hx rfl (hb hby at_161) rfl k) ?_
        show G (T28.setTop (mkF m 163 #[.val (.int p0), .val (.int p1), .val (.int p2), .val (.ref b1), .val (.int tt), .val (.int ff), .val (.int s_), .val (.int (-1 : Int32)), .unset] [(.int tt), (.int s_), (.ref b1)]))
        refine gs (fun t k => XS.iconst X28.here hx rfl (hb hby at_163) k) ?_
        show G (T28.setTop (mkF m 164 #[.val (.int p0), .val (.int p1), .val (.int p2), .val (.ref b1), .val (.int tt), .val (.int ff), .val (.int s_), .val (.int (-1 : Int32)), .unset] [(.int (4 : Int32)), (.int tt), (.int s_), (.ref b1)]))
        obtain ⟨_, _, ⟨T29, L29, k29, n29⟩, -, X29, ⟨Lc29, hQ29, l29, y29, z29⟩, st29⟩ := Jvm.LawKit.callS X28 hx (y := (⟨"com/example/stavegate/stavegate/http/RequestHeadEndPinLaw", "endsAt", "([BIII)Z"⟩ : MethodName)) hown (mvT hZ (hw _ (List.mem_of_getElem? (i := 6) rfl))) (mvT hZ (hw _ (List.mem_of_getElem? (i := 7) rfl))) (mvT hZ (hw _ (List.mem_of_getElem? (i := 3) rfl))) (mvT hZ (hw _ (List.mem_of_getElem? (i := 8) rfl))) (by decide) (backOf (W := 0) (rm2 l Z a0 hw [] b1 s_ tt (4 : Int32) cl bb h25 n0 Z9 Ar hb8 s0 s8 (by decide) (by decide)) hZ (hw _ (List.mem_of_getElem? (i := 8) rfl)) (hw _ (List.mem_of_getElem? (i := 3) rfl)) (by decide) (by decide)) (g := (mkF m 164 #[.val (.int p0), .val (.int p1), .val (.int p2), .val (.ref b1), .val (.int tt), .val (.int ff), .val (.int s_), .val (.int (-1 : Int32)), .unset] [(.int (4 : Int32)), (.int tt), (.int s_), (.ref b1)])) rfl (by rw [hml]; rfl) (argsL := [(.ref b1), (.int s_), (.int tt), (.int (4 : Int32))]) (rest := []) (lenOf pd_2 rfl) rfl (by show 2 * 0 + _ ≤ _; exact Nat.le_of_eq rfl) (hb hby at_164) (fun _ _ => ⟨rfl, e28, (by decide : 1 + 0 ≤ _), (by decide : 8 + 0 ≤ _)⟩)
        dsimp only [Pt.U, Pt.locs, Pt.cells, Pt.slots] at X29 l29 y29 z29 st29 hQ29
        subst y29 z29
        obtain ⟨rfl, N29q, e29⟩ := hQ29
        have N29 : Fr n0 L29 := by rw [l29]; exact Fr.app N28 N29q
        refine gs (fun t k => st29 _ k) ?_
        show G (T29.setTop (mkF m 167 #[.val (.int p0), .val (.int p1), .val (.int p2), .val (.ref b1), .val (.int tt), .val (.int ff), .val (.int s_), .val (.int (-1 : Int32)), .unset] [(.int (own_e bb s_ tt (4 : Int32)))]))
        by_cases hc167 : (own_e bb s_ tt (4 : Int32)) = (0 : Int32)
        · refine gs (fun t k => XS.ifYes X29.here hx rfl (pc0 := 167) (pc' := 176) rfl (hb hby at_167) rfl ((if0 _ _).trans (teq hc167).1) (by decide) (by decide) k) ?_
          show G (T29.setTop (mkF m 176 #[.val (.int p0), .val (.int p1), .val (.int p2), .val (.ref b1), .val (.int tt), .val (.int ff), .val (.int s_), .val (.int (-1 : Int32)), .unset] []))
          refine gs (fun t k => XS.aloadN X29.here hx rfl (hb hby at_176) rfl rfl k) ?_
          show G (T29.setTop (mkF m 177 #[.val (.int p0), .val (.int p1), .val (.int p2), .val (.ref b1), .val (.int tt), .val (.int ff), .val (.int s_), .val (.int (-1 : Int32)), .unset] [(.ref b1)]))
          refine gs (fun t k => XS.iload X29.here hx rfl (hb hby at_177) rfl k) ?_
          show G (T29.setTop (mkF m 179 #[.val (.int p0), .val (.int p1), .val (.int p2), .val (.ref b1), .val (.int tt), .val (.int ff), .val (.int s_), .val (.int (-1 : Int32)), .unset] [(.int s_), (.ref b1)]))
          refine gs (fun t k => XS.iload X29.here hx rfl (hb hby at_179) rfl k) ?_
          show G (T29.setTop (mkF m 181 #[.val (.int p0), .val (.int p1), .val (.int p2), .val (.ref b1), .val (.int tt), .val (.int ff), .val (.int s_), .val (.int (-1 : Int32)), .unset] [(.int tt), (.int s_), (.ref b1)]))
          refine gs (fun t k => XS.iconst X29.here hx rfl (hb hby at_181) k) ?_
          show G (T29.setTop (mkF m 182 #[.val (.int p0), .val (.int p1), .val (.int p2), .val (.ref b1), .val (.int tt), .val (.int ff), .val (.int s_), .val (.int (-1 : Int32)), .unset] [(.int (5 : Int32)), (.int tt), (.int s_), (.ref b1)]))
          obtain ⟨_, _, ⟨T30, L30, k30, n30⟩, -, X30, ⟨Lc30, hQ30, l30, y30, z30⟩, st30⟩ := Jvm.LawKit.callS X29 hx (y := (⟨"com/example/stavegate/stavegate/http/RequestHeadEndPinLaw", "endsAt", "([BIII)Z"⟩ : MethodName)) hown (mvT hZ (hw _ (List.mem_of_getElem? (i := 6) rfl))) (mvT hZ (hw _ (List.mem_of_getElem? (i := 7) rfl))) (mvT hZ (hw _ (List.mem_of_getElem? (i := 3) rfl))) (mvT hZ (hw _ (List.mem_of_getElem? (i := 8) rfl))) (by decide) (backOf (W := 0) (rm2 l Z a0 hw [] b1 s_ tt (5 : Int32) cl bb h25 n0 Z9 Ar hb8 s0 s8 (by decide) (by decide)) hZ (hw _ (List.mem_of_getElem? (i := 8) rfl)) (hw _ (List.mem_of_getElem? (i := 3) rfl)) (by decide) (by decide)) (g := (mkF m 182 #[.val (.int p0), .val (.int p1), .val (.int p2), .val (.ref b1), .val (.int tt), .val (.int ff), .val (.int s_), .val (.int (-1 : Int32)), .unset] [(.int (5 : Int32)), (.int tt), (.int s_), (.ref b1)])) rfl (by rw [hml]; rfl) (argsL := [(.ref b1), (.int s_), (.int tt), (.int (5 : Int32))]) (rest := []) (lenOf pd_2 rfl) rfl (by show 2 * 0 + _ ≤ _; exact Nat.le_of_eq rfl) (hb hby at_182) (fun _ _ => ⟨rfl, e29, (by decide : 1 + 0 ≤ _), (by decide : 8 + 0 ≤ _)⟩)
          dsimp only [Pt.U, Pt.locs, Pt.cells, Pt.slots] at X30 l30 y30 z30 st30 hQ30
          subst y30 z30
          obtain ⟨rfl, N30q, e30⟩ := hQ30
          have N30 : Fr n0 L30 := by rw [l30]; exact Fr.app N29 N30q
          refine gs (fun t k => st30 _ k) ?_
          show G (T30.setTop (mkF m 185 #[.val (.int p0), .val (.int p1), .val (.int p2), .val (.ref b1), .val (.int tt), .val (.int ff), .val (.int s_), .val (.int (-1 : Int32)), .unset] [(.int (own_e bb s_ tt (5 : Int32)))]))
          by_cases hc185 : (own_e bb s_ tt (5 : Int32)) = (0 : Int32)
          · refine gs (fun t k => XS.ifYes X30.here hx rfl (pc0 := 185) (pc' := 194) rfl (hb hby at_185) rfl ((if0 _ _).trans (teq hc185).1) (by decide) (by decide) k) ?_
            show G (T30.setTop (mkF m 194 #[.val (.int p0), .val (.int p1), .val (.int p2), .val (.ref b1), .val (.int tt), .val (.int ff), .val (.int s_), .val (.int (-1 : Int32)), .unset] []))
            refine gs (fun t k => XS.aloadN X30.here hx rfl (hb hby at_194) rfl rfl k) ?_
            show G (T30.setTop (mkF m 195 #[.val (.int p0), .val (.int p1), .val (.int p2), .val (.ref b1), .val (.int tt), .val (.int ff), .val (.int s_), .val (.int (-1 : Int32)), .unset] [(.ref b1)]))
            refine gs (fun t k => XS.iload X30.here hx rfl (hb hby at_195) rfl k) ?_
            show G (T30.setTop (mkF m 197 #[.val (.int p0), .val (.int p1), .val (.int p2), .val (.ref b1), .val (.int tt), .val (.int ff), .val (.int s_), .val (.int (-1 : Int32)), .unset] [(.int s_), (.ref b1)]))
            refine gs (fun t k => XS.iload X30.here hx rfl (hb hby at_197) rfl k) ?_
            show G (T30.setTop (mkF m 199 #[.val (.int p0), .val (.int p1), .val (.int p2), .val (.ref b1), .val (.int tt), .val (.int ff), .val (.int s_), .val (.int (-1 : Int32)), .unset] [(.int tt), (.int s_), (.ref b1)]))
            refine gs (fun t k => XS.bipush X30.here hx rfl (hb hby at_199) k) ?_
            show G (T30.setTop (mkF m 201 #[.val (.int p0), .val (.int p1), .val (.int p2), .val (.ref b1), .val (.int tt), .val (.int ff), .val (.int s_), .val (.int (-1 : Int32)), .unset] [(.int (6 : Int32)), (.int tt), (.int s_), (.ref b1)]))
            obtain ⟨_, _, ⟨T31, L31, k31, n31⟩, -, X31, ⟨Lc31, hQ31, l31, y31, z31⟩, st31⟩ := Jvm.LawKit.callS X30 hx (y := (⟨"com/example/stavegate/stavegate/http/RequestHeadEndPinLaw", "endsAt", "([BIII)Z"⟩ : MethodName)) hown (mvT hZ (hw _ (List.mem_of_getElem? (i := 6) rfl))) (mvT hZ (hw _ (List.mem_of_getElem? (i := 7) rfl))) (mvT hZ (hw _ (List.mem_of_getElem? (i := 3) rfl))) (mvT hZ (hw _ (List.mem_of_getElem? (i := 8) rfl))) (by decide) (backOf (W := 0) (rm2 l Z a0 hw [] b1 s_ tt (6 : Int32) cl bb h25 n0 Z9 Ar hb8 s0 s8 (by decide) (by decide)) hZ (hw _ (List.mem_of_getElem? (i := 8) rfl)) (hw _ (List.mem_of_getElem? (i := 3) rfl)) (by decide) (by decide)) (g := (mkF m 201 #[.val (.int p0), .val (.int p1), .val (.int p2), .val (.ref b1), .val (.int tt), .val (.int ff), .val (.int s_), .val (.int (-1 : Int32)), .unset] [(.int (6 : Int32)), (.int tt), (.int s_), (.ref b1)])) rfl (by rw [hml]; rfl) (argsL := [(.ref b1), (.int s_), (.int tt), (.int (6 : Int32))]) (rest := []) (lenOf pd_2 rfl) rfl (by show 2 * 0 + _ ≤ _; exact Nat.le_of_eq rfl) (hb hby at_201) (fun _ _ => ⟨rfl, e30, (by decide : 1 + 0 ≤ _), (by decide : 8 + 0 ≤ _)⟩)
            dsimp only [Pt.U, Pt.locs, Pt.cells, Pt.slots] at X31 l31 y31 z31 st31 hQ31
            subst y31 z31
            obtain ⟨rfl, N31q, e31⟩ := hQ31
            have N31 : Fr n0 L31 := by rw [l31]; exact Fr.app N30 N31q
            refine gs (fun t k => st31 _ k) ?_
            show G (T31.setTop (mkF m 204 #[.val (.int p0), .val (.int p1), .val (.int p2), .val (.ref b1), .val (.int tt), .val (.int ff), .val (.int s_), .val (.int (-1 : Int32)), .unset] [(.int (own_e bb s_ tt (6 : Int32)))]))
            by_cases hc204 : (own_e bb s_ tt (6 : Int32)) = (0 : Int32)
            · refine gs (fun t k => XS.ifYes X31.here hx rfl (pc0 := 204) (pc' := 214) rfl (hb hby at_204) rfl ((if0 _ _).trans (teq hc204).1) (by decide) (by decide) k) ?_
              show G (T31.setTop (mkF m 214 #[.val (.int p0), .val (.int p1), .val (.int p2), .val (.ref b1), .val (.int tt), .val (.int ff), .val (.int s_), .val (.int (-1 : Int32)), .unset] []))
              refine gs (fun t k => XS.aloadN X31.here hx rfl (hb hby at_214) rfl rfl k) ?_
              show G (T31.setTop (mkF m 215 #[.val (.int p0), .val (.int p1), .val (.int p2), .val (.ref b1), .val (.int tt), .val (.int ff), .val (.int s_), .val (.int (-1 : Int32)), .unset] [(.ref b1)]))
              refine gs (fun t k => XS.iload X31.here hx rfl (hb hby at_215) rfl k) ?_
              show G (T31.setTop (mkF m 217 #[.val (.int p0), .val (.int p1), .val (.int p2), .val (.ref b1), .val (.int tt), .val (.int ff), .val (.int s_), .val (.int (-1 : Int32)), .unset] [(.int s_), (.ref b1)]))
              refine gs (fun t k => XS.iload X31.here hx rfl (hb hby at_217) rfl k) ?_
              show G (T31.setTop (mkF m 219 #[.val (.int p0), .val (.int p1), .val (.int p2), .val (.ref b1), .val (.int tt), .val (.int ff), .val (.int s_), .val (.int (-1 : Int32)), .unset] [(.int tt), (.int s_), (.ref b1)]))
              refine gs (fun t k => XS.bipush X31.here hx rfl (hb hby at_219) k) ?_
              show G (T31.setTop (mkF m 221 #[.val (.int p0), .val (.int p1), .val (.int p2), .val (.ref b1), .val (.int tt), .val (.int ff), .val (.int s_), .val (.int (-1 : Int32)), .unset] [(.int (7 : Int32)), (.int tt), (.int s_), (.ref b1)]))
              obtain ⟨_, _, ⟨T32, L32, k32, n32⟩, -, X32, ⟨Lc32, hQ32, l32, y32, z32⟩, st32⟩ := Jvm.LawKit.callS X31 hx (y := (⟨"com/example/stavegate/stavegate/http/RequestHeadEndPinLaw", "endsAt", "([BIII)Z"⟩ : MethodName)) hown (mvT hZ (hw _ (List.mem_of_getElem? (i := 6) rfl))) (mvT hZ (hw _ (List.mem_of_getElem? (i := 7) rfl))) (mvT hZ (hw _ (List.mem_of_getElem? (i := 3) rfl))) (mvT hZ (hw _ (List.mem_of_getElem? (i := 8) rfl))) (by decide) (backOf (W := 0) (rm2 l Z a0 hw [] b1 s_ tt (7 : Int32) cl bb h25 n0 Z9 Ar hb8 s0 s8 (by decide) (by decide)) hZ (hw _ (List.mem_of_getElem? (i := 8) rfl)) (hw _ (List.mem_of_getElem? (i := 3) rfl)) (by decide) (by decide)) (g := (mkF m 221 #[.val (.int p0), .val (.int p1), .val (.int p2), .val (.ref b1), .val (.int tt), .val (.int ff), .val (.int s_), .val (.int (-1 : Int32)), .unset] [(.int (7 : Int32)), (.int tt), (.int s_), (.ref b1)])) rfl (by rw [hml]; rfl) (argsL := [(.ref b1), (.int s_), (.int tt), (.int (7 : Int32))]) (rest := []) (lenOf pd_2 rfl) rfl (by show 2 * 0 + _ ≤ _; exact Nat.le_of_eq rfl) (hb hby at_221) (fun _ _ => ⟨rfl, e31, (by decide : 1 + 0 ≤ _), (by decide : 8 + 0 ≤ _)⟩)
              dsimp only [Pt.U, Pt.locs, Pt.cells, Pt.slots] at X32 l32 y32 z32 st32 hQ32
              subst y32 z32
              obtain ⟨rfl, N32q, e32⟩ := hQ32
              have N32 : Fr n0 L32 := by rw [l32]; exact Fr.app N31 N32q
              refine gs (fun t k => st32 _ k) ?_
              show G (T32.setTop (mkF m 224 #[.val (.int p0), .val (.int p1), .val (.int p2), .val (.ref b1), .val (.int tt), .val (.int ff), .val (.int s_), .val (.int (-1 : Int32)), .unset] [(.int (own_e bb s_ tt (7 : Int32)))]))
              by_cases hc224 : (own_e bb s_ tt (7 : Int32)) = (0 : Int32)
              · refine gs (fun t k => XS.ifYes X32.here hx rfl (pc0 := 224) (pc' := 234) rfl (hb hby at_224) rfl ((if0 _ _).trans (teq hc224).1) (by decide) (by decide) k) ?_
                show G (T32.setTop (mkF m 234 #[.val (.int p0), .val (.int p1), .val (.int p2), .val (.ref b1), .val (.int tt), .val (.int ff), .val (.int s_), .val (.int (-1 : Int32)), .unset] []))
                refine gs (fun t k => XS.aloadN X32.here hx rfl (hb hby at_234) rfl rfl k) ?_
                show G (T32.setTop (mkF m 235 #[.val (.int p0), .val (.int p1), .val (.int p2), .val (.ref b1), .val (.int tt), .val (.int ff), .val (.int s_), .val (.int (-1 : Int32)), .unset] [(.ref b1)]))
                refine gs (fun t k => XS.iload X32.here hx rfl (hb hby at_235) rfl k) ?_
                show G (T32.setTop (mkF m 237 #[.val (.int p0), .val (.int p1), .val (.int p2), .val (.ref b1), .val (.int tt), .val (.int ff), .val (.int s_), .val (.int (-1 : Int32)), .unset] [(.int s_), (.ref b1)]))
                refine gs (fun t k => XS.iload X32.here hx rfl (hb hby at_237) rfl k) ?_
                show G (T32.setTop (mkF m 239 #[.val (.int p0), .val (.int p1), .val (.int p2), .val (.ref b1), .val (.int tt), .val (.int ff), .val (.int s_), .val (.int (-1 : Int32)), .unset] [(.int tt), (.int s_), (.ref b1)]))
                refine gs (fun t k => XS.bipush X32.here hx rfl (hb hby at_239) k) ?_
                show G (T32.setTop (mkF m 241 #[.val (.int p0), .val (.int p1), .val (.int p2), .val (.ref b1), .val (.int tt), .val (.int ff), .val (.int s_), .val (.int (-1 : Int32)), .unset] [(.int (8 : Int32)), (.int tt), (.int s_), (.ref b1)]))
                obtain ⟨_, _, ⟨T33, L33, k33, n33⟩, -, X33, ⟨Lc33, hQ33, l33, y33, z33⟩, st33⟩ := Jvm.LawKit.callS X32 hx (y := (⟨"com/example/stavegate/stavegate/http/RequestHeadEndPinLaw", "endsAt", "([BIII)Z"⟩ : MethodName)) hown (mvT hZ (hw _ (List.mem_of_getElem? (i := 6) rfl))) (mvT hZ (hw _ (List.mem_of_getElem? (i := 7) rfl))) (mvT hZ (hw _ (List.mem_of_getElem? (i := 3) rfl))) (mvT hZ (hw _ (List.mem_of_getElem? (i := 8) rfl))) (by decide) (backOf (W := 0) (rm2 l Z a0 hw [] b1 s_ tt (8 : Int32) cl bb h25 n0 Z9 Ar hb8 s0 s8 (by decide) (by decide)) hZ (hw _ (List.mem_of_getElem? (i := 8) rfl)) (hw _ (List.mem_of_getElem? (i := 3) rfl)) (by decide) (by decide)) (g := (mkF m 241 #[.val (.int p0), .val (.int p1), .val (.int p2), .val (.ref b1), .val (.int tt), .val (.int ff), .val (.int s_), .val (.int (-1 : Int32)), .unset] [(.int (8 : Int32)), (.int tt), (.int s_), (.ref b1)])) rfl (by rw [hml]; rfl) (argsL := [(.ref b1), (.int s_), (.int tt), (.int (8 : Int32))]) (rest := []) (lenOf pd_2 rfl) rfl (by show 2 * 0 + _ ≤ _; exact Nat.le_of_eq rfl) (hb hby at_241) (fun _ _ => ⟨rfl, e32, (by decide : 1 + 0 ≤ _), (by decide : 8 + 0 ≤ _)⟩)
                dsimp only [Pt.U, Pt.locs, Pt.cells, Pt.slots] at X33 l33 y33 z33 st33 hQ33
                subst y33 z33
                obtain ⟨rfl, N33q, e33⟩ := hQ33
                have N33 : Fr n0 L33 := by rw [l33]; exact Fr.app N32 N33q
                refine gs (fun t k => st33 _ k) ?_
                show G (T33.setTop (mkF m 244 #[.val (.int p0), .val (.int p1), .val (.int p2), .val (.ref b1), .val (.int tt), .val (.int ff), .val (.int s_), .val (.int (-1 : Int32)), .unset] [(.int (own_e bb s_ tt (8 : Int32)))]))
                by_cases hc244 : (own_e bb s_ tt (8 : Int32)) = (0 : Int32)
                · refine gs (fun t k => XS.ifYes X33.here hx rfl (pc0 := 244) (pc' := 251) rfl (hb hby at_244) rfl ((if0 _ _).trans (teq hc244).1) (by decide) (by decide) k) ?_
                  show G (T33.setTop (mkF m 251 #[.val (.int p0), .val (.int p1), .val (.int p2), .val (.ref b1), .val (.int tt), .val (.int ff), .val (.int s_), .val (.int (-1 : Int32)), .unset] []))
                  refine gs (fun t k => XS.aloadN X33.here hx rfl (hb hby at_251) rfl rfl k) ?_
                  show G (T33.setTop (mkF m 252 #[.val (.int p0), .val (.int p1), .val (.int p2), .val (.ref b1), .val (.int tt), .val (.int ff), .val (.int s_), .val (.int (-1 : Int32)), .unset] [(.ref b1)]))
                  refine gs (fun t k => XS.iload X33.here hx rfl (hb hby at_252) rfl k) ?_
                  show G (T33.setTop (mkF m 254 #[.val (.int p0), .val (.int p1), .val (.int p2), .val (.ref b1), .val (.int tt), .val (.int ff), .val (.int s_), .val (.int (-1 : Int32)), .unset] [(.int ff), (.ref b1)]))
                  refine gs (fun t k => XS.iload X33.here hx rfl (hb hby at_254) rfl k) ?_
                  show G (T33.setTop (mkF m 256 #[.val (.int p0), .val (.int p1), .val (.int p2), .val (.ref b1), .val (.int tt), .val (.int ff), .val (.int s_), .val (.int (-1 : Int32)), .unset] [(.int tt), (.int ff), (.ref b1)]))
                  obtain ⟨_, _, ⟨T34, L34, k34, n34⟩, -, X34, ⟨Lc34, hQ34, l34, y34, z34⟩, st34⟩ := Jvm.LawKit.callS X33 hx (y := (⟨"com/example/stavegate/stavegate/http/Request", "headEnd", "([BII)I"⟩ : MethodName)) hown (mvT hZ (hw _ (List.mem_of_getElem? (i := 9) rfl))) (mvT hZ (hw _ (List.mem_of_getElem? (i := 10) rfl))) (mvT hZ (hw _ (List.mem_of_getElem? (i := 11) rfl))) (mvT hZ (hw _ (List.mem_of_getElem? (i := 12) rfl))) (by decide) (backOf (W := 0) (rm3 l Z a0 hw [] b1 ff tt cl bb h25 n0 Z9 Ar hb8 f0 f1 t1) hZ (hw _ (List.mem_of_getElem? (i := 12) rfl)) (hw _ (List.mem_of_getElem? (i := 11) rfl)) (by decide) (by decide)) (g := (mkF m 256 #[.val (.int p0), .val (.int p1), .val (.int p2), .val (.ref b1), .val (.int tt), .val (.int ff), .val (.int s_), .val (.int (-1 : Int32)), .unset] [(.int tt), (.int ff), (.ref b1)])) rfl (by rw [hml]; rfl) (argsL := [(.ref b1), (.int ff), (.int tt)]) (rest := []) (lenOf pd_3 rfl) rfl (by show 2 * 0 + _ ≤ _; exact Nat.le_of_eq rfl) (hb hby at_256) (fun _ _ => ⟨rfl, e33, (by decide : 1 + 0 ≤ _), (by decide : 8 + 0 ≤ _)⟩)
                  dsimp only [Pt.U, Pt.locs, Pt.cells, Pt.slots] at X34 l34 y34 z34 st34 hQ34
                  subst y34 z34
                  obtain ⟨rfl, N34q, e34⟩ := hQ34
                  have N34 : Fr n0 L34 := by rw [l34]; exact Fr.app N33 N34q
                  refine gs (fun t k => st34 _ k) ?_
                  show G (T34.setTop (mkF m 259 #[.val (.int p0), .val (.int p1), .val (.int p2), .val (.ref b1), .val (.int tt), .val (.int ff), .val (.int s_), .val (.int (-1 : Int32)), .unset] [(.int (own_h bb tt 9 (own_max 0 (ff - 3))))]))
                  refine gs (fun t k => XS.istore X34.here hx rfl (hb hby at_259) rfl (l' := #[.val (.int p0), .val (.int p1), .val (.int p2), .val (.ref b1), .val (.int tt), .val (.int ff), .val (.int s_), .val (.int (-1 : Int32)), .val (.int (own_h bb tt 9 (own_max 0 (ff - 3))))]) rfl k) ?_
                  show G (T34.setTop (mkF m 261 #[.val (.int p0), .val (.int p1), .val (.int p2), .val (.ref b1), .val (.int tt), .val (.int ff), .val (.int s_), .val (.int (-1 : Int32)), .val (.int (own_h bb tt 9 (own_max 0 (ff - 3))))] []))
                  refine gs (fun t k => XS.iload X34.here hx rfl (hb hby at_261) rfl k) ?_
                  show G (T34.setTop (mkF m 263 #[.val (.int p0), .val (.int p1), .val (.int p2), .val (.ref b1), .val (.int tt), .val (.int ff), .val (.int s_), .val (.int (-1 : Int32)), .val (.int (own_h bb tt 9 (own_max 0 (ff - 3))))] [(.int (own_h bb tt 9 (own_max 0 (ff - 3))))]))
                  refine gs (fun t k => XS.iload X34.here hx rfl (hb hby at_263) rfl k) ?_
                  show G (T34.setTop (mkF m 265 #[.val (.int p0), .val (.int p1), .val (.int p2), .val (.ref b1), .val (.int tt), .val (.int ff), .val (.int s_), .val (.int (-1 : Int32)), .val (.int (own_h bb tt 9 (own_max 0 (ff - 3))))] [(.int (-1 : Int32)), (.int (own_h bb tt 9 (own_max 0 (ff - 3))))]))
                  refine gs (fun t k => XS.icmpNo X34.here hx rfl (hb hby at_265) rfl (teq ((own_main bb ff tt s_ f0 f1 t1 hs_).trans (by simp [own_ref, hc131, hc149, hc167, hc185, hc204, hc224, hc244]))).2 k) ?_
                  show G (T34.setTop (mkF m 268 #[.val (.int p0), .val (.int p1), .val (.int p2), .val (.ref b1), .val (.int tt), .val (.int ff), .val (.int s_), .val (.int (-1 : Int32)), .val (.int (own_h bb tt 9 (own_max 0 (ff - 3))))] []))
                  refine gs (fun t k => XS.iconst X34.here hx rfl (hb hby at_268) k) ?_
                  show G (T34.setTop (mkF m 269 #[.val (.int p0), .val (.int p1), .val (.int p2), .val (.ref b1), .val (.int tt), .val (.int ff), .val (.int s_), .val (.int (-1 : Int32)), .val (.int (own_h bb tt 9 (own_max 0 (ff - 3))))] [(.int (1 : Int32))]))
                  refine gs (fun t k => XS.goto X34.here hx rfl (pc0 := 269) (pc' := 273) rfl (hb hby at_269) (by decide) (by decide) k) ?_
                  show G (T34.setTop (mkF m 273 #[.val (.int p0), .val (.int p1), .val (.int p2), .val (.ref b1), .val (.int tt), .val (.int ff), .val (.int s_), .val (.int (-1 : Int32)), .val (.int (own_h bb tt 9 (own_max 0 (ff - 3))))] [(.int (1 : Int32))]))
                  obtain ⟨fs, hr, hrun, hended, hW, hsame⟩ := X34.leave (v := some (.int (1 : Int32))) (fun h => by rw [Bd.returns] at h; cases h)
                  refine gl _ ⟨_, _, retN X34 hx (t := .boolean) Bd.returns (by simp) (hb hby at_273) hr, hrun, hended, _, _, rfl, ?_, ⟨_, rfl⟩, hW, hsame.mono (by decide) (by decide)⟩
                  show Q0 h0 n0 _ T34.heap _
                  rw [e34]
                  exact ⟨rfl, N34⟩
                · refine gs (fun t k => XS.ifNo X33.here hx rfl (hb hby at_244) rfl ((if0 _ _).trans (feq hc244).1) k) ?_
                  show G (T33.setTop (mkF m 247 #[.val (.int p0), .val (.int p1), .val (.int p2), .val (.ref b1), .val (.int tt), .val (.int ff), .val (.int s_), .val (.int (-1 : Int32)), .unset] []))
                  refine gs (fun t k => XS.bipush X33.here hx rfl (hb hby at_247) k) ?_
                  show G (T33.setTop (mkF m 249 #[.val (.int p0), .val (.int p1), .val (.int p2), .val (.ref b1), .val (.int tt), .val (.int ff), .val (.int s_), .val (.int (-1 : Int32)), .unset] [(.int (8 : Int32))]))
                  refine gs (fun t k => XS.istore X33.here hx rfl (hb hby at_249) rfl (l' := #[.val (.int p0), .val (.int p1), .val (.int p2), .val (.ref b1), .val (.int tt), .val (.int ff), .val (.int s_), .val (.int (8 : Int32)), .unset]) rfl k) ?_
                  show G (T33.setTop (mkF m 251 #[.val (.int p0), .val (.int p1), .val (.int p2), .val (.ref b1), .val (.int tt), .val (.int ff), .val (.int s_), .val (.int (8 : Int32)), .unset] []))
                  refine gs (fun t k => XS.aloadN X33.here hx rfl (hb hby at_251) rfl rfl k) ?_
                  show G (T33.setTop (mkF m 252 #[.val (.int p0), .val (.int p1), .val (.int p2), .val (.ref b1), .val (.int tt), .val (.int ff), .val (.int s_), .val (.int (8 : Int32)), .unset] [(.ref b1)]))
                  refine gs (fun t k => XS.iload X33.here hx rfl (hb hby at_252) rfl k) ?_
                  show G (T33.setTop (mkF m 254 #[.val (.int p0), .val (.int p1), .val (.int p2), .val (.ref b1), .val (.int tt), .val (.int ff), .val (.int s_), .val (.int (8 : Int32)), .unset] [(.int ff), (.ref b1)]))
                  refine gs (fun t k => XS.iload X33.here hx rfl (hb hby at_254) rfl k) ?_
                  show G (T33.setTop (mkF m 256 #[.val (.int p0), .val (.int p1), .val (.int p2), .val (.ref b1), .val (.int tt), .val (.int ff), .val (.int s_), .val (.int (8 : Int32)), .unset] [(.int tt), (.int ff), (.ref b1)]))
                  obtain ⟨_, _, ⟨T35, L35, k35, n35⟩, -, X35, ⟨Lc35, hQ35, l35, y35, z35⟩, st35⟩ := Jvm.LawKit.callS X33 hx (y := (⟨"com/example/stavegate/stavegate/http/Request", "headEnd", "([BII)I"⟩ : MethodName)) hown (mvT hZ (hw _ (List.mem_of_getElem? (i := 9) rfl))) (mvT hZ (hw _ (List.mem_of_getElem? (i := 10) rfl))) (mvT hZ (hw _ (List.mem_of_getElem? (i := 11) rfl))) (mvT hZ (hw _ (List.mem_of_getElem? (i := 12) rfl))) (by decide) (backOf (W := 0) (rm3 l Z a0 hw [] b1 ff tt cl bb h25 n0 Z9 Ar hb8 f0 f1 t1) hZ (hw _ (List.mem_of_getElem? (i := 12) rfl)) (hw _ (List.mem_of_getElem? (i := 11) rfl)) (by decide) (by decide)) (g := (mkF m 256 #[.val (.int p0), .val (.int p1), .val (.int p2), .val (.ref b1), .val (.int tt), .val (.int ff), .val (.int s_), .val (.int (8 : Int32)), .unset] [(.int tt), (.int ff), (.ref b1)])) rfl (by rw [hml]; rfl) (argsL := [(.ref b1), (.int ff), (.int tt)]) (rest := []) (lenOf pd_3 rfl) rfl (by show 2 * 0 + _ ≤ _; exact Nat.le_of_eq rfl) (hb hby at_256) (fun _ _ => ⟨rfl, e33, (by decide : 1 + 0 ≤ _), (by decide : 8 + 0 ≤ _)⟩)
                  dsimp only [Pt.U, Pt.locs, Pt.cells, Pt.slots] at X35 l35 y35 z35 st35 hQ35
                  subst y35 z35
                  obtain ⟨rfl, N35q, e35⟩ := hQ35
                  have N35 : Fr n0 L35 := by rw [l35]; exact Fr.app N33 N35q
                  refine gs (fun t k => st35 _ k) ?_
                  show G (T35.setTop (mkF m 259 #[.val (.int p0), .val (.int p1), .val (.int p2), .val (.ref b1), .val (.int tt), .val (.int ff), .val (.int s_), .val (.int (8 : Int32)), .unset] [(.int (own_h bb tt 9 (own_max 0 (ff - 3))))]))
                  refine gs (fun t k => XS.istore X35.here hx rfl (hb hby at_259) rfl (l' := #[.val (.int p0), .val (.int p1), .val (.int p2), .val (.ref b1), .val (.int tt), .val (.int ff), .val (.int s_), .val (.int (8 : Int32)), .val (.int (own_h bb tt 9 (own_max 0 (ff - 3))))]) rfl k) ?_
                  show G (T35.setTop (mkF m 261 #[.val (.int p0), .val (.int p1), .val (.int p2), .val (.ref b1), .val (.int tt), .val (.int ff), .val (.int s_), .val (.int (8 : Int32)), .val (.int (own_h bb tt 9 (own_max 0 (ff - 3))))] []))
                  refine gs (fun t k => XS.iload X35.here hx rfl (hb hby at_261) rfl k) ?_
                  show G (T35.setTop (mkF m 263 #[.val (.int p0), .val (.int p1), .val (.int p2), .val (.ref b1), .val (.int tt), .val (.int ff), .val (.int s_), .val (.int (8 : Int32)), .val (.int (own_h bb tt 9 (own_max 0 (ff - 3))))] [(.int (own_h bb tt 9 (own_max 0 (ff - 3))))]))
                  refine gs (fun t k => XS.iload X35.here hx rfl (hb hby at_263) rfl k) ?_
                  show G (T35.setTop (mkF m 265 #[.val (.int p0), .val (.int p1), .val (.int p2), .val (.ref b1), .val (.int tt), .val (.int ff), .val (.int s_), .val (.int (8 : Int32)), .val (.int (own_h bb tt 9 (own_max 0 (ff - 3))))] [(.int (8 : Int32)), (.int (own_h bb tt 9 (own_max 0 (ff - 3))))]))
                  refine gs (fun t k => XS.icmpNo X35.here hx rfl (hb hby at_265) rfl (teq ((own_main bb ff tt s_ f0 f1 t1 hs_).trans (by simp [own_ref, hc131, hc149, hc167, hc185, hc204, hc224, hc244]))).2 k) ?_
                  show G (T35.setTop (mkF m 268 #[.val (.int p0), .val (.int p1), .val (.int p2), .val (.ref b1), .val (.int tt), .val (.int ff), .val (.int s_), .val (.int (8 : Int32)), .val (.int (own_h bb tt 9 (own_max 0 (ff - 3))))] []))
                  refine gs (fun t k => XS.iconst X35.here hx rfl (hb hby at_268) k) ?_
                  show G (T35.setTop (mkF m 269 #[.val (.int p0), .val (.int p1), .val (.int p2), .val (.ref b1), .val (.int tt), .val (.int ff), .val (.int s_), .val (.int (8 : Int32)), .val (.int (own_h bb tt 9 (own_max 0 (ff - 3))))] [(.int (1 : Int32))]))
                  refine gs (fun t k => XS.goto X35.here hx rfl (pc0 := 269) (pc' := 273) rfl (hb hby at_269) (by decide) (by decide) k) ?_
                  show G (T35.setTop (mkF m 273 #[.val (.int p0), .val (.int p1), .val (.int p2), .val (.ref b1), .val (.int tt), .val (.int ff), .val (.int s_), .val (.int (8 : Int32)), .val (.int (own_h bb tt 9 (own_max 0 (ff - 3))))] [(.int (1 : Int32))]))
                  obtain ⟨fs, hr, hrun, hended, hW, hsame⟩ := X35.leave (v := some (.int (1 : Int32))) (fun h => by rw [Bd.returns] at h; cases h)
                  refine gl _ ⟨_, _, retN X35 hx (t := .boolean) Bd.returns (by simp) (hb hby at_273) hr, hrun, hended, _, _, rfl, ?_, ⟨_, rfl⟩, hW, hsame.mono (by decide) (by decide)⟩
                  show Q0 h0 n0 _ T35.heap _
                  rw [e35]
                  exact ⟨rfl, N35⟩
              · refine gs (fun t k => XS.ifNo X32.here hx rfl (hb hby at_224) rfl ((if0 _ _).trans (feq hc224).1) k) ?_
                show G (T32.setTop (mkF m 227 #[.val (.int p0), .val (.int p1), .val (.int p2), .val (.ref b1), .val (.int tt), .val (.int ff), .val (.int s_), .val (.int (-1 : Int32)), .unset] []))
                refine gs (fun t k => XS.bipush X32.here hx rfl (hb hby at_227) k) ?_
                show G (T32.setTop (mkF m 229 #[.val (.int p0), .val (.int p1), .val (.int p2), .val (.ref b1), .val (.int tt), .val (.int ff), .val (.int s_), .val (.int (-1 : Int32)), .unset] [(.int (7 : Int32))]))
                refine gs (fun t k => XS.istore X32.here hx rfl (hb hby at_229) rfl (l' := #[.val (.int p0), .val (.int p1), .val (.int p2), .val (.ref b1), .val (.int tt), .val (.int ff), .val (.int s_), .val (.int (7 : Int32)), .unset]) rfl k) ?_
                show G (T32.setTop (mkF m 231 #[.val (.int p0), .val (.int p1), .val (.int p2), .val (.ref b1), .val (.int tt), .val (.int ff), .val (.int s_), .val (.int (7 : Int32)), .unset] []))
                refine gs (fun t k => XS.goto X32.here hx rfl (pc0 := 231) (pc' := 251) rfl (hb hby at_231) (by decide) (by decide) k) ?_
                show G (T32.setTop (mkF m 251 #[.val (.int p0), .val (.int p1), .val (.int p2), .val (.ref b1), .val (.int tt), .val (.int ff), .val (.int s_), .val (.int (7 : Int32)), .unset] []))
                refine gs (fun t k => XS.aloadN X32.here hx rfl (hb hby at_251) rfl rfl k) ?_
                show G (T32.setTop (mkF m 252 #[.val (.int p0), .val (.int p1), .val (.int p2), .val (.ref b1), .val (.int tt), .val (.int ff), .val (.int s_), .val (.int (7 : Int32)), .unset] [(.ref b1)]))
                refine gs (fun t k => XS.iload X32.here hx rfl (hb hby at_252) rfl k) ?_
                show G (T32.setTop (mkF m 254 #[.val (.int p0), .val (.int p1), .val (.int p2), .val (.ref b1), .val (.int tt), .val (.int ff), .val (.int s_), .val (.int (7 : Int32)), .unset] [(.int ff), (.ref b1)]))
                refine gs (fun t k => XS.iload X32.here hx rfl (hb hby at_254) rfl k) ?_
                show G (T32.setTop (mkF m 256 #[.val (.int p0), .val (.int p1), .val (.int p2), .val (.ref b1), .val (.int tt), .val (.int ff), .val (.int s_), .val (.int (7 : Int32)), .unset] [(.int tt), (.int ff), (.ref b1)]))
                obtain ⟨_, _, ⟨T36, L36, k36, n36⟩, -, X36, ⟨Lc36, hQ36, l36, y36, z36⟩, st36⟩ := Jvm.LawKit.callS X32 hx (y := (⟨"com/example/stavegate/stavegate/http/Request", "headEnd", "([BII)I"⟩ : MethodName)) hown (mvT hZ (hw _ (List.mem_of_getElem? (i := 9) rfl))) (mvT hZ (hw _ (List.mem_of_getElem? (i := 10) rfl))) (mvT hZ (hw _ (List.mem_of_getElem? (i := 11) rfl))) (mvT hZ (hw _ (List.mem_of_getElem? (i := 12) rfl))) (by decide) (backOf (W := 0) (rm3 l Z a0 hw [] b1 ff tt cl bb h25 n0 Z9 Ar hb8 f0 f1 t1) hZ (hw _ (List.mem_of_getElem? (i := 12) rfl)) (hw _ (List.mem_of_getElem? (i := 11) rfl)) (by decide) (by decide)) (g := (mkF m 256 #[.val (.int p0), .val (.int p1), .val (.int p2), .val (.ref b1), .val (.int tt), .val (.int ff), .val (.int s_), .val (.int (7 : Int32)), .unset] [(.int tt), (.int ff), (.ref b1)])) rfl (by rw [hml]; rfl) (argsL := [(.ref b1), (.int ff), (.int tt)]) (rest := []) (lenOf pd_3 rfl) rfl (by show 2 * 0 + _ ≤ _; exact Nat.le_of_eq rfl) (hb hby at_256) (fun _ _ => ⟨rfl, e32, (by decide : 1 + 0 ≤ _), (by decide : 8 + 0 ≤ _)⟩)
                dsimp only [Pt.U, Pt.locs, Pt.cells, Pt.slots] at X36 l36 y36 z36 st36 hQ36
                subst y36 z36
                obtain ⟨rfl, N36q, e36⟩ := hQ36
                have N36 : Fr n0 L36 := by rw [l36]; exact Fr.app N32 N36q
                refine gs (fun t k => st36 _ k) ?_
                show G (T36.setTop (mkF m 259 #[.val (.int p0), .val (.int p1), .val (.int p2), .val (.ref b1), .val (.int tt), .val (.int ff), .val (.int s_), .val (.int (7 : Int32)), .unset] [(.int (own_h bb tt 9 (own_max 0 (ff - 3))))]))
                refine gs (fun t k => XS.istore X36.here hx rfl (hb hby at_259) rfl (l' := #[.val (.int p0), .val (.int p1), .val (.int p2), .val (.ref b1), .val (.int tt), .val (.int ff), .val (.int s_), .val (.int (7 : Int32)), .val (.int (own_h bb tt 9 (own_max 0 (ff - 3))))]) rfl k) ?_
                show G (T36.setTop (mkF m 261 #[.val (.int p0), .val (.int p1), .val (.int p2), .val (.ref b1), .val (.int tt), .val (.int ff), .val (.int s_), .val (.int (7 : Int32)), .val (.int (own_h bb tt 9 (own_max 0 (ff - 3))))] []))
                refine gs (fun t k => XS.iload X36.here hx rfl (hb hby at_261) rfl k) ?_
                show G (T36.setTop (mkF m 263 #[.val (.int p0), .val (.int p1), .val (.int p2), .val (.ref b1), .val (.int tt), .val (.int ff), .val (.int s_), .val (.int (7 : Int32)), .val (.int (own_h bb tt 9 (own_max 0 (ff - 3))))] [(.int (own_h bb tt 9 (own_max 0 (ff - 3))))]))
                refine gs (fun t k => XS.iload X36.here hx rfl (hb hby at_263) rfl k) ?_
                show G (T36.setTop (mkF m 265 #[.val (.int p0), .val (.int p1), .val (.int p2), .val (.ref b1), .val (.int tt), .val (.int ff), .val (.int s_), .val (.int (7 : Int32)), .val (.int (own_h bb tt 9 (own_max 0 (ff - 3))))] [(.int (7 : Int32)), (.int (own_h bb tt 9 (own_max 0 (ff - 3))))]))
                refine gs (fun t k => XS.icmpNo X36.here hx rfl (hb hby at_265) rfl (teq ((own_main bb ff tt s_ f0 f1 t1 hs_).trans (by simp [own_ref, hc131, hc149, hc167, hc185, hc204, hc224]))).2 k) ?_
                show G (T36.setTop (mkF m 268 #[.val (.int p0), .val (.int p1), .val (.int p2), .val (.ref b1), .val (.int tt), .val (.int ff), .val (.int s_), .val (.int (7 : Int32)), .val (.int (own_h bb tt 9 (own_max 0 (ff - 3))))] []))
                refine gs (fun t k => XS.iconst X36.here hx rfl (hb hby at_268) k) ?_
                show G (T36.setTop (mkF m 269 #[.val (.int p0), .val (.int p1), .val (.int p2), .val (.ref b1), .val (.int tt), .val (.int ff), .val (.int s_), .val (.int (7 : Int32)), .val (.int (own_h bb tt 9 (own_max 0 (ff - 3))))] [(.int (1 : Int32))]))
                refine gs (fun t k => XS.goto X36.here hx rfl (pc0 := 269) (pc' := 273) rfl (hb hby at_269) (by decide) (by decide) k) ?_
                show G (T36.setTop (mkF m 273 #[.val (.int p0), .val (.int p1), .val (.int p2), .val (.ref b1), .val (.int tt), .val (.int ff), .val (.int s_), .val (.int (7 : Int32)), .val (.int (own_h bb tt 9 (own_max 0 (ff - 3))))] [(.int (1 : Int32))]))
                obtain ⟨fs, hr, hrun, hended, hW, hsame⟩ := X36.leave (v := some (.int (1 : Int32))) (fun h => by rw [Bd.returns] at h; cases h)
                refine gl _ ⟨_, _, retN X36 hx (t := .boolean) Bd.returns (by simp) (hb hby at_273) hr, hrun, hended, _, _, rfl, ?_, ⟨_, rfl⟩, hW, hsame.mono (by decide) (by decide)⟩
                show Q0 h0 n0 _ T36.heap _
                rw [e36]
                exact ⟨rfl, N36⟩
            · refine gs (fun t k => XS.ifNo X31.here hx rfl (hb hby at_204) rfl ((if0 _ _).trans (feq hc204).1) k) ?_
              show G (T31.setTop (mkF m 207 #[.val (.int p0), .val (.int p1), .val (.int p2), .val (.ref b1), .val (.int tt), .val (.int ff), .val (.int s_), .val (.int (-1 : Int32)), .unset] []))
              refine gs (fun t k => XS.bipush X31.here hx rfl (hb hby at_207) k) ?_
              show G (T31.setTop (mkF m 209 #[.val (.int p0), .val (.int p1), .val (.int p2), .val (.ref b1), .val (.int tt), .val (.int ff), .val (.int s_), .val (.int (-1 : Int32)), .unset] [(.int (6 : Int32))]))
              refine gs (fun t k => XS.istore X31.here hx rfl (hb hby at_209) rfl (l' := #[.val (.int p0), .val (.int p1), .val (.int p2), .val (.ref b1), .val (.int tt), .val (.int ff), .val (.int s_), .val (.int (6 : Int32)), .unset]) rfl k) ?_
              show G (T31.setTop (mkF m 211 #[.val (.int p0), .val (.int p1), .val (.int p2), .val (.ref b1), .val (.int tt), .val (.int ff), .val (.int s_), .val (.int (6 : Int32)), .unset] []))
              refine gs (fun t k => XS.goto X31.here hx rfl (pc0 := 211) (pc' := 251) rfl (hb hby at_211) (by decide) (by decide) k) ?_
              show G (T31.setTop (mkF m 251 #[.val (.int p0), .val (.int p1), .val (.int p2), .val (.ref b1), .val (.int tt), .val (.int ff), .val (.int s_), .val (.int (6 : Int32)), .unset] []))
              refine gs (fun t k => XS.aloadN X31.here hx rfl (hb hby at_251) rfl rfl k) ?_
              show G (T31.setTop (mkF m 252 #[.val (.int p0), .val (.int p1), .val (.int p2), .val (.ref b1), .val (.int tt), .val (.int ff), .val (.int s_), .val (.int (6 : Int32)), .unset] [(.ref b1)]))
              refine gs (fun t k => XS.iload X31.here hx rfl (hb hby at_252) rfl k) ?_
              show G (T31.setTop (mkF m 254 #[.val (.int p0), .val (.int p1), .val (.int p2), .val (.ref b1), .val (.int tt), .val (.int ff), .val (.int s_), .val (.int (6 : Int32)), .unset] [(.int ff), (.ref b1)]))
              refine gs (fun t k => XS.iload X31.here hx rfl (hb hby at_254) rfl k) ?_
              show G (T31.setTop (mkF m 256 #[.val (.int p0), .val (.int p1), .val (.int p2), .val (.ref b1), .val (.int tt), .val (.int ff), .val (.int s_), .val (.int (6 : Int32)), .unset] [(.int tt), (.int ff), (.ref b1)]))
              obtain ⟨_, _, ⟨T37, L37, k37, n37⟩, -, X37, ⟨Lc37, hQ37, l37, y37, z37⟩, st37⟩ := Jvm.LawKit.callS X31 hx (y := (⟨"com/example/stavegate/stavegate/http/Request", "headEnd", "([BII)I"⟩ : MethodName)) hown (mvT hZ (hw _ (List.mem_of_getElem? (i := 9) rfl))) (mvT hZ (hw _ (List.mem_of_getElem? (i := 10) rfl))) (mvT hZ (hw _ (List.mem_of_getElem? (i := 11) rfl))) (mvT hZ (hw _ (List.mem_of_getElem? (i := 12) rfl))) (by decide) (backOf (W := 0) (rm3 l Z a0 hw [] b1 ff tt cl bb h25 n0 Z9 Ar hb8 f0 f1 t1) hZ (hw _ (List.mem_of_getElem? (i := 12) rfl)) (hw _ (List.mem_of_getElem? (i := 11) rfl)) (by decide) (by decide)) (g := (mkF m 256 #[.val (.int p0), .val (.int p1), .val (.int p2), .val (.ref b1), .val (.int tt), .val (.int ff), .val (.int s_), .val (.int (6 : Int32)), .unset] [(.int tt), (.int ff), (.ref b1)])) rfl (by rw [hml]; rfl) (argsL := [(.ref b1), (.int ff), (.int tt)]) (rest := []) (lenOf pd_3 rfl) rfl (by show 2 * 0 + _ ≤ _; exact Nat.le_of_eq rfl) (hb hby at_256) (fun _ _ => ⟨rfl, e31, (by decide : 1 + 0 ≤ _), (by decide : 8 + 0 ≤ _)⟩)
              dsimp only [Pt.U, Pt.locs, Pt.cells, Pt.slots] at X37 l37 y37 z37 st37 hQ37
              subst y37 z37
              obtain ⟨rfl, N37q, e37⟩ := hQ37
              have N37 : Fr n0 L37 := by rw [l37]; exact Fr.app N31 N37q
              refine gs (fun t k => st37 _ k) ?_
              show G (T37.setTop (mkF m 259 #[.val (.int p0), .val (.int p1), .val (.int p2), .val (.ref b1), .val (.int tt), .val (.int ff), .val (.int s_), .val (.int (6 : Int32)), .unset] [(.int (own_h bb tt 9 (own_max 0 (ff - 3))))]))
              refine gs (fun t k => XS.istore X37.here hx rfl (hb hby at_259) rfl (l' := #[.val (.int p0), .val (.int p1), .val (.int p2), .val (.ref b1), .val (.int tt), .val (.int ff), .val (.int s_), .val (.int (6 : Int32)), .val (.int (own_h bb tt 9 (own_max 0 (ff - 3))))]) rfl k) ?_
              show G (T37.setTop (mkF m 261 #[.val (.int p0), .val (.int p1), .val (.int p2), .val (.ref b1), .val (.int tt), .val (.int ff), .val (.int s_), .val (.int (6 : Int32)), .val (.int (own_h bb tt 9 (own_max 0 (ff - 3))))] []))
              refine gs (fun t k => XS.iload X37.here hx rfl (hb hby at_261) rfl k) ?_
              show G (T37.setTop (mkF m 263 #[.val (.int p0), .val (.int p1), .val (.int p2), .val (.ref b1), .val (.int tt), .val (.int ff), .val (.int s_), .val (.int (6 : Int32)), .val (.int (own_h bb tt 9 (own_max 0 (ff - 3))))] [(.int (own_h bb tt 9 (own_max 0 (ff - 3))))]))
              refine gs (fun t k => XS.iload X37.here hx rfl (hb hby at_263) rfl k) ?_
              show G (T37.setTop (mkF m 265 #[.val (.int p0), .val (.int p1), .val (.int p2), .val (.ref b1), .val (.int tt), .val (.int ff), .val (.int s_), .val (.int (6 : Int32)), .val (.int (own_h bb tt 9 (own_max 0 (ff - 3))))] [(.int (6 : Int32)), (.int (own_h bb tt 9 (own_max 0 (ff - 3))))]))
              refine gs (fun t k => XS.icmpNo X37.here hx rfl (hb hby at_265) rfl (teq ((own_main bb ff tt s_ f0 f1 t1 hs_).trans (by simp [own_ref, hc131, hc149, hc167, hc185, hc204]))).2 k) ?_
              show G (T37.setTop (mkF m 268 #[.val (.int p0), .val (.int p1), .val (.int p2), .val (.ref b1), .val (.int tt), .val (.int ff), .val (.int s_), .val (.int (6 : Int32)), .val (.int (own_h bb tt 9 (own_max 0 (ff - 3))))] []))
              refine gs (fun t k => XS.iconst X37.here hx rfl (hb hby at_268) k) ?_
              show G (T37.setTop (mkF m 269 #[.val (.int p0), .val (.int p1), .val (.int p2), .val (.ref b1), .val (.int tt), .val (.int ff), .val (.int s_), .val (.int (6 : Int32)), .val (.int (own_h bb tt 9 (own_max 0 (ff - 3))))] [(.int (1 : Int32))]))
              refine gs (fun t k => XS.goto X37.here hx rfl (pc0 := 269) (pc' := 273) rfl (hb hby at_269) (by decide) (by decide) k) ?_
              show G (T37.setTop (mkF m 273 #[.val (.int p0), .val (.int p1), .val (.int p2), .val (.ref b1), .val (.int tt), .val (.int ff), .val (.int s_), .val (.int (6 : Int32)), .val (.int (own_h bb tt 9 (own_max 0 (ff - 3))))] [(.int (1 : Int32))]))
              obtain ⟨fs, hr, hrun, hended, hW, hsame⟩ := X37.leave (v := some (.int (1 : Int32))) (fun h => by rw [Bd.returns] at h; cases h)
              refine gl _ ⟨_, _, retN X37 hx (t := .boolean) Bd.returns (by simp) (hb hby at_273) hr, hrun, hended, _, _, rfl, ?_, ⟨_, rfl⟩, hW, hsame.mono (by decide) (by decide)⟩
              show Q0 h0 n0 _ T37.heap _
              rw [e37]
              exact ⟨rfl, N37⟩
          · refine gs (fun t k => XS.ifNo X30.here hx rfl (hb hby at_185) rfl ((if0 _ _).trans (feq hc185).1) k) ?_
            show G (T30.setTop (mkF m 188 #[.val (.int p0), .val (.int p1), .val (.int p2), .val (.ref b1), .val (.int tt), .val (.int ff), .val (.int s_), .val (.int (-1 : Int32)), .unset] []))
            refine gs (fun t k => XS.iconst X30.here hx rfl (hb hby at_188) k) ?_
            show G (T30.setTop (mkF m 189 #[.val (.int p0), .val (.int p1), .val (.int p2), .val (.ref b1), .val (.int tt), .val (.int ff), .val (.int s_), .val (.int (-1 : Int32)), .unset] [(.int (5 : Int32))]))
            refine gs (fun t k => XS.istore X30.here hx rfl (hb hby at_189) rfl (l' := #[.val (.int p0), .val (.int p1), .val (.int p2), .val (.ref b1), .val (.int tt), .val (.int ff), .val (.int s_), .val (.int (5 : Int32)), .unset]) rfl k) ?_
            show G (T30.setTop (mkF m 191 #[.val (.int p0), .val (.int p1), .val (.int p2), .val (.ref b1), .val (.int tt), .val (.int ff), .val (.int s_), .val (.int (5 : Int32)), .unset] []))
            refine gs (fun t k => XS.goto X30.here hx rfl (pc0 := 191) (pc' := 251) rfl (hb hby at_191) (by decide) (by decide) k) ?_
            show G (T30.setTop (mkF m 251 #[.val (.int p0), .val (.int p1), .val (.int p2), .val (.ref b1), .val (.int tt), .val (.int ff), .val (.int s_), .val (.int (5 : Int32)), .unset] []))
            refine gs (fun t k => XS.aloadN X30.here hx rfl (hb hby at_251) rfl rfl k) ?_
            show G (T30.setTop (mkF m 252 #[.val (.int p0), .val (.int p1), .val (.int p2), .val (.ref b1), .val (.int tt), .val (.int ff), .val (.int s_), .val (.int (5 : Int32)), .unset] [(.ref b1)]))
            refine gs (fun t k => XS.iload X30.here hx rfl (hb hby at_252) rfl k) ?_
            show G (T30.setTop (mkF m 254 #[.val (.int p0), .val (.int p1), .val (.int p2), .val (.ref b1), .val (.int tt), .val (.int ff), .val (.int s_), .val (.int (5 : Int32)), .unset] [(.int ff), (.ref b1)]))
            refine gs (fun t k => XS.iload X30.here hx rfl (hb hby at_254) rfl k) ?_
            show G (T30.setTop (mkF m 256 #[.val (.int p0), .val (.int p1), .val (.int p2), .val (.ref b1), .val (.int tt), .val (.int ff), .val (.int s_), .val (.int (5 : Int32)), .unset] [(.int tt), (.int ff), (.ref b1)]))
            obtain ⟨_, _, ⟨T38, L38, k38, n38⟩, -, X38, ⟨Lc38, hQ38, l38, y38, z38⟩, st38⟩ := Jvm.LawKit.callS X30 hx (y := (⟨"com/example/stavegate/stavegate/http/Request", "headEnd", "([BII)I"⟩ : MethodName)) hown (mvT hZ (hw _ (List.mem_of_getElem? (i := 9) rfl))) (mvT hZ (hw _ (List.mem_of_getElem? (i := 10) rfl))) (mvT hZ (hw _ (List.mem_of_getElem? (i := 11) rfl))) (mvT hZ (hw _ (List.mem_of_getElem? (i := 12) rfl))) (by decide) (backOf (W := 0) (rm3 l Z a0 hw [] b1 ff tt cl bb h25 n0 Z9 Ar hb8 f0 f1 t1) hZ (hw _ (List.mem_of_getElem? (i := 12) rfl)) (hw _ (List.mem_of_getElem? (i := 11) rfl)) (by decide) (by decide)) (g := (mkF m 256 #[.val (.int p0), .val (.int p1), .val (.int p2), .val (.ref b1), .val (.int tt), .val (.int ff), .val (.int s_), .val (.int (5 : Int32)), .unset] [(.int tt), (.int ff), (.ref b1)])) rfl (by rw [hml]; rfl) (argsL := [(.ref b1), (.int ff), (.int tt)]) (rest := []) (lenOf pd_3 rfl) rfl (by show 2 * 0 + _ ≤ _; exact Nat.le_of_eq rfl) (hb hby at_256) (fun _ _ => ⟨rfl, e30, (by decide : 1 + 0 ≤ _), (by decide : 8 + 0 ≤ _)⟩)
            dsimp only [Pt.U, Pt.locs, Pt.cells, Pt.slots] at X38 l38 y38 z38 st38 hQ38
            subst y38 z38
            obtain ⟨rfl, N38q, e38⟩ := hQ38
            have N38 : Fr n0 L38 := by rw [l38]; exact Fr.app N30 N38q
            refine gs (fun t k => st38 _ k) ?_
            show G (T38.setTop (mkF m 259 #[.val (.int p0), .val (.int p1), .val (.int p2), .val (.ref b1), .val (.int tt), .val (.int ff), .val (.int s_), .val (.int (5 : Int32)), .unset] [(.int (own_h bb tt 9 (own_max 0 (ff - 3))))]))
            refine gs (fun t k => XS.istore X38.here hx rfl (hb hby at_259) rfl (l' := #[.val (.int p0), .val (.int p1), .val (.int p2), .val (.ref b1), .val (.int tt), .val (.int ff), .val (.int s_), .val (.int (5 : Int32)), .val (.int (own_h bb tt 9 (own_max 0 (ff - 3))))]) rfl k) ?_
            show G (T38.setTop (mkF m 261 #[.val (.int p0), .val (.int p1), .val (.int p2), .val (.ref b1), .val (.int tt), .val (.int ff), .val (.int s_), .val (.int (5 : Int32)), .val (.int (own_h bb tt 9 (own_max 0 (ff - 3))))] []))
            refine gs (fun t k => XS.iload X38.here hx rfl (hb hby at_261) rfl k) ?_
            show G (T38.setTop (mkF m 263 #[.val (.int p0), .val (.int p1), .val (.int p2), .val (.ref b1), .val (.int tt), .val (.int ff), .val (.int s_), .val (.int (5 : Int32)), .val (.int (own_h bb tt 9 (own_max 0 (ff - 3))))] [(.int (own_h bb tt 9 (own_max 0 (ff - 3))))]))
            refine gs (fun t k => XS.iload X38.here hx rfl (hb hby at_263) rfl k) ?_
            show G (T38.setTop (mkF m 265 #[.val (.int p0), .val (.int p1), .val (.int p2), .val (.ref b1), .val (.int tt), .val (.int ff), .val (.int s_), .val (.int (5 : Int32)), .val (.int (own_h bb tt 9 (own_max 0 (ff - 3))))] [(.int (5 : Int32)), (.int (own_h bb tt 9 (own_max 0 (ff - 3))))]))
            refine gs (fun t k => XS.icmpNo X38.here hx rfl (hb hby at_265) rfl (teq ((own_main bb ff tt s_ f0 f1 t1 hs_).trans (by simp [own_ref, hc131, hc149, hc167, hc185]))).2 k) ?_
            show G (T38.setTop (mkF m 268 #[.val (.int p0), .val (.int p1), .val (.int p2), .val (.ref b1), .val (.int tt), .val (.int ff), .val (.int s_), .val (.int (5 : Int32)), .val (.int (own_h bb tt 9 (own_max 0 (ff - 3))))] []))
            refine gs (fun t k => XS.iconst X38.here hx rfl (hb hby at_268) k) ?_
            show G (T38.setTop (mkF m 269 #[.val (.int p0), .val (.int p1), .val (.int p2), .val (.ref b1), .val (.int tt), .val (.int ff), .val (.int s_), .val (.int (5 : Int32)), .val (.int (own_h bb tt 9 (own_max 0 (ff - 3))))] [(.int (1 : Int32))]))
            refine gs (fun t k => XS.goto X38.here hx rfl (pc0 := 269) (pc' := 273) rfl (hb hby at_269) (by decide) (by decide) k) ?_
            show G (T38.setTop (mkF m 273 #[.val (.int p0), .val (.int p1), .val (.int p2), .val (.ref b1), .val (.int tt), .val (.int ff), .val (.int s_), .val (.int (5 : Int32)), .val (.int (own_h bb tt 9 (own_max 0 (ff - 3))))] [(.int (1 : Int32))]))
            obtain ⟨fs, hr, hrun, hended, hW, hsame⟩ := X38.leave (v := some (.int (1 : Int32))) (fun h => by rw [Bd.returns] at h; cases h)
            refine gl _ ⟨_, _, retN X38 hx (t := .boolean) Bd.returns (by simp) (hb hby at_273) hr, hrun, hended, _, _, rfl, ?_, ⟨_, rfl⟩, hW, hsame.mono (by decide) (by decide)⟩
            show Q0 h0 n0 _ T38.heap _
            rw [e38]
            exact ⟨rfl, N38⟩
        · refine gs (fun t k => XS.ifNo X29.here hx rfl (hb hby at_167) rfl ((if0 _ _).trans (feq hc167).1) k) ?_
          show G (T29.setTop (mkF m 170 #[.val (.int p0), .val (.int p1), .val (.int p2), .val (.ref b1), .val (.int tt), .val (.int ff), .val (.int s_), .val (.int (-1 : Int32)), .unset] []))
          refine gs (fun t k => XS.iconst X29.here hx rfl (hb hby at_170) k) ?_
          show G (T29.setTop (mkF m 171 #[.val (.int p0), .val (.int p1), .val (.int p2), .val (.ref b1), .val (.int tt), .val (.int ff), .val (.int s_), .val (.int (-1 : Int32)), .unset] [(.int (4 : Int32))]))
          refine gs (fun t k => XS.istore X29.here hx rfl (hb hby at_171) rfl (l' := #[.val (.int p0), .val (.int p1), .val (.int p2), .val (.ref b1), .val (.int tt), .val (.int ff), .val (.int s_), .val (.int (4 : Int32)), .unset]) rfl k) ?_
          show G (T29.setTop (mkF m 173 #[.val (.int p0), .val (.int p1), .val (.int p2), .val (.ref b1), .val (.int tt), .val (.int ff), .val (.int s_), .val (.int (4 : Int32)), .unset] []))
          refine gs (fun t k => XS.goto X29.here hx rfl (pc0 := 173) (pc' := 251) rfl (hb hby at_173) (by decide) (by decide) k) ?_
          show G (T29.setTop (mkF m 251 #[.val (.int p0), .val (.int p1), .val (.int p2), .val (.ref b1), .val (.int tt), .val (.int ff), .val (.int s_), .val (.int (4 : Int32)), .unset] []))
          refine gs (fun t k => XS.aloadN X29.here hx rfl (hb hby at_251) rfl rfl k) ?_
          show G (T29.setTop (mkF m 252 #[.val (.int p0), .val (.int p1), .val (.int p2), .val (.ref b1), .val (.int tt), .val (.int ff), .val (.int s_), .val (.int (4 : Int32)), .unset] [(.ref b1)]))
          refine gs (fun t k => XS.iload X29.here hx rfl (hb hby at_252) rfl k) ?_
          show G (T29.setTop (mkF m 254 #[.val (.int p0), .val (.int p1), .val (.int p2), .val (.ref b1), .val (.int tt), .val (.int ff), .val (.int s_), .val (.int (4 : Int32)), .unset] [(.int ff), (.ref b1)]))
          refine gs (fun t k => XS.iload X29.here hx rfl (hb hby at_254) rfl k) ?_
          show G (T29.setTop (mkF m 256 #[.val (.int p0), .val (.int p1), .val (.int p2), .val (.ref b1), .val (.int tt), .val (.int ff), .val (.int s_), .val (.int (4 : Int32)), .unset] [(.int tt), (.int ff), (.ref b1)]))
          obtain ⟨_, _, ⟨T39, L39, k39, n39⟩, -, X39, ⟨Lc39, hQ39, l39, y39, z39⟩, st39⟩ := Jvm.LawKit.callS X29 hx (y := (⟨"com/example/stavegate/stavegate/http/Request", "headEnd", "([BII)I"⟩ : MethodName)) hown (mvT hZ (hw _ (List.mem_of_getElem? (i := 9) rfl))) (mvT hZ (hw _ (List.mem_of_getElem? (i := 10) rfl))) (mvT hZ (hw _ (List.mem_of_getElem? (i := 11) rfl))) (mvT hZ (hw _ (List.mem_of_getElem? (i := 12) rfl))) (by decide) (backOf (W := 0) (rm3 l Z a0 hw [] b1 ff tt cl bb h25 n0 Z9 Ar hb8 f0 f1 t1) hZ (hw _ (List.mem_of_getElem? (i := 12) rfl)) (hw _ (List.mem_of_getElem? (i := 11) rfl)) (by decide) (by decide)) (g := (mkF m 256 #[.val (.int p0), .val (.int p1), .val (.int p2), .val (.ref b1), .val (.int tt), .val (.int ff), .val (.int s_), .val (.int (4 : Int32)), .unset] [(.int tt), (.int ff), (.ref b1)])) rfl (by rw [hml]; rfl) (argsL := [(.ref b1), (.int ff), (.int tt)]) (rest := []) (lenOf pd_3 rfl) rfl (by show 2 * 0 + _ ≤ _; exact Nat.le_of_eq rfl) (hb hby at_256) (fun _ _ => ⟨rfl, e29, (by decide : 1 + 0 ≤ _), (by decide : 8 + 0 ≤ _)⟩)
          dsimp only [Pt.U, Pt.locs, Pt.cells, Pt.slots] at X39 l39 y39 z39 st39 hQ39
          subst y39 z39
          obtain ⟨rfl, N39q, e39⟩ := hQ39
          have N39 : Fr n0 L39 := by rw [l39]; exact Fr.app N29 N39q
          refine gs (fun t k => st39 _ k) ?_
          show G (T39.setTop (mkF m 259 #[.val (.int p0), .val (.int p1), .val (.int p2), .val (.ref b1), .val (.int tt), .val (.int ff), .val (.int s_), .val (.int (4 : Int32)), .unset] [(.int (own_h bb tt 9 (own_max 0 (ff - 3))))]))
          refine gs (fun t k => XS.istore X39.here hx rfl (hb hby at_259) rfl (l' := #[.val (.int p0), .val (.int p1), .val (.int p2), .val (.ref b1), .val (.int tt), .val (.int ff), .val (.int s_), .val (.int (4 : Int32)), .val (.int (own_h bb tt 9 (own_max 0 (ff - 3))))]) rfl k) ?_
          show G (T39.setTop (mkF m 261 #[.val (.int p0), .val (.int p1), .val (.int p2), .val (.ref b1), .val (.int tt), .val (.int ff), .val (.int s_), .val (.int (4 : Int32)), .val (.int (own_h bb tt 9 (own_max 0 (ff - 3))))] []))
          refine gs (fun t k => XS.iload X39.here hx rfl (hb hby at_261) rfl k) ?_
          show G (T39.setTop (mkF m 263 #[.val (.int p0), .val (.int p1), .val (.int p2), .val (.ref b1), .val (.int tt), .val (.int ff), .val (.int s_), .val (.int (4 : Int32)), .val (.int (own_h bb tt 9 (own_max 0 (ff - 3))))] [(.int (own_h bb tt 9 (own_max 0 (ff - 3))))]))
          refine gs (fun t k => XS.iload X39.here hx rfl (hb hby at_263) rfl k) ?_
          show G (T39.setTop (mkF m 265 #[.val (.int p0), .val (.int p1), .val (.int p2), .val (.ref b1), .val (.int tt), .val (.int ff), .val (.int s_), .val (.int (4 : Int32)), .val (.int (own_h bb tt 9 (own_max 0 (ff - 3))))] [(.int (4 : Int32)), (.int (own_h bb tt 9 (own_max 0 (ff - 3))))]))
          refine gs (fun t k => XS.icmpNo X39.here hx rfl (hb hby at_265) rfl (teq ((own_main bb ff tt s_ f0 f1 t1 hs_).trans (by simp [own_ref, hc131, hc149, hc167]))).2 k) ?_
          show G (T39.setTop (mkF m 268 #[.val (.int p0), .val (.int p1), .val (.int p2), .val (.ref b1), .val (.int tt), .val (.int ff), .val (.int s_), .val (.int (4 : Int32)), .val (.int (own_h bb tt 9 (own_max 0 (ff - 3))))] []))
          refine gs (fun t k => XS.iconst X39.here hx rfl (hb hby at_268) k) ?_
          show G (T39.setTop (mkF m 269 #[.val (.int p0), .val (.int p1), .val (.int p2), .val (.ref b1), .val (.int tt), .val (.int ff), .val (.int s_), .val (.int (4 : Int32)), .val (.int (own_h bb tt 9 (own_max 0 (ff - 3))))] [(.int (1 : Int32))]))
          refine gs (fun t k => XS.goto X39.here hx rfl (pc0 := 269) (pc' := 273) rfl (hb hby at_269) (by decide) (by decide) k) ?_
          show G (T39.setTop (mkF m 273 #[.val (.int p0), .val (.int p1), .val (.int p2), .val (.ref b1), .val (.int tt), .val (.int ff), .val (.int s_), .val (.int (4 : Int32)), .val (.int (own_h bb tt 9 (own_max 0 (ff - 3))))] [(.int (1 : Int32))]))
          obtain ⟨fs, hr, hrun, hended, hW, hsame⟩ := X39.leave (v := some (.int (1 : Int32))) (fun h => by rw [Bd.returns] at h; cases h)
          refine gl _ ⟨_, _, retN X39 hx (t := .boolean) Bd.returns (by simp) (hb hby at_273) hr, hrun, hended, _, _, rfl, ?_, ⟨_, rfl⟩, hW, hsame.mono (by decide) (by decide)⟩
          show Q0 h0 n0 _ T39.heap _
          rw [e39]
          exact ⟨rfl, N39⟩
      · refine gs (fun t k => XS.ifNo X28.here hx rfl (hb hby at_149) rfl ((if0 _ _).trans (feq hc149).1) k) ?_
        show G (T28.setTop (mkF m 152 #[.val (.int p0), .val (.int p1), .val (.int p2), .val (.ref b1), .val (.int tt), .val (.int ff), .val (.int s_), .val (.int (-1 : Int32)), .unset] []))
        refine gs (fun t k => XS.iconst X28.here hx rfl (hb hby at_152) k) ?_
        show G (T28.setTop (mkF m 153 #[.val (.int p0), .val (.int p1), .val (.int p2), .val (.ref b1), .val (.int tt), .val (.int ff), .val (.int s_), .val (.int (-1 : Int32)), .unset] [(.int (3 : Int32))]))
        refine gs (fun t k => XS.istore X28.here hx rfl (hb hby at_153) rfl (l' := #[.val (.int p0), .val (.int p1), .val (.int p2), .val (.ref b1), .val (.int tt), .val (.int ff), .val (.int s_), .val (.int (3 : Int32)), .unset]) rfl k) ?_
        show G (T28.setTop (mkF m 155 #[.val (.int p0), .val (.int p1), .val (.int p2), .val (.ref b1), .val (.int tt), .val (.int ff), .val (.int s_), .val (.int (3 : Int32)), .unset] []))
        refine gs (fun t k => XS.goto X28.here hx rfl (pc0 := 155) (pc' := 251) rfl (hb hby at_155) (by decide) (by decide) k) ?_
        show G (T28.setTop (mkF m 251 #[.val (.int p0), .val (.int p1), .val (.int p2), .val (.ref b1), .val (.int tt), .val (.int ff), .val (.int s_), .val (.int (3 : Int32)), .unset] []))
        refine gs (fun t k => XS.aloadN X28.here hx rfl (hb hby at_251) rfl rfl k) ?_
        show G (T28.setTop (mkF m 252 #[.val (.int p0), .val (.int p1), .val (.int p2), .val (.ref b1), .val (.int tt), .val (.int ff), .val (.int s_), .val (.int (3 : Int32)), .unset] [(.ref b1)]))
        refine gs (fun t k => XS.iload X28.here hx rfl (hb hby at_252) rfl k) ?_
        show G (T28.setTop (mkF m 254 #[.val (.int p0), .val (.int p1), .val (.int p2), .val (.ref b1), .val (.int tt), .val (.int ff), .val (.int s_), .val (.int (3 : Int32)), .unset] [(.int ff), (.ref b1)]))
        refine gs (fun t k => XS.iload X28.here hx rfl (hb hby at_254) rfl k) ?_
        show G (T28.setTop (mkF m 256 #[.val (.int p0), .val (.int p1), .val (.int p2), .val (.ref b1), .val (.int tt), .val (.int ff), .val (.int s_), .val (.int (3 : Int32)), .unset] [(.int tt), (.int ff), (.ref b1)]))
        obtain ⟨_, _, ⟨T40, L40, k40, n40⟩, -, X40, ⟨Lc40, hQ40, l40, y40, z40⟩, st40⟩ := Jvm.LawKit.callS X28 hx (y := (⟨"com/example/stavegate/stavegate/http/Request", "headEnd", "([BII)I"⟩ : MethodName)) hown (mvT hZ (hw _ (List.mem_of_getElem? (i := 9) rfl))) (mvT hZ (hw _ (List.mem_of_getElem? (i := 10) rfl))) (mvT hZ (hw _ (List.mem_of_getElem? (i := 11) rfl))) (mvT hZ (hw _ (List.mem_of_getElem? (i := 12) rfl))) (by decide) (backOf (W := 0) (rm3 l Z a0 hw [] b1 ff tt cl bb h25 n0 Z9 Ar hb8 f0 f1 t1) hZ (hw _ (List.mem_of_getElem? (i := 12) rfl)) (hw _ (List.mem_of_getElem? (i := 11) rfl)) (by decide) (by decide)) (g := (mkF m 256 #[.val (.int p0), .val (.int p1), .val (.int p2), .val (.ref b1), .val (.int tt), .val (.int ff), .val (.int s_), .val (.int (3 : Int32)), .unset] [(.int tt), (.int ff), (.ref b1)])) rfl (by rw [hml]; rfl) (argsL := [(.ref b1), (.int ff), (.int tt)]) (rest := []) (lenOf pd_3 rfl) rfl (by show 2 * 0 + _ ≤ _; exact Nat.le_of_eq rfl) (hb hby at_256) (fun _ _ => ⟨rfl, e28, (by decide : 1 + 0 ≤ _), (by decide : 8 + 0 ≤ _)⟩)
        dsimp only [Pt.U, Pt.locs, Pt.cells, Pt.slots] at X40 l40 y40 z40 st40 hQ40
        subst y40 z40
        obtain ⟨rfl, N40q, e40⟩ := hQ40
        have N40 : Fr n0 L40 := by rw [l40]; exact Fr.app N28 N40q
        refine gs (fun t k => st40 _ k) ?_
        show G (T40.setTop (mkF m 259 #[.val (.int p0), .val (.int p1), .val (.int p2), .val (.ref b1), .val (.int tt), .val (.int ff), .val (.int s_), .val (.int (3 : Int32)), .unset] [(.int (own_h bb tt 9 (own_max 0 (ff - 3))))]))
        refine gs (fun t k => XS.istore X40.here hx rfl (hb hby at_259) rfl (l' := #[.val (.int p0), .val (.int p1), .val (.int p2), .val (.ref b1), .val (.int tt), .val (.int ff), .val (.int s_), .val (.int (3 : Int32)), .val (.int (own_h bb tt 9 (own_max 0 (ff - 3))))]) rfl k) ?_
        show G (T40.setTop (mkF m 261 #[.val (.int p0), .val (.int p1), .val (.int p2), .val (.ref b1), .val (.int tt), .val (.int ff), .val (.int s_), .val (.int (3 : Int32)), .val (.int (own_h bb tt 9 (own_max 0 (ff - 3))))] []))
        refine gs (fun t k => XS.iload X40.here hx rfl (hb hby at_261) rfl k) ?_
        show G (T40.setTop (mkF m 263 #[.val (.int p0), .val (.int p1), .val (.int p2), .val (.ref b1), .val (.int tt), .val (.int ff), .val (.int s_), .val (.int (3 : Int32)), .val (.int (own_h bb tt 9 (own_max 0 (ff - 3))))] [(.int (own_h bb tt 9 (own_max 0 (ff - 3))))]))
        refine gs (fun t k => XS.iload X40.here hx rfl (hb hby at_263) rfl k) ?_
        show G (T40.setTop (mkF m 265 #[.val (.int p0), .val (.int p1), .val (.int p2), .val (.ref b1), .val (.int tt), .val (.int ff), .val (.int s_), .val (.int (3 : Int32)), .val (.int (own_h bb tt 9 (own_max 0 (ff - 3))))] [(.int (3 : Int32)), (.int (own_h bb tt 9 (own_max 0 (ff - 3))))]))
        refine gs (fun t k => XS.icmpNo X40.here hx rfl (hb hby at_265) rfl (teq ((own_main bb ff tt s_ f0 f1 t1 hs_).trans (by simp [own_ref, hc131, hc149]))).2 k) ?_
        show G (T40.setTop (mkF m 268 #[.val (.int p0), .val (.int p1), .val (.int p2), .val (.ref b1), .val (.int tt), .val (.int ff), .val (.int s_), .val (.int (3 : Int32)), .val (.int (own_h bb tt 9 (own_max 0 (ff - 3))))] []))
        refine gs (fun t k => XS.iconst X40.here hx rfl (hb hby at_268) k) ?_
        show G (T40.setTop (mkF m 269 #[.val (.int p0), .val (.int p1), .val (.int p2), .val (.ref b1), .val (.int tt), .val (.int ff), .val (.int s_), .val (.int (3 : Int32)), .val (.int (own_h bb tt 9 (own_max 0 (ff - 3))))] [(.int (1 : Int32))]))
        refine gs (fun t k => XS.goto X40.here hx rfl (pc0 := 269) (pc' := 273) rfl (hb hby at_269) (by decide) (by decide) k) ?_
        show G (T40.setTop (mkF m 273 #[.val (.int p0), .val (.int p1), .val (.int p2), .val (.ref b1), .val (.int tt), .val (.int ff), .val (.int s_), .val (.int (3 : Int32)), .val (.int (own_h bb tt 9 (own_max 0 (ff - 3))))] [(.int (1 : Int32))]))
        obtain ⟨fs, hr, hrun, hended, hW, hsame⟩ := X40.leave (v := some (.int (1 : Int32))) (fun h => by rw [Bd.returns] at h; cases h)
        refine gl _ ⟨_, _, retN X40 hx (t := .boolean) Bd.returns (by simp) (hb hby at_273) hr, hrun, hended, _, _, rfl, ?_, ⟨_, rfl⟩, hW, hsame.mono (by decide) (by decide)⟩
        show Q0 h0 n0 _ T40.heap _
        rw [e40]
        exact ⟨rfl, N40⟩
    · refine gs (fun t k => XS.ifNo X27.here hx rfl (hb hby at_131) rfl ((if0 _ _).trans (feq hc131).1) k) ?_
      show G (T27.setTop (mkF m 134 #[.val (.int p0), .val (.int p1), .val (.int p2), .val (.ref b1), .val (.int tt), .val (.int ff), .val (.int s_), .val (.int (-1 : Int32)), .unset] []))
      refine gs (fun t k => XS.iconst X27.here hx rfl (hb hby at_134) k) ?_
      show G (T27.setTop (mkF m 135 #[.val (.int p0), .val (.int p1), .val (.int p2), .val (.ref b1), .val (.int tt), .val (.int ff), .val (.int s_), .val (.int (-1 : Int32)), .unset] [(.int (2 : Int32))]))
      refine gs (fun t k => XS.istore X27.here hx rfl (hb hby at_135) rfl (l' := #[.val (.int p0), .val (.int p1), .val (.int p2), .val (.ref b1), .val (.int tt), .val (.int ff), .val (.int s_), .val (.int (2 : Int32)), .unset]) rfl k) ?_
      show G (T27.setTop (mkF m 137 #[.val (.int p0), .val (.int p1), .val (.int p2), .val (.ref b1), .val (.int tt), .val (.int ff), .val (.int s_), .val (.int (2 : Int32)), .unset] []))
      refine gs (fun t k => XS.goto X27.here hx rfl (pc0 := 137) (pc' := 251) rfl (hb hby at_137) (by decide) (by decide) k) ?_
      show G (T27.setTop (mkF m 251 #[.val (.int p0), .val (.int p1), .val (.int p2), .val (.ref b1), .val (.int tt), .val (.int ff), .val (.int s_), .val (.int (2 : Int32)), .unset] []))
      refine gs (fun t k => XS.aloadN X27.here hx rfl (hb hby at_251) rfl rfl k) ?_
      show G (T27.setTop (mkF m 252 #[.val (.int p0), .val (.int p1), .val (.int p2), .val (.ref b1), .val (.int tt), .val (.int ff), .val (.int s_), .val (.int (2 : Int32)), .unset] [(.ref b1)]))
      refine gs (fun t k => XS.iload X27.here hx rfl (hb hby at_252) rfl k) ?_
      show G (T27.setTop (mkF m 254 #[.val (.int p0), .val (.int p1), .val (.int p2), .val (.ref b1), .val (.int tt), .val (.int ff), .val (.int s_), .val (.int (2 : Int32)), .unset] [(.int ff), (.ref b1)]))
      refine gs (fun t k => XS.iload X27.here hx rfl (hb hby at_254) rfl k) ?_
      show G (T27.setTop (mkF m 256 #[.val (.int p0), .val (.int p1), .val (.int p2), .val (.ref b1), .val (.int tt), .val (.int ff), .val (.int s_), .val (.int (2 : Int32)), .unset] [(.int tt), (.int ff), (.ref b1)]))
      obtain ⟨_, _, ⟨T41, L41, k41, n41⟩, -, X41, ⟨Lc41, hQ41, l41, y41, z41⟩, st41⟩ := Jvm.LawKit.callS X27 hx (y := (⟨"com/example/stavegate/stavegate/http/Request", "headEnd", "([BII)I"⟩ : MethodName)) hown (mvT hZ (hw _ (List.mem_of_getElem? (i := 9) rfl))) (mvT hZ (hw _ (List.mem_of_getElem? (i := 10) rfl))) (mvT hZ (hw _ (List.mem_of_getElem? (i := 11) rfl))) (mvT hZ (hw _ (List.mem_of_getElem? (i := 12) rfl))) (by decide) (backOf (W := 0) (rm3 l Z a0 hw [] b1 ff tt cl bb h25 n0 Z9 Ar hb8 f0 f1 t1) hZ (hw _ (List.mem_of_getElem? (i := 12) rfl)) (hw _ (List.mem_of_getElem? (i := 11) rfl)) (by decide) (by decide)) (g := (mkF m 256 #[.val (.int p0), .val (.int p1), .val (.int p2), .val (.ref b1), .val (.int tt), .val (.int ff), .val (.int s_), .val (.int (2 : Int32)), .unset] [(.int tt), (.int ff), (.ref b1)])) rfl (by rw [hml]; rfl) (argsL := [(.ref b1), (.int ff), (.int tt)]) (rest := []) (lenOf pd_3 rfl) rfl (by show 2 * 0 + _ ≤ _; exact Nat.le_of_eq rfl) (hb hby at_256) (fun _ _ => ⟨rfl, e27, (by decide : 1 + 0 ≤ _), (by decide : 8 + 0 ≤ _)⟩)
      dsimp only [Pt.U, Pt.locs, Pt.cells, Pt.slots] at X41 l41 y41 z41 st41 hQ41
      subst y41 z41
      obtain ⟨rfl, N41q, e41⟩ := hQ41
      have N41 : Fr n0 L41 := by rw [l41]; exact Fr.app N27 N41q
      refine gs (fun t k => st41 _ k) ?_
      show G (T41.setTop (mkF m 259 #[.val (.int p0), .val (.int p1), .val (.int p2), .val (.ref b1), .val (.int tt), .val (.int ff), .val (.int s_), .val (.int (2 : Int32)), .unset] [(.int (own_h bb tt 9 (own_max 0 (ff - 3))))]))
      refine gs (fun t k => XS.istore X41.here hx rfl (hb hby at_259) rfl (l' := #[.val (.int p0), .val (.int p1), .val (.int p2), .val (.ref b1), .val (.int tt), .val (.int ff), .val (.int s_), .val (.int (2 : Int32)), .val (.int (own_h bb tt 9 (own_max 0 (ff - 3))))]) rfl k) ?_
      show G (T41.setTop (mkF m 261 #[.val (.int p0), .val (.int p1), .val (.int p2), .val (.ref b1), .val (.int tt), .val (.int ff), .val (.int s_), .val (.int (2 : Int32)), .val (.int (own_h bb tt 9 (own_max 0 (ff - 3))))] []))
      refine gs (fun t k => XS.iload X41.here hx rfl (hb hby at_261) rfl k) ?_
      show G (T41.setTop (mkF m 263 #[.val (.int p0), .val (.int p1), .val (.int p2), .val (.ref b1), .val (.int tt), .val (.int ff), .val (.int s_), .val (.int (2 : Int32)), .val (.int (own_h bb tt 9 (own_max 0 (ff - 3))))] [(.int (own_h bb tt 9 (own_max 0 (ff - 3))))]))
      refine gs (fun t k => XS.iload X41.here hx rfl (hb hby at_263) rfl k) ?_
      show G (T41.setTop (mkF m 265 #[.val (.int p0), .val (.int p1), .val (.int p2), .val (.ref b1), .val (.int tt), .val (.int ff), .val (.int s_), .val (.int (2 : Int32)), .val (.int (own_h bb tt 9 (own_max 0 (ff - 3))))] [(.int (2 : Int32)), (.int (own_h bb tt 9 (own_max 0 (ff - 3))))]))
      refine gs (fun t k => XS.icmpNo X41.here hx rfl (hb hby at_265) rfl (teq ((own_main bb ff tt s_ f0 f1 t1 hs_).trans (by simp [own_ref, hc131]))).2 k) ?_
      show G (T41.setTop (mkF m 268 #[.val (.int p0), .val (.int p1), .val (.int p2), .val (.ref b1), .val (.int tt), .val (.int ff), .val (.int s_), .val (.int (2 : Int32)), .val (.int (own_h bb tt 9 (own_max 0 (ff - 3))))] []))
      refine gs (fun t k => XS.iconst X41.here hx rfl (hb hby at_268) k) ?_
      show G (T41.setTop (mkF m 269 #[.val (.int p0), .val (.int p1), .val (.int p2), .val (.ref b1), .val (.int tt), .val (.int ff), .val (.int s_), .val (.int (2 : Int32)), .val (.int (own_h bb tt 9 (own_max 0 (ff - 3))))] [(.int (1 : Int32))]))
      refine gs (fun t k => XS.goto X41.here hx rfl (pc0 := 269) (pc' := 273) rfl (hb hby at_269) (by decide) (by decide) k) ?_
      show G (T41.setTop (mkF m 273 #[.val (.int p0), .val (.int p1), .val (.int p2), .val (.ref b1), .val (.int tt), .val (.int ff), .val (.int s_), .val (.int (2 : Int32)), .val (.int (own_h bb tt 9 (own_max 0 (ff - 3))))] [(.int (1 : Int32))]))
      obtain ⟨fs, hr, hrun, hended, hW, hsame⟩ := X41.leave (v := some (.int (1 : Int32))) (fun h => by rw [Bd.returns] at h; cases h)
      refine gl _ ⟨_, _, retN X41 hx (t := .boolean) Bd.returns (by simp) (hb hby at_273) hr, hrun, hended, _, _, rfl, ?_, ⟨_, rfl⟩, hW, hsame.mono (by decide) (by decide)⟩
      show Q0 h0 n0 _ T41.heap _
      rw [e41]
      exact ⟨rfl, N41⟩
  by_cases hc106 : ff < (3 : Int32)
  · refine gs (fun t k => XS.icmpYes X25.here hx rfl (pc0 := 106) (pc' := 116) rfl (hb hby at_106) rfl (tlt hc106).1 (by decide) (by decide) k) ?_
    show G (T25.setTop (mkF m 116 #[.val (.int p0), .val (.int p1), .val (.int p2), .val (.ref b1), .val (.int tt), .val (.int ff), .unset, .unset, .unset] []))
    refine gs (fun t k => XS.iconst X25.here hx rfl (hb hby at_116) k) ?_
    show G (T25.setTop (mkF m 117 #[.val (.int p0), .val (.int p1), .val (.int p2), .val (.ref b1), .val (.int tt), .val (.int ff), .unset, .unset, .unset] [(.int (0 : Int32))]))
    exact J106 _ (if_pos hc106).symm
  · refine gs (fun t k => XS.icmpNo X25.here hx rfl (hb hby at_106) rfl (flt hc106).1 k) ?_
    show G (T25.setTop (mkF m 109 #[.val (.int p0), .val (.int p1), .val (.int p2), .val (.ref b1), .val (.int tt), .val (.int ff), .unset, .unset, .unset] []))
    refine gs (fun t k => XS.iload X25.here hx rfl (hb hby at_109) rfl k) ?_
    show G (T25.setTop (mkF m 111 #[.val (.int p0), .val (.int p1), .val (.int p2), .val (.ref b1), .val (.int tt), .val (.int ff), .unset, .unset, .unset] [(.int ff)]))
    refine gs (fun t k => XS.iconst X25.here hx rfl (hb hby at_111) k) ?_
    show G (T25.setTop (mkF m 112 #[.val (.int p0), .val (.int p1), .val (.int p2), .val (.ref b1), .val (.int tt), .val (.int ff), .unset, .unset, .unset] [(.int (3 : Int32)), (.int ff)]))
    refine gs (fun t k => XS.isub X25.here hx rfl (hb hby at_112) rfl k) ?_
    show G (T25.setTop (mkF m 113 #[.val (.int p0), .val (.int p1), .val (.int p2), .val (.ref b1), .val (.int tt), .val (.int ff), .unset, .unset, .unset] [(.int (ff - (3 : Int32)))]))
    refine gs (fun t k => XS.goto X25.here hx rfl (pc0 := 113) (pc' := 117) rfl (hb hby at_113) (by decide) (by decide) k) ?_
    show G (T25.setTop (mkF m 117 #[.val (.int p0), .val (.int p1), .val (.int p2), .val (.ref b1), .val (.int tt), .val (.int ff), .unset, .unset, .unset] [(.int (ff - (3 : Int32)))]))
    exact J106 _ (if_neg hc106).symm
set_option maxRecDepth 65536 in
set_option maxHeartbeats 40000000 in
theorem comes_1 {Post : Tables → Env → Array Value → State → Outcome → State → Prop} (hpost : ∀ tb e args s v u, (limb_1_1.after args s (.returned v) u = true ∧ limb_1_2.after args s (.returned v) u = true ∧ True) → FrameEnd s (.returned v) u (Jvm.fieldLocs frame_1_writes args s ++ Jvm.arrayLocs frame_1_arrays args s ++ Jvm.staticLocs frame_1_statics s) 16 128 → Post tb e args s (.returned v) u) :
    ArmFor flags0 classFile x code maxLocals ret World_1 tables_1 room_1 Calls_1 rest_1 Pre_1 Post := by
  intro l hfl _ _ p e ha hc hk s m args below hf hA hF happ hP
  obtain ⟨hcalls, hrest, hpre⟩ := hP
  obtain ⟨-, -, -, hnamed, -, -, -, hat⟩ := (Spec.applies_iff hf).mp happ
  obtain ⟨hg, hn⟩ := and_e (Cond.before_iff.mp (show (Jvm.Cond.and given_1 narrow_1).before args s = true from hpre))
  obtain ⟨hg0, hg1⟩ := and_e hg
  obtain ⟨hv0, ht0⟩ := and_e hg1
  obtain ⟨hv1, ht1⟩ := and_e ht0
  have hv2 := ht1
  obtain ⟨w0, w1, w2, rfl⟩ : ∃ w0 w1 w2 : Value, args = #[w0, w1, w2] := by
    have hs : args.size = 3 := by simpa [Cond.value, given_1] using hg0
    obtain ⟨L⟩ := args
    match L, hs with
    | [w0, w1, w2], _ => exact ⟨w0, w1, w2, rfl⟩
  have hw := fun d (hd : d ∈ tables_1) => atoms_spec (ws := Jvm.Cond.code x code maxLocals ret :: tables_1) hat d (List.mem_cons_of_mem _ hd)
  have hfit : Fit s := fun {y c} hc i hi => by
    obtain ⟨ha, rfl⟩ := Array.getElem?_eq_some_iff.mp hc
    have q := List.all_eq_true.mp ((Array.all_eq_true_iff_forall_mem.mp hF) _ (Array.getElem_mem ha)) i (List.mem_range.mpr hi)
    simpa [Array.getElem?_eq_getElem hi] using q
  obtain ⟨i0, ei0⟩ := is_v hv0
  obtain rfl : w0 = (.int i0) := Option.some.inj ei0
  obtain ⟨i1, ei1⟩ := is_v hv1
  obtain rfl : w1 = (.int i1) := Option.some.inj ei1
  obtain ⟨i2, ei2⟩ := is_v hv2
  obtain rfl : w2 = (.int i2) := Option.some.inj ei2
  obtain ⟨n, o, h1, h2, h3, _, L, rfl, ⟨rfl, N⟩, hq⟩ := rm0 l s _ hw tables_1 i0 i1 i2 s.heap s.heap.size (Nat.le_refl _)  p e ha hc hk s m _ below hf ((Spec.applies_iff_loose hf).mp happ).1 ⟨rfl, State.Warmed39.refl s, rfl⟩ trivial
  refine ⟨n, _, h1, h2, h3, hpost _ _ _ _ _ _ ⟨Cond.after_iff.mpr rfl, Cond.after_iff.mpr (eq_i res_at (Term.int_eval (1)) rfl), trivial⟩ ⟨hq.1, hq.2.1, (hq.2.2.sift fun y hy => Or.inr (N y hy)).mono (by decide) (by decide)⟩⟩
theorem main_1_1 : Claimed_1_1 := comes_1 fun _ _ _ _ _ _ h hF => ⟨h.1, hF⟩
theorem main_1_2 : Claimed_1_2 := comes_1 fun _ _ _ _ _ _ h hF => ⟨h.2.1, hF⟩
end Jvm.Pilot.@@N@@
namespace Jvm.Pilot.@@N@@
open Jvm Jvm.ClassFile Sem Op Lib Jvm.Free Jvm.Stand Jvm.Pilot.@@N@@.Jvm.D
/-! MADE BY PROGRAM (witnessworld.py) out of the Statement's table words and the real class files: 11 classes; the members and pool entries that the words name. The judged class is class 1, her method 3. -/
namespace start1
open Jvm.ClassFile
def u (s : String) : CpInfo := .utf8 (stringToUtf16 s)
/-- a pool by its gaps: so many unusable entries, then the entry; so many at the end -/
def gap : Nat → List CpInfo → List CpInfo
  | 0, r => r
  | n + 1, r => .unusable :: gap n r
def poolList (es : List (Nat × CpInfo)) (last : Nat) : List CpInfo := es.foldr (fun e r => gap e.1 (e.2 :: r)) (gap last [])
def pool (es : List (Nat × CpInfo)) (last : Nat) : Array CpInfo := ⟨poolList es last⟩
def fileOf (pool : Array CpInfo) (this : Nat) (attrs : Array Attribute := #[]) (ms : Array MethodInfo := #[]) (fl : Nat := 33) (sup : Nat := 0) (ifs : Array Nat := #[]) (fds : Array FieldInfo := #[]) : ClassFile where
  minorVersion := 0
  majorVersion := 65
  constantPool := pool
  accessFlags := fl
  thisClass := this
  superClass := sup
  interfaces := ifs
  fields := fds
  methods := ms
  attributes := attrs
def plain (name : String) (sup : Option ClassId) : Class where
  name := name
  kind := .ordinary
  loader := none
  accessFlags := 33
  super := sup
  interfaces := #[]
  cf := none
  fields := #[]
  methods := #[]
  instanceTypes := #[]
  staticTypes := #[]
  resolved := #[]
  callSites := []
  init := .initialized
  statics := none
  mirror := none

def pool0 : Array CpInfo := pool [(5, u "<init>"), (0, u "()V"), (1, .class_ 10), (1, u "java/lang/Object")] 113

def k0m0 : Method := { name := "<init>", desc := "()V", sig := { parameters := [], returnType := none }, accessFlags := 1, code := none }
/-- java/lang/Object -/
def k0 : Class := { plain "java/lang/Object" none with
  accessFlags := 33
  interfaces := #[]
  cf := some (fileOf pool0 8 #[] #[{ accessFlags := 1, nameIndex := 5, descriptorIndex := 6, attributes := #[] }] 33 0 #[] #[])
  fields := #[]
  methods := #[k0m0]
  instanceTypes := #[]
  staticTypes := #[]
  resolved := Array.replicate 124 none
  statics := none }

def pool1 : Array CpInfo := pool [(2, .class_ 4), (1, u "java/lang/Object"), (0, u "<init>"), (0, u "()V"), (0, .methodref 8 9), (0, .class_ 10), (0, .nameAndType 11 12), (0, u "com/example/stavegate/stavegate/http/RequestHeadEndPinLaw"), (0, u "pick"), (0, u "(I)B"), (0, .integer 2147483647), (0, .methodref 8 15), (0, .nameAndType 16 17), (0, u "endsAt"), (0, u "([BIII)Z"), (0, .methodref 19 20), (0, .class_ 21), (0, .nameAndType 22 23), (0, u "com/example/stavegate/stavegate/http/Request"), (0, u "headEnd"), (0, u "([BII)I"), (3, u "law"), (0, u "(III)Z")] 4

def k1m0 : Method := { name := "<init>", desc := "()V", sig := { parameters := [], returnType := none }, accessFlags := 2, code := none }
def k1c1 : Code := { maxStack := 2, maxLocals := 2, code := method_2_code, exceptionTable := #[], attributes := #[] }
def k1m1 : Method := { name := "pick", desc := "(I)B", sig := { parameters := [.int], returnType := some .byte }, accessFlags := 10, code := some k1c1 }
def k1c2 : Code := { maxStack := 3, maxLocals := 4, code := method_3_code, exceptionTable := #[], attributes := #[] }
def k1m2 : Method := { name := "endsAt", desc := "([BIII)Z", sig := { parameters := [(.array .byte), .int, .int, .int], returnType := some .boolean }, accessFlags := 10, code := some k1c2 }
def k1c3 : Code := { maxStack := 4, maxLocals := 9, code := code, exceptionTable := #[], attributes := #[] }
def k1m3 : Method := { name := "law", desc := "(III)Z", sig := { parameters := [.int, .int, .int], returnType := some .boolean }, accessFlags := 9, code := some k1c3 }
/-- com/example/stavegate/stavegate/http/RequestHeadEndPinLaw -/
def k1 : Class := { plain "com/example/stavegate/stavegate/http/RequestHeadEndPinLaw" (some 0) with
  accessFlags := 49
  interfaces := #[]
  cf := some (fileOf pool1 8 #[] #[{ accessFlags := 2, nameIndex := 5, descriptorIndex := 6, attributes := #[] }, { accessFlags := 10, nameIndex := 11, descriptorIndex := 12, attributes := #[] }, { accessFlags := 10, nameIndex := 16, descriptorIndex := 17, attributes := #[] }, { accessFlags := 9, nameIndex := 27, descriptorIndex := 28, attributes := #[] }] 49 2 #[] #[])
  fields := #[]
  methods := #[k1m0, k1m1, k1m2, k1m3]
  instanceTypes := #[]
  staticTypes := #[]
  resolved := Array.replicate 33 none
  statics := none }

def pool2 : Array CpInfo := pool [(2, .class_ 4), (1, u "java/lang/Object"), (0, u "<init>"), (0, u "()V"), (0, .class_ 8), (0, u "java/lang/Record")] 13

def k2m0 : Method := { name := "<init>", desc := "()V", sig := { parameters := [], returnType := none }, accessFlags := 4, code := none }
/-- java/lang/Record -/
def k2 : Class := { plain "java/lang/Record" (some 0) with
  accessFlags := 1057
  interfaces := #[]
  cf := some (fileOf pool2 7 #[] #[{ accessFlags := 4, nameIndex := 5, descriptorIndex := 6, attributes := #[] }] 1057 2 #[] #[])
  fields := #[]
  methods := #[k2m0]
  instanceTypes := #[]
  staticTypes := #[]
  resolved := Array.replicate 22 none
  statics := none }

def pool3 : Array CpInfo := pool [(2, .class_ 4), (1, u "java/lang/Record"), (3, .class_ 10), (1, u "com/example/stavegate/stavegate/http/Request"), (0, u "method"), (0, u "Ljava/lang/String;"), (2, u "target"), (2, u "path"), (2, u "segments"), (0, u "Ljava/util/List;"), (2, u "rawQuery"), (2, u "baseUrl"), (2, u "keepAlive"), (0, u "Z"), (11, .methodref 45 46), (0, .class_ 47), (0, .nameAndType 48 49), (0, u "java/lang/Math"), (0, u "max"), (0, u "(II)I"), (17, u "REQUEST_LINE"), (0, u "Ljava/util/regex/Pattern;"), (88, u "AUTHORITY"), (4, u "TARGET"), (6, u "ABSOLUTE"), (100, u "SCHEME"), (3, u "TOKEN_SYMBOLS"), (7, u "headEnd"), (0, u "([BII)I")] 58

def k3c0 : Code := { maxStack := 3, maxLocals := 5, code := prog_66_method_4_code, exceptionTable := #[], attributes := #[] }
def k3m0 : Method := { name := "headEnd", desc := "([BII)I", sig := { parameters := [(.array .byte), .int, .int], returnType := some .int }, accessFlags := 8, code := some k3c0 }
/-- com/example/stavegate/stavegate/http/Request -/
def k3 : Class := { plain "com/example/stavegate/stavegate/http/Request" (some 2) with
  accessFlags := 48
  interfaces := #[]
  cf := some (fileOf pool3 8 #[] #[{ accessFlags := 8, nameIndex := 282, descriptorIndex := 283, attributes := #[] }] 48 2 #[] #[{ accessFlags := 18, nameIndex := 11, descriptorIndex := 12, attributes := #[] }, { accessFlags := 18, nameIndex := 15, descriptorIndex := 12, attributes := #[] }, { accessFlags := 18, nameIndex := 18, descriptorIndex := 12, attributes := #[] }, { accessFlags := 18, nameIndex := 21, descriptorIndex := 22, attributes := #[] }, { accessFlags := 18, nameIndex := 25, descriptorIndex := 12, attributes := #[] }, { accessFlags := 18, nameIndex := 28, descriptorIndex := 12, attributes := #[] }, { accessFlags := 18, nameIndex := 31, descriptorIndex := 32, attributes := #[] }, { accessFlags := 26, nameIndex := 67, descriptorIndex := 68, attributes := #[] }, { accessFlags := 26, nameIndex := 162, descriptorIndex := 68, attributes := #[] }, { accessFlags := 26, nameIndex := 169, descriptorIndex := 68, attributes := #[] }, { accessFlags := 24, nameIndex := 157, descriptorIndex := 68, attributes := #[] }, { accessFlags := 26, nameIndex := 270, descriptorIndex := 12, attributes := #[] }, { accessFlags := 26, nameIndex := 274, descriptorIndex := 12, attributes := #[] }])
  fields := #[{ name := "method", type := (.object "java/lang/String"), accessFlags := 18, slot := 0, constantValue := 0 }, { name := "target", type := (.object "java/lang/String"), accessFlags := 18, slot := 1, constantValue := 0 }, { name := "path", type := (.object "java/lang/String"), accessFlags := 18, slot := 2, constantValue := 0 }, { name := "segments", type := (.object "java/util/List"), accessFlags := 18, slot := 3, constantValue := 0 }, { name := "rawQuery", type := (.object "java/lang/String"), accessFlags := 18, slot := 4, constantValue := 0 }, { name := "baseUrl", type := (.object "java/lang/String"), accessFlags := 18, slot := 5, constantValue := 0 }, { name := "keepAlive", type := .boolean, accessFlags := 18, slot := 6, constantValue := 0 }, { name := "REQUEST_LINE", type := (.object "java/util/regex/Pattern"), accessFlags := 26, slot := 0, constantValue := 0 }, { name := "TARGET", type := (.object "java/util/regex/Pattern"), accessFlags := 26, slot := 1, constantValue := 0 }, { name := "ABSOLUTE", type := (.object "java/util/regex/Pattern"), accessFlags := 26, slot := 2, constantValue := 0 }, { name := "AUTHORITY", type := (.object "java/util/regex/Pattern"), accessFlags := 24, slot := 3, constantValue := 0 }, { name := "SCHEME", type := (.object "java/lang/String"), accessFlags := 26, slot := 4, constantValue := 0 }, { name := "TOKEN_SYMBOLS", type := (.object "java/lang/String"), accessFlags := 26, slot := 5, constantValue := 0 }]
  methods := #[k3m0]
  instanceTypes := #[(.object "java/lang/String"), (.object "java/lang/String"), (.object "java/lang/String"), (.object "java/util/List"), (.object "java/lang/String"), (.object "java/lang/String"), .boolean]
  staticTypes := #[(.object "java/util/regex/Pattern"), (.object "java/util/regex/Pattern"), (.object "java/util/regex/Pattern"), (.object "java/util/regex/Pattern"), (.object "java/lang/String"), (.object "java/lang/String")]
  resolved := Array.replicate 342 none
  statics := none }

def pool4 : Array CpInfo := pool [(1, .class_ 2), (0, u "java/lang/Math"), (1, .class_ 6), (1, u "java/lang/Object"), (0, u "<init>"), (0, u "()V"), (89, .class_ 100), (1, u "java/lang/Math$RandomNumberGeneratorHolder"), (71, u "negativeZeroFloatBits"), (0, u "J"), (2, u "negativeZeroDoubleBits"), (21, u "max"), (46, u "$assertionsDisabled"), (0, u "Z"), (88, u "(II)I"), (2, u "twoToTheDoubleScaleDown"), (0, u "D"), (4, u "twoToTheDoubleScaleUp"), (9, u "E"), (3, u "PI"), (2, u "TAU"), (2, u "DEGREES_TO_RADIANS"), (0, u "RADIANS_TO_DEGREES")] 94

def k4m0 : Method := { name := "<init>", desc := "()V", sig := { parameters := [], returnType := none }, accessFlags := 2, code := none }
def k4c1 : Code := { maxStack := 2, maxLocals := 2, code := jdk_29_method_65_code, exceptionTable := #[], attributes := #[] }
def k4m1 : Method := { name := "max", desc := "(II)I", sig := { parameters := [.int, .int], returnType := some .int }, accessFlags := 9, code := some k4c1 }
/-- java/lang/Math -/
def k4 : Class := { plain "java/lang/Math" (some 0) with
  accessFlags := 49
  interfaces := #[]
  cf := some (fileOf pool4 1 #[.nestMembers #[98]] #[{ accessFlags := 2, nameIndex := 7, descriptorIndex := 8, attributes := #[] }, { accessFlags := 9, nameIndex := 198, descriptorIndex := 335, attributes := #[] }] 49 4 #[] #[{ accessFlags := 25, nameIndex := 354, descriptorIndex := 339, attributes := #[] }, { accessFlags := 25, nameIndex := 358, descriptorIndex := 339, attributes := #[] }, { accessFlags := 25, nameIndex := 361, descriptorIndex := 339, attributes := #[] }, { accessFlags := 26, nameIndex := 364, descriptorIndex := 339, attributes := #[] }, { accessFlags := 26, nameIndex := 365, descriptorIndex := 339, attributes := #[] }, { accessFlags := 26, nameIndex := 172, descriptorIndex := 173, attributes := #[] }, { accessFlags := 26, nameIndex := 176, descriptorIndex := 173, attributes := #[] }, { accessFlags := 8, nameIndex := 344, descriptorIndex := 339, attributes := #[] }, { accessFlags := 8, nameIndex := 338, descriptorIndex := 339, attributes := #[] }, { accessFlags := 4120, nameIndex := 245, descriptorIndex := 246, attributes := #[] }])
  fields := #[{ name := "E", type := .double, accessFlags := 25, slot := 0, constantValue := 0 }, { name := "PI", type := .double, accessFlags := 25, slot := 1, constantValue := 0 }, { name := "TAU", type := .double, accessFlags := 25, slot := 2, constantValue := 0 }, { name := "DEGREES_TO_RADIANS", type := .double, accessFlags := 26, slot := 3, constantValue := 0 }, { name := "RADIANS_TO_DEGREES", type := .double, accessFlags := 26, slot := 4, constantValue := 0 }, { name := "negativeZeroFloatBits", type := .long, accessFlags := 26, slot := 5, constantValue := 0 }, { name := "negativeZeroDoubleBits", type := .long, accessFlags := 26, slot := 6, constantValue := 0 }, { name := "twoToTheDoubleScaleUp", type := .double, accessFlags := 8, slot := 7, constantValue := 0 }, { name := "twoToTheDoubleScaleDown", type := .double, accessFlags := 8, slot := 8, constantValue := 0 }, { name := "$assertionsDisabled", type := .boolean, accessFlags := 4120, slot := 9, constantValue := 0 }]
  methods := #[k4m0, k4m1]
  instanceTypes := #[]
  staticTypes := #[.double, .double, .double, .double, .double, .long, .long, .double, .double, .boolean]
  resolved := Array.replicate 460 none
  statics := none }

def pool5 : Array CpInfo := pool [(1, u "java/lang/Cloneable"), (0, .class_ 1), (0, u "java/lang/Object"), (0, .class_ 3)] 3

/-- java/lang/Cloneable -/
def k5 : Class := { plain "java/lang/Cloneable" (some 0) with
  accessFlags := 1537
  interfaces := #[]
  cf := some (fileOf pool5 2 #[] #[] 1537 4 #[] #[])
  fields := #[]
  methods := #[]
  instanceTypes := #[]
  staticTypes := #[]
  resolved := Array.replicate 8 none
  statics := none }

def pool6 : Array CpInfo := pool [(1, u "java/io/Serializable"), (0, .class_ 1), (0, u "java/lang/Object"), (0, .class_ 3)] 3

/-- java/io/Serializable -/
def k6 : Class := { plain "java/io/Serializable" (some 0) with
  accessFlags := 1537
  interfaces := #[]
  cf := some (fileOf pool6 2 #[] #[] 1537 4 #[] #[])
  fields := #[]
  methods := #[]
  instanceTypes := #[]
  staticTypes := #[]
  resolved := Array.replicate 8 none
  statics := none }

/-- the primitive byte -/
def k7 : Class := { plain "byte" none with kind := .primitive 'B', accessFlags := 0x411 }
/-- [B -/
def k8 : Class := { plain "[B" (some 0) with kind := .array 7 .byte, interfaces := #[5, 6], accessFlags := 1041 }

/-- the primitive int -/
def k9 : Class := { plain "int" none with kind := .primitive 'I', accessFlags := 0x411 }
/-- [I -/
def k10 : Class := { plain "[I" (some 0) with kind := .array 9 .int, interfaces := #[5, 6], accessFlags := 1041 }

def heap : Heap := #[]
def classes : Array Class := #[k0, k1, k2, k3, k4, k5, k6, k7, k8, k9, k10]
def interned : List (Array UInt16 × Addr) := []
def slotsUsed : Nat := 0
def theMethod : MethodId := ⟨1, 3⟩
def args0 : Array Value := #[.int 5, .int 6, .int 7]
def aboutOver (below : List Frame) : State where
  vm := { classes := classes, interned := interned.toArray }
  heap := heap
  slotsUsed := slotsUsed
  threads := #[{ frames := .invoking theMethod args0 :: below }]
def below0 : List Frame := [.native { method := ⟨0, 0⟩, args := #[] }]
def about1 : State := aboutOver below0
def p0 : Program := .bare "" "" ""
def e0 : Env := launch0.env 0 0 0
theorem w_frames : about1.frames = Frame.invoking theMethod args0 :: below0 := rfl
set_option maxRecDepth 65536 in
theorem w_args : argsFit about1.vm theMethod args0 = true := by decide +kernel
set_option maxRecDepth 65536 in
theorem w_heap : heapFits about1 = true := by decide +kernel
set_option maxRecDepth 65536 in
theorem w_runnable : about1.curStatus? = some .runnable := by decide +kernel
set_option maxRecDepth 65536 in
theorem w_alone : about1.alone = true := by decide +kernel
set_option maxRecDepth 65536 in
theorem w_named : about1.methodNamed? x = some theMethod := by decide +kernel
set_option maxRecDepth 65536 in
theorem w_hears : about1.hears theMethod below0 = true := by decide +kernel
set_option maxRecDepth 65536 in
theorem w_ripe : about1.ripe theMethod args0 below0 = true := by decide +kernel
theorem w_running : about1.status = .running := rfl
set_option maxRecDepth 65536 in
theorem w_room : about1.hasRoom e0.platform room_1 = true :=
  launch0.hasRoom_least _ room_1 (by decide +kernel) (by decide +kernel) (by decide +kernel) (by decide +kernel) (by decide +kernel) (by decide +kernel)
theorem allAtoms_all (ts : List Jvm.Cond) (a : Array Jvm.Value) (st : Jvm.State) : (allAtoms ts).before a st = ts.all (fun c => c.before a st) := by
  induction ts with
  | nil => rfl
  | cons c t ih =>
    show (Jvm.Cond.and c (allAtoms t)).before a st = _
    rw [Jvm.Cond.before_and, ih, List.all_cons]
def words1 : List Jvm.Cond := Jvm.Cond.code x code maxLocals ret :: tables_1
/-- a 'code' word, met by the world's own term for the bytes: nothing is compared byte by byte -/
theorem code_word {y : MethodName} {bytes : ByteArray} {mx : Nat} {rt : Option FieldType} {a : Array Value} {s : State} {m : MethodId} {meth : Method} {c : Code} (h1 : s.methodNamed? y = some m) (h2 : s.vm.method? m = some meth) (h3 : meth.code = some c) (h4 : c.code = bytes)
    (h5 : (c.maxLocals == mx && c.exceptionTable.isEmpty && decide (c.maxStack ≤ mostOperands) && decide (meth.sig.returnType = rt) && !meth.locks && decide (parseMethodDescriptor y.desc = some meth.sig)) = true) : (Jvm.Cond.code y bytes mx rt).before a s = true := by
  simp only [Bool.and_eq_true, beq_iff_eq, Bool.not_eq_true', decide_eq_true_eq] at h5
  obtain ⟨⟨⟨⟨⟨g1, g2⟩, g3⟩, g4⟩, g5⟩, g6⟩ := h5
  simp [Cond.before, Cond.holds, Cond.value, h1, h2, h3, h4, g1, g2, g3, g4, g5, g6]
def isCode : Jvm.Cond → Bool
  | .code _ _ _ _ => true
  | _ => false
theorem all_split {L : List Jvm.Cond} {P : Jvm.Cond → Bool} (h1 : L.all (fun c => isCode c || P c) = true) (h2 : ∀ c ∈ L.filter isCode, P c = true) : L.all P = true := by
  refine List.all_eq_true.mpr fun c hc => ?_
  have h := List.all_eq_true.mp h1 c hc
  rcases Bool.eq_false_or_eq_true (isCode c) with hi | hi
  · exact h2 c (List.mem_filter.mpr ⟨hc, hi⟩)
  · simpa [hi] using h
set_option maxRecDepth 65536 in
theorem w_c0 : (Jvm.Cond.code x code maxLocals ret).before args0 about1 = true := code_word (m := ⟨1, 3⟩) (meth := k1m3) (c := k1c3) (by decide +kernel) rfl rfl rfl (by decide +kernel)
set_option maxRecDepth 65536 in
theorem w_c1 : (Jvm.Cond.code ({ cls := "com/example/stavegate/stavegate/http/RequestHeadEndPinLaw", name := "pick", desc := "(I)B" } : Jvm.MethodName) method_2_code (2 : Nat) (Option.some Jvm.ClassFile.FieldType.byte)).before args0 about1 = true := code_word (m := ⟨1, 1⟩) (meth := k1m1) (c := k1c1) (by decide +kernel) rfl rfl rfl (by decide +kernel)
set_option maxRecDepth 65536 in
theorem w_c2 : (Jvm.Cond.code ({ cls := "com/example/stavegate/stavegate/http/RequestHeadEndPinLaw", name := "endsAt", desc := "([BIII)Z" } : Jvm.MethodName) method_3_code (4 : Nat) (Option.some Jvm.ClassFile.FieldType.boolean)).before args0 about1 = true := code_word (m := ⟨1, 2⟩) (meth := k1m2) (c := k1c2) (by decide +kernel) rfl rfl rfl (by decide +kernel)
set_option maxRecDepth 65536 in
theorem w_c3 : (Jvm.Cond.code ({ cls := "com/example/stavegate/stavegate/http/Request", name := "headEnd", desc := "([BII)I" } : Jvm.MethodName) prog_66_method_4_code (5 : Nat) (Option.some Jvm.ClassFile.FieldType.int)).before args0 about1 = true := code_word (m := ⟨3, 0⟩) (meth := k3m0) (c := k3c0) (by decide +kernel) rfl rfl rfl (by decide +kernel)
set_option maxRecDepth 65536 in
theorem w_c4 : (Jvm.Cond.code ({ cls := "java/lang/Math", name := "max", desc := "(II)I" } : Jvm.MethodName) jdk_29_method_65_code (2 : Nat) (Option.some Jvm.ClassFile.FieldType.int)).before args0 about1 = true := code_word (m := ⟨4, 1⟩) (meth := k4m1) (c := k4c1) (by decide +kernel) rfl rfl rfl (by decide +kernel)
def codes1 : List Jvm.Cond := [Jvm.Cond.code x code maxLocals ret, Jvm.Cond.code ({ cls := "com/example/stavegate/stavegate/http/RequestHeadEndPinLaw", name := "pick", desc := "(I)B" } : Jvm.MethodName) method_2_code (2 : Nat) (Option.some Jvm.ClassFile.FieldType.byte), Jvm.Cond.code ({ cls := "com/example/stavegate/stavegate/http/RequestHeadEndPinLaw", name := "endsAt", desc := "([BIII)Z" } : Jvm.MethodName) method_3_code (4 : Nat) (Option.some Jvm.ClassFile.FieldType.boolean), Jvm.Cond.code ({ cls := "com/example/stavegate/stavegate/http/Request", name := "headEnd", desc := "([BII)I" } : Jvm.MethodName) prog_66_method_4_code (5 : Nat) (Option.some Jvm.ClassFile.FieldType.int), Jvm.Cond.code ({ cls := "java/lang/Math", name := "max", desc := "(II)I" } : Jvm.MethodName) jdk_29_method_65_code (2 : Nat) (Option.some Jvm.ClassFile.FieldType.int)]
set_option maxRecDepth 65536 in
theorem codes_eq : words1.filter isCode = codes1 := rfl
theorem w_codes : ∀ c ∈ words1.filter isCode, c.before args0 about1 = true := by
  rw [codes_eq]
  intro c hc
  simp only [codes1, List.mem_cons, List.not_mem_nil, or_false] at hc
  rcases hc with rfl | rfl | rfl | rfl | rfl
  · exact w_c0
  · exact w_c1
  · exact w_c2
  · exact w_c3
  · exact w_c4
set_option maxRecDepth 65536 in
theorem w_t1 : words1.all (fun c => isCode c || c.before args0 about1) = true := by decide +kernel
theorem w_tables : (allAtoms (Jvm.Cond.code x code maxLocals ret :: tables_1)).before args0 about1 = true := by
  rw [allAtoms_all]
  show words1.all (fun c => c.before args0 about1) = true
  refine all_split ?_ w_codes
  rw [w_t1]
set_option maxRecDepth 65536 in
theorem w_case : (Jvm.Cond.and given_1 narrow_1).before args0 about1 = true := by decide +kernel
theorem w_applies : (headSpec (Jvm.Cond.code x code maxLocals ret :: tables_1) room_1).applies x e0.platform about1 = true :=
  (Spec.applies_iff w_frames).mpr ⟨w_running, w_runnable, w_alone, w_named, w_hears, w_ripe, w_room, w_tables⟩
theorem atStart : AtStart classFile x code maxLocals ret World_1 tables_1 room_1 Calls_1 rest_1 Pre_1 launch0 p0 e0 about1 theMethod args0 below0 :=
  ⟨lists_1, trivial, launch0.admits_env _ _ _, launch0.least_env, fairChoices_fair.cas, fairChoices_fair.clock, w_frames, w_args, w_heap, w_applies, trivial, trivial, w_case⟩
end start1
theorem witness_1 : WitnessClaimed_1 := ⟨start1.p0, start1.e0, start1.about1, start1.theMethod, start1.args0, start1.below0, start1.atStart⟩
end Jvm.Pilot.@@N@@
