import JvmDerived
import JvmDerived.Pilot.@@N@@Statement
import JvmDerived.Pilot.@@N@@Code
set_option linter.unusedVariables false
set_option linter.unusedSimpArgs false
namespace Jvm.RoadKit
open Sem ClassFile Op Lib Jvm.Stand Jvm.Free Jvm.LawKit
section New
variable {p : Program} {l : Launch} {e : Env} {R : Room} {s : State} {m : MethodId} {args : Array Value} {below : List Frame} {meth : Method} {c : Code} {T : State} {locs : List Loc} {cells slots : Nat}
theorem retI (X : Stand p l e R s m args below meth c T locs cells slots) (hx : p.tables.exec = Jvm.exec) {pc : Nat} {Ls : Array Slot} {z : Int32} {rest : List Value} (hret : meth.sig.returnType = some .int) (hd : decode c.code pc = .ok (.ireturn, 1)) {fs : List Frame}
    (hl : ∀ (f : JFrame) (acts : List Action), f.method = m → f.locked = none → f.entered = [] → (doReturn e (T.setTop f) acts (some (.int z))).1 = T.setFrames fs) : Steps p.tables e below (T.setTop (mkF m pc Ls (.int z :: rest))) (T.setFrames fs) := by
  have hm' : T.vm.method? m = some meth := X.method'
  have hn : narrow .int (.int z) = .int z := rfl
  show Steps p.tables e below (T.setTop { method := m, pc := pc, locals := Ls, stack := _ :: rest, locked := none }) _
  jvm_step X.here [X.here.top, hx, hd, hm', hret, hn]
  first | (intro acts; rw [hl _ acts rfl rfl rfl]) | rw [hl _ _ rfl rfl rfl]
  exact Steps.refl _
theorem own_retJ (X : Stand p l e R s m args below meth c T locs cells slots) (hx : p.tables.exec = Jvm.exec) {pc : Nat} {Ls : Array Slot} {z : Int64} {rest : List Value} (hret : meth.sig.returnType = some .long) (hd : decode c.code pc = .ok (.lreturn, 1)) {fs : List Frame}
    (hl : ∀ (f : JFrame) (acts : List Action), f.method = m → f.locked = none → f.entered = [] → (doReturn e (T.setTop f) acts (some (.long z))).1 = T.setFrames fs) : Steps p.tables e below (T.setTop (mkF m pc Ls (.long z :: rest))) (T.setFrames fs) :=
  retOut X hx hret rfl (Or.inr (Or.inl ⟨rfl, rfl, z, rfl⟩)) hd hl
theorem own_retA (X : Stand p l e R s m args below meth c T locs cells slots) (hx : p.tables.exec = Jvm.exec) {pc : Nat} {Ls : Array Slot} {w : Value} {t : FieldType} {rest : List Value} (hret : meth.sig.returnType = some t) (ht : t.isReference = true) (hw : w.isRef = true) (hd : decode c.code pc = .ok (.areturn, 1)) {fs : List Frame}
    (hl : ∀ (f : JFrame) (acts : List Action), f.method = m → f.locked = none → f.entered = [] → (doReturn e (T.setTop f) acts (some w)).1 = T.setFrames fs) : Steps p.tables e below (T.setTop (mkF m pc Ls (w :: rest))) (T.setFrames fs) :=
  retOut X hx hret (by rcases ref_cases hw with rfl | ⟨a, rfl⟩ <;> cases t <;> first | rfl | (simp [FieldType.isReference] at ht)) (Or.inr (Or.inr (Or.inr (Or.inr ⟨rfl, ht, hw⟩)))) hd hl
theorem own_retN (X : Stand p l e R s m args below meth c T locs cells slots) (hx : p.tables.exec = Jvm.exec) {pc : Nat} {Ls : Array Slot} {z z' : Int32} {t : FieldType} {rest : List Value} (hret : meth.sig.returnType = some t) (ht : t = .boolean ∨ t = .byte ∨ t = .char ∨ t = .short) (hz : nar t z = z')
    (hd : decode c.code pc = .ok (.ireturn, 1)) {fs : List Frame} (hl : ∀ (f : JFrame) (acts : List Action), f.method = m → f.locked = none → f.entered = [] → (doReturn e (T.setTop f) acts (some (.int z'))).1 = T.setFrames fs) :
    Steps p.tables e below (T.setTop (mkF m pc Ls (.int z :: rest))) (T.setFrames fs) := by subst hz; exact retN X hx hret ht hd hl
/-- from a state, some run leads to an end that F takes -/
def own_Gl (tb : Tables) (e : Env) (below : List Frame) (F : State → Outcome → Prop) (st : State) : Prop := ∃ s₂ o, Steps tb e below st s₂ ∧ F s₂ o
theorem own_go {tb : Tables} {F : State → Outcome → Prop} {st st' : State} (h : ∀ t, Steps tb e below st' t → Steps tb e below st t) (g : own_Gl tb e below F st') : own_Gl tb e below F st := by
  obtain ⟨t, o, k, r⟩ := g; exact ⟨t, o, h t k, r⟩
theorem own_fin {tb : Tables} {F : State → Outcome → Prop} {st t : State} {o : Outcome} (h : Steps tb e below st t) (r : F t o) : own_Gl tb e below F st := ⟨t, o, h, r⟩
theorem own_start {tb : Tables} {G : State → Outcome → Prop} {g g' : JFrame} (q : g = g') (k : ∀ F, F = G → own_Gl tb e below F (T.setTop g')) : ∃ s₂ o, Steps tb e below (T.setTop g) s₂ ∧ G s₂ o := by subst q; exact k G rfl
end New
/-- an array of length z whose place j holds g j -/
def own_A (Z : State) (h : Heap) (a : Addr) (ty : FieldType) (z : Int32) (g : Nat → Value) : Prop := ∃ c : Cell, Arr Z h a c ty ∧ c.slots.size = z.toNatClampNeg ∧ ¬ z < 0 ∧ ∀ j, j < c.slots.size → c.slots[j]? = some (g j)
section OwnA
variable {Z : State} {h h' : Heap} {a b : Addr} {ty : FieldType} {z : Int32} {g : Nat → Value} {sl : Nat} {v : Value} {ws : List Addr}
theorem own_A.lt (F : own_A Z h a ty z g) : a < h.size := by obtain ⟨c, A, -⟩ := F; exact A.lt
theorem own_A.ext (F : own_A Z h a ty z g) (E : Ext h h') : own_A Z h' a ty z g := by obtain ⟨c, A, r⟩ := F; exact ⟨c, A.ext E, r⟩
theorem own_A.other (F : own_A Z h b ty z g) (W : Wr h h' a sl v) (q : b ≠ a) : own_A Z h' b ty z g := by obtain ⟨c, A, r⟩ := F; exact ⟨c, A.other W q, r⟩
theorem own_A.keep (F : own_A Z h a ty z g) (K : Keep h h' ws) (q : a ∉ ws) : own_A Z h' a ty z g := by obtain ⟨c, A, r⟩ := F; exact ⟨c, ⟨K.2.1 a c A.1 q, A.2⟩, r⟩
theorem own_A.set (F : own_A Z h a ty z g) {i : Nat} (W : Wr h h' a i v) : own_A Z h' a ty z (fun k => if k = i then v else g k) := by
  obtain ⟨c, A, S, N, H⟩ := F
  refine ⟨_, A.same W, by rw [sz_set]; exact S, N, fun j hj => ?_⟩
  rw [sz_set] at hj
  by_cases u : j = i
  · subst u; simp [Cell.setSlot, hj]
  · show _ = some (if j = i then v else g j)
    rw [if_neg u]; simp only [Cell.setSlot]; rw [Array.getElem?_setIfInBounds_ne (fun q => u q.symm)]; exact H j hj
theorem own_A.new {k : ClassId} (A : Arr Z h a (newA k ty z) ty) (q : ¬ z < 0) : own_A Z h a ty z (fun _ => defaultValue ty) := by
  obtain ⟨c, A', -, S, N, H, -⟩ := Arv.new A q
  exact ⟨c, A', S, N, fun j hj => H j hj⟩
theorem own_A.of (F : own_A Z h a ty z g) {g' : Nat → Value} (q : ∀ j, j < z.toNatClampNeg → g j = g' j) : own_A Z h a ty z g' := by
  obtain ⟨c, A, S, N, H⟩ := F; exact ⟨c, A, S, N, fun j hj => by rw [← q j (S ▸ hj)]; exact H j hj⟩
end OwnA
end Jvm.RoadKit
namespace Jvm.Pilot.@@N@@
open Jvm Jvm.ClassFile Sem Op Lib Jvm.Free Jvm.Stand Jvm.LawKit Jvm.RoadKit Bundle Jvm.Pilot.@@N@@.Jvm.D

def own_min (x y : Int64) : Int64 := if y < x then y else x
def own_max (x y : Int64) : Int64 := if x < y then y else x
def own_eq (f1 l1 : Int64) (o1 : Int32) (f2 l2 : Int64) (o2 : Int32) : Int32 := if f1 = f2 then (if l1 = l2 then (if o1 = o2 then 1 else 0) else 0) else 0
theorem own_eq_symm (f1 l1 : Int64) (o1 : Int32) (f2 l2 : Int64) (o2 : Int32) : own_eq f2 l2 o2 f1 l1 o1 = own_eq f1 l1 o1 f2 l2 o2 := by
  unfold own_eq
  by_cases h1 : f1 = f2
  · by_cases h2 : l1 = l2
    · by_cases h3 : o1 = o2
      · rw [if_pos h1, if_pos h2, if_pos h3, if_pos h1.symm, if_pos h2.symm, if_pos h3.symm]
      · rw [if_pos h1, if_pos h2, if_neg h3, if_pos h1.symm, if_pos h2.symm, if_neg (fun q => h3 q.symm)]
    · rw [if_pos h1, if_neg h2, if_pos h1.symm, if_neg (fun q => h2 q.symm)]
  · rw [if_neg h1, if_neg (fun q => h1 q.symm)]
theorem own_eq_self (f1 l1 : Int64) (o1 : Int32) : own_eq f1 l1 o1 f1 l1 o1 = 1 := by simp [own_eq]
theorem own_bit {q : Prop} [Decidable q] : nar .boolean (if q then (0 : Int32) else (1 : Int32)) = (if q then (0 : Int32) else (1 : Int32)) := by
  by_cases h : q
  · rw [if_pos h]; rfl
  · rw [if_neg h]; rfl
theorem own_m (x : Int32) : x &&& 3 = 0 ∨ x &&& 3 = 1 ∨ x &&& 3 = 2 ∨ x &&& 3 = 3 := by
  have h : (x &&& 3).toBitVec = 0#32 ∨ (x &&& 3).toBitVec = 1#32 ∨ (x &&& 3).toBitVec = 2#32 ∨ (x &&& 3).toBitVec = 3#32 := by
    have e : (x &&& 3).toBitVec = x.toBitVec &&& 3#32 := rfl
    rw [e]
    have hb : (x.toBitVec &&& 3#32).toNat = x.toBitVec.toNat % 4 := by
      rw [BitVec.toNat_and]; exact Nat.and_two_pow_sub_one_eq_mod _ 2
    have hl : x.toBitVec.toNat % 4 < 4 := Nat.mod_lt _ (by decide)
    rcases (by omega : x.toBitVec.toNat % 4 = 0 ∨ x.toBitVec.toNat % 4 = 1 ∨ x.toBitVec.toNat % 4 = 2 ∨ x.toBitVec.toNat % 4 = 3) with q | q | q | q
    · exact Or.inl (BitVec.eq_of_toNat_eq (by rw [hb, q]; rfl))
    · exact Or.inr (Or.inl (BitVec.eq_of_toNat_eq (by rw [hb, q]; rfl)))
    · exact Or.inr (Or.inr (Or.inl (BitVec.eq_of_toNat_eq (by rw [hb, q]; rfl))))
    · exact Or.inr (Or.inr (Or.inr (BitVec.eq_of_toNat_eq (by rw [hb, q]; rfl))))
  rcases h with h | h | h | h
  · exact Or.inl (Int32.toBitVec_inj.mp h)
  · exact Or.inr (Or.inl (Int32.toBitVec_inj.mp h))
  · exact Or.inr (Or.inr (Or.inl (Int32.toBitVec_inj.mp h)))
  · exact Or.inr (Or.inr (Or.inr (Int32.toBitVec_inj.mp h)))
/-- a Long is no K, where K is an ordinary class that is none of Long, Number, Object -/
theorem own_notK {Z : State} {a0 : Array Value} {h : Heap} {a : Addr} {K : String} {n : Nat} (E : Exa Z h a "java/lang/Long") (w1 : (Jvm.Cond.superclass "java/lang/Long" "java/lang/Number").before a0 Z = true) (w2 : (Jvm.Cond.superclass "java/lang/Number" "java/lang/Object").before a0 Z = true) (w3 : (Jvm.Cond.noSuperclass "java/lang/Object").before a0 Z = true)
    (wi : (Jvm.Cond.instantiable K n).before a0 Z = true) (hn : K ≠ "java/lang/Long" ∧ K ≠ "java/lang/Number" ∧ K ≠ "java/lang/Object") : Ins Z h a K false := by
  obtain ⟨cell, k, e1, e2, e3, e4, -⟩ := E
  obtain ⟨cN, kL, kN, hfN, hkL, hkN, hsL, hoL, -, -⟩ := Cond.superclass_spec e2 w1
  obtain ⟨cO, kN', kO, hfO, hkN', hkO, hsN, -, -, -⟩ := Cond.superclass_spec hfN w2
  cases hkN.symm.trans hkN'
  obtain ⟨cO', kO', hfO', hkO', hsO, -, -⟩ := Cond.noSuperclass_spec w3
  cases hfO.symm.trans hfO'
  cases hkO.symm.trans hkO'
  obtain ⟨cK, kK, i1, i2, i3, i4, -⟩ := Cond.instantiable_spec wi
  have dist : ∀ {C : String} {c : ClassId}, Z.vm.findClass C = some c → K ≠ C → c ≠ cK := fun hc hne e => by
    subst e
    obtain ⟨k1, q1, q2⟩ := Vm.findClass_spec hc
    obtain ⟨k2, r1, r2⟩ := Vm.findClass_spec i1
    cases q1.symm.trans r1
    exact hne (r2.symm.trans q2)
  have d1 := dist e2 hn.1
  have d2 := dist hfN hn.2.1
  have d3 := dist hfO hn.2.2
  have sub : ∀ fuel, Z.vm.isSubclassAux fuel cell.cls cK = false := fun fuel => by
    match fuel with
    | 0 => rfl
    | 1 => simp [Vm.isSubclassAux, d1, hkL, hsL]
    | 2 => simp [Vm.isSubclassAux, d1, d2, hkL, hsL, hkN, hsN]
    | f + 3 => simp [Vm.isSubclassAux, d1, d2, d3, hkL, hsL, hkN, hsN, hkO, hsO]
  have hif : kK.isInterface = false := by simpa using (Bool.or_eq_false_iff.mp i4).1
  have ha : Z.vm.assignable cell.cls cK = false := by
    show Z.vm.assignableAux (255 + 1) cell.cls cK = false
    simp [Vm.assignableAux, d1, hkL, i2, hoL, i3, hif, Vm.isSubclass, sub]
  exact ⟨cell, cK, e1, i1, by rw [ha]; simp⟩
theorem own_len {args : Array Value} {s : State} {t : Term} {x : Addr} {cl : Cell} {z : Int32} (ht : t.eval args s none [] s = some (.ref x)) (ha : s.arrayAt? x = some cl) (h : (Term.length t).eval args s none [] s = some (.int z)) : cl.slots.size < 2 ^ 31 ∧ cl.slots.size.toInt32 = z := by
  by_cases q : cl.slots.size < 2 ^ 31
  · rw [len_f ht ha q] at h; exact ⟨q, by injection h with h; injection h⟩
  · exfalso; simp [Term.eval, ht, ha, q] at h
theorem own_idx {q : Int64} (h1 : ¬ q < -128) (h2 : ¬ 127 < q) {n : Nat} (hn : n = (256 : Int32).toNatClampNeg) : ¬ ((q.toInt32 + 128) < 0 ∨ n ≤ (q.toInt32 + 128).toNatClampNeg) := by
  subst hn
  rw [Int64.lt_iff_toInt_lt] at h1 h2
  have a1 : (-128 : Int64).toInt = -128 := rfl
  have a2 : (127 : Int64).toInt = 127 := rfl
  rw [a1] at h1; rw [a2] at h2
  have a3 : q.toInt32.toInt = q.toInt := by rw [Int64.toInt_toInt32, Int.bmod_def]; omega
  have a4 : (q.toInt32 + 128).toInt = q.toInt + 128 := by
    rw [Int32.toInt_add, a3]
    have : (128 : Int32).toInt = 128 := rfl
    rw [this, Int.bmod_def]; omega
  have a5 : (256 : Int32).toNatClampNeg = 256 := rfl
  rw [a5, Int32.lt_iff_toInt_lt, Int32.toNatClampNeg, a4]
  have : (0 : Int32).toInt = 0 := rfl
  rw [this]; omega
theorem ef_rm1 (m : MethodId) (x0 : Int64) (x1 : Int64) : entryFrame m #[(.long x0), (.long x1)] 4 = mkF m 0 #[.val (.long x0), .second, .val (.long x1), .second] [] := by first | (simp [entryFrame, mkF, argsToLocals, Value.category]; done) | rfl
theorem d1_0 : decode jdk_29_method_70_code 0 = .ok (.lload_n 0, 1) := by decide +kernel
theorem d1_1 : decode jdk_29_method_70_code 1 = .ok (.lload_n 2, 1) := by decide +kernel
theorem d1_2 : decode jdk_29_method_70_code 2 = .ok (.lcmp, 1) := by decide +kernel
theorem d1_3 : decode jdk_29_method_70_code 3 = .ok (.ifCond .gt 7, 3) := by decide +kernel
theorem d1_10 : decode jdk_29_method_70_code 10 = .ok (.lload_n 2, 1) := by decide +kernel
theorem d1_11 : decode jdk_29_method_70_code 11 = .ok (.lreturn, 1) := by decide +kernel
theorem d1_6 : decode jdk_29_method_70_code 6 = .ok (.lload_n 0, 1) := by decide +kernel
theorem d1_7 : decode jdk_29_method_70_code 7 = .ok (.goto 4, 3) := by decide +kernel
def Q_rm1 (Z : State) (q1 q2 : Int64) (h0 : Heap) (n0 : Nat) (v : Option Value) (h : Heap) (L : List Loc) : Prop := v = some (.long (own_min q1 q2)) ∧ Fr n0 L ∧ h = h0
set_option maxRecDepth 65536 in
set_option maxHeartbeats 40000000 in
theorem rm1 (l : Launch) (Z : State) (a0 : Array Value) (hw : ∀ d ∈ tables_1, d.before a0 Z = true) (ws : List Jvm.Cond) (q1 q2 : Int64) (h0 : Heap) (n0 : Nat) (Z0 : n0 ≤ h0.size) :
    MetFree l (⟨"java/lang/Math", "min", "(JJ)J"⟩ : MethodName) (head1 (Jvm.Cond.code (⟨"java/lang/Math", "min", "(JJ)J"⟩ : MethodName) jdk_29_method_70_code 4 (some .long) :: ws) ({ frames := 0, cells := 0, slots := 0, locals := 0 } : Room)) (fun ag U => ag = #[(.long q1), (.long q2)] ∧ Z.Warmed39 U.vm ∧ U.heap = h0) (fun _ _ _ _ _ => True) (fun _ U o U' => ∃ v L, o = .returned v ∧ Q_rm1 Z q1 q2 h0 n0 v U'.heap L ∧ FrameEnd U o U' L ({ frames := 0, cells := 0, slots := 0, locals := 0 } : Room).cells ({ frames := 0, cells := 0, slots := 0, locals := 0 } : Room).slots) := by
  refine MetFree.of_bodySF (Jvm.Free.JP.mathPlain rfl (by decide +kernel)) hisR ?_
  intro p e s m args below meth c s₁ Bd hml0 hP hK
  obtain ⟨rfl, hZ, hh⟩ := hP
  have hx := Bd.exec
  have hby := Bd.bytes
  have hml : c.maxLocals = 4 := hml0
  have hown : s.vm.findClass "java/lang/Math" = some m.cls := findClass_of_methodNamed Bd.named
  have hnm := (name_of_methodNamed Bd.named Bd.method).1
  have X0 : Stand p l e ({ frames := 0, cells := 0, slots := 0, locals := 0 } : Room) s m #[(.long q1), (.long q2)] below meth c s₁ [] 0 0 := Stand.of_body Bd
  have e0 : s₁.heap = h0 := by rw [← hh, Bd.state]; rfl
  have N0 := Fr.nil n0
  refine own_start (ef_rm1 m q1 q2) ?_
  intro F hF
  show own_Gl p.tables e below F (s₁.setTop (mkF m 0 #[.val (.long q1), .second, .val (.long q2), .second] []))
  refine own_go (fun _ k => XS.lloadN X0.here hx rfl (hb hby d1_0) rfl k) ?_
  show own_Gl p.tables e below F (s₁.setTop (mkF m 1 #[.val (.long q1), .second, .val (.long q2), .second] [(.long q1)]))
  refine own_go (fun _ k => XS.lloadN X0.here hx rfl (hb hby d1_1) rfl k) ?_
  show own_Gl p.tables e below F (s₁.setTop (mkF m 2 #[.val (.long q1), .second, .val (.long q2), .second] [(.long q2), (.long q1)]))
  refine own_go (fun _ k => XS.lcmp X0.here hx rfl (hb hby d1_2) rfl k) ?_
  show own_Gl p.tables e below F (s₁.setTop (mkF m 3 #[.val (.long q1), .second, .val (.long q2), .second] [(.int (XT.cmpL q1 q2))]))
  by_cases h1 : q2 < q1
  · refine own_go (fun _ k => XS.ifYes X0.here hx rfl (pc0 := 3) (pc' := 10) rfl (hb hby d1_3) rfl (XT.ll_gt_t (by assumption)) (by decide) (by decide) k) ?_
    show own_Gl p.tables e below F (s₁.setTop (mkF m 10 #[.val (.long q1), .second, .val (.long q2), .second] []))
    refine own_go (fun _ k => XS.lloadN X0.here hx rfl (hb hby d1_10) rfl k) ?_
    show own_Gl p.tables e below F (s₁.setTop (mkF m 11 #[.val (.long q1), .second, .val (.long q2), .second] [(.long q2)]))
    obtain ⟨fs, hr, hrun, hended, hW, hsame⟩ := X0.leave (v := some (.long q2)) (fun h => by rw [Bd.returns] at h; cases h)
    subst hF
    refine own_fin ?_ ⟨hrun, hended, _, _, rfl, ?_, ⟨_, rfl⟩, hW, hsame.mono (by first | decide | exact Nat.le_of_ble_eq_true rfl) (by first | decide | exact Nat.le_of_ble_eq_true rfl)⟩
    · exact own_retJ X0 hx Bd.returns (hb hby d1_11) hr
    · show Q_rm1 Z q1 q2 h0 n0 _ s₁.heap _
      rw [e0]
      exact ⟨by rw [own_min, if_pos h1], N0, rfl⟩
  · refine own_go (fun _ k => XS.ifNo X0.here hx rfl (hb hby d1_3) rfl (XT.ll_gt_f (by assumption)) k) ?_
    show own_Gl p.tables e below F (s₁.setTop (mkF m 6 #[.val (.long q1), .second, .val (.long q2), .second] []))
    refine own_go (fun _ k => XS.lloadN X0.here hx rfl (hb hby d1_6) rfl k) ?_
    show own_Gl p.tables e below F (s₁.setTop (mkF m 7 #[.val (.long q1), .second, .val (.long q2), .second] [(.long q1)]))
    refine own_go (fun _ k => XS.goto X0.here hx rfl (pc0 := 7) (pc' := 11) rfl (hb hby d1_7) (by decide) (by decide) k) ?_
    show own_Gl p.tables e below F (s₁.setTop (mkF m 11 #[.val (.long q1), .second, .val (.long q2), .second] [(.long q1)]))
    obtain ⟨fs, hr, hrun, hended, hW, hsame⟩ := X0.leave (v := some (.long q1)) (fun h => by rw [Bd.returns] at h; cases h)
    subst hF
    refine own_fin ?_ ⟨hrun, hended, _, _, rfl, ?_, ⟨_, rfl⟩, hW, hsame.mono (by first | decide | exact Nat.le_of_ble_eq_true rfl) (by first | decide | exact Nat.le_of_ble_eq_true rfl)⟩
    · exact own_retJ X0 hx Bd.returns (hb hby d1_11) hr
    · show Q_rm1 Z q1 q2 h0 n0 _ s₁.heap _
      rw [e0]
      exact ⟨by rw [own_min, if_neg h1], N0, rfl⟩
theorem ef_rm2 (m : MethodId) (x0 : Int64) (x1 : Int64) : entryFrame m #[(.long x0), (.long x1)] 4 = mkF m 0 #[.val (.long x0), .second, .val (.long x1), .second] [] := by first | (simp [entryFrame, mkF, argsToLocals, Value.category]; done) | rfl
theorem d2_0 : decode jdk_29_method_66_code 0 = .ok (.lload_n 0, 1) := by decide +kernel
theorem d2_1 : decode jdk_29_method_66_code 1 = .ok (.lload_n 2, 1) := by decide +kernel
theorem d2_2 : decode jdk_29_method_66_code 2 = .ok (.lcmp, 1) := by decide +kernel
theorem d2_3 : decode jdk_29_method_66_code 3 = .ok (.ifCond .lt 7, 3) := by decide +kernel
theorem d2_10 : decode jdk_29_method_66_code 10 = .ok (.lload_n 2, 1) := by decide +kernel
theorem d2_11 : decode jdk_29_method_66_code 11 = .ok (.lreturn, 1) := by decide +kernel
theorem d2_6 : decode jdk_29_method_66_code 6 = .ok (.lload_n 0, 1) := by decide +kernel
theorem d2_7 : decode jdk_29_method_66_code 7 = .ok (.goto 4, 3) := by decide +kernel
def Q_rm2 (Z : State) (q1 q2 : Int64) (h0 : Heap) (n0 : Nat) (v : Option Value) (h : Heap) (L : List Loc) : Prop := v = some (.long (own_max q1 q2)) ∧ Fr n0 L ∧ h = h0
set_option maxRecDepth 65536 in
set_option maxHeartbeats 40000000 in
theorem rm2 (l : Launch) (Z : State) (a0 : Array Value) (hw : ∀ d ∈ tables_1, d.before a0 Z = true) (ws : List Jvm.Cond) (q1 q2 : Int64) (h0 : Heap) (n0 : Nat) (Z0 : n0 ≤ h0.size) :
    MetFree l (⟨"java/lang/Math", "max", "(JJ)J"⟩ : MethodName) (head1 (Jvm.Cond.code (⟨"java/lang/Math", "max", "(JJ)J"⟩ : MethodName) jdk_29_method_66_code 4 (some .long) :: ws) ({ frames := 0, cells := 0, slots := 0, locals := 0 } : Room)) (fun ag U => ag = #[(.long q1), (.long q2)] ∧ Z.Warmed39 U.vm ∧ U.heap = h0) (fun _ _ _ _ _ => True) (fun _ U o U' => ∃ v L, o = .returned v ∧ Q_rm2 Z q1 q2 h0 n0 v U'.heap L ∧ FrameEnd U o U' L ({ frames := 0, cells := 0, slots := 0, locals := 0 } : Room).cells ({ frames := 0, cells := 0, slots := 0, locals := 0 } : Room).slots) := by
  refine MetFree.of_bodySF (Jvm.Free.JP.mathPlain rfl (by decide +kernel)) hisR ?_
  intro p e s m args below meth c s₁ Bd hml0 hP hK
  obtain ⟨rfl, hZ, hh⟩ := hP
  have hx := Bd.exec
  have hby := Bd.bytes
  have hml : c.maxLocals = 4 := hml0
  have hown : s.vm.findClass "java/lang/Math" = some m.cls := findClass_of_methodNamed Bd.named
  have hnm := (name_of_methodNamed Bd.named Bd.method).1
  have X0 : Stand p l e ({ frames := 0, cells := 0, slots := 0, locals := 0 } : Room) s m #[(.long q1), (.long q2)] below meth c s₁ [] 0 0 := Stand.of_body Bd
  have e0 : s₁.heap = h0 := by rw [← hh, Bd.state]; rfl
  have N0 := Fr.nil n0
  refine own_start (ef_rm2 m q1 q2) ?_
  intro F hF
  show own_Gl p.tables e below F (s₁.setTop (mkF m 0 #[.val (.long q1), .second, .val (.long q2), .second] []))
  refine own_go (fun _ k => XS.lloadN X0.here hx rfl (hb hby d2_0) rfl k) ?_
  show own_Gl p.tables e below F (s₁.setTop (mkF m 1 #[.val (.long q1), .second, .val (.long q2), .second] [(.long q1)]))
  refine own_go (fun _ k => XS.lloadN X0.here hx rfl (hb hby d2_1) rfl k) ?_
  show own_Gl p.tables e below F (s₁.setTop (mkF m 2 #[.val (.long q1), .second, .val (.long q2), .second] [(.long q2), (.long q1)]))
  refine own_go (fun _ k => XS.lcmp X0.here hx rfl (hb hby d2_2) rfl k) ?_
  show own_Gl p.tables e below F (s₁.setTop (mkF m 3 #[.val (.long q1), .second, .val (.long q2), .second] [(.int (XT.cmpL q1 q2))]))
  by_cases h1 : q1 < q2
  · refine own_go (fun _ k => XS.ifYes X0.here hx rfl (pc0 := 3) (pc' := 10) rfl (hb hby d2_3) rfl (XT.ll_lt_t (by assumption)) (by decide) (by decide) k) ?_
    show own_Gl p.tables e below F (s₁.setTop (mkF m 10 #[.val (.long q1), .second, .val (.long q2), .second] []))
    refine own_go (fun _ k => XS.lloadN X0.here hx rfl (hb hby d2_10) rfl k) ?_
    show own_Gl p.tables e below F (s₁.setTop (mkF m 11 #[.val (.long q1), .second, .val (.long q2), .second] [(.long q2)]))
    obtain ⟨fs, hr, hrun, hended, hW, hsame⟩ := X0.leave (v := some (.long q2)) (fun h => by rw [Bd.returns] at h; cases h)
    subst hF
    refine own_fin ?_ ⟨hrun, hended, _, _, rfl, ?_, ⟨_, rfl⟩, hW, hsame.mono (by first | decide | exact Nat.le_of_ble_eq_true rfl) (by first | decide | exact Nat.le_of_ble_eq_true rfl)⟩
    · exact own_retJ X0 hx Bd.returns (hb hby d2_11) hr
    · show Q_rm2 Z q1 q2 h0 n0 _ s₁.heap _
      rw [e0]
      exact ⟨by rw [own_max, if_pos h1], N0, rfl⟩
  · refine own_go (fun _ k => XS.ifNo X0.here hx rfl (hb hby d2_3) rfl (XT.ll_lt_f (by assumption)) k) ?_
    show own_Gl p.tables e below F (s₁.setTop (mkF m 6 #[.val (.long q1), .second, .val (.long q2), .second] []))
    refine own_go (fun _ k => XS.lloadN X0.here hx rfl (hb hby d2_6) rfl k) ?_
    show own_Gl p.tables e below F (s₁.setTop (mkF m 7 #[.val (.long q1), .second, .val (.long q2), .second] [(.long q1)]))
    refine own_go (fun _ k => XS.goto X0.here hx rfl (pc0 := 7) (pc' := 11) rfl (hb hby d2_7) (by decide) (by decide) k) ?_
    show own_Gl p.tables e below F (s₁.setTop (mkF m 11 #[.val (.long q1), .second, .val (.long q2), .second] [(.long q1)]))
    obtain ⟨fs, hr, hrun, hended, hW, hsame⟩ := X0.leave (v := some (.long q1)) (fun h => by rw [Bd.returns] at h; cases h)
    subst hF
    refine own_fin ?_ ⟨hrun, hended, _, _, rfl, ?_, ⟨_, rfl⟩, hW, hsame.mono (by first | decide | exact Nat.le_of_ble_eq_true rfl) (by first | decide | exact Nat.le_of_ble_eq_true rfl)⟩
    · exact own_retJ X0 hx Bd.returns (hb hby d2_11) hr
    · show Q_rm2 Z q1 q2 h0 n0 _ s₁.heap _
      rw [e0]
      exact ⟨by rw [own_max, if_neg h1], N0, rfl⟩
theorem ef_rm3 (m : MethodId) (x0 : Addr) (x1 : Int64) (x2 : Int64) (x3 : Int32) : entryFrame m #[(.ref x0), (.long x1), (.long x2), (.int x3)] 6 = mkF m 0 #[.val (.ref x0), .val (.long x1), .second, .val (.long x2), .second, .val (.int x3)] [] := by first | (simp [entryFrame, mkF, argsToLocals, Value.category]; done) | rfl
theorem pn_0 : plainName "com/example/quorumhelm/quorumhelm/io/JournalSegment" = true := by first | (simp [plainName, overriddenIn]; done) | decide +kernel
theorem d3_0 : decode prog_34_method_1_code 0 = .ok (.aload_n 0, 1) := by decide +kernel
theorem d3_1 : decode prog_34_method_1_code 1 = .ok (.invokespecial 1, 3) := by decide +kernel
theorem d3_4 : decode prog_34_method_1_code 4 = .ok (.aload_n 0, 1) := by decide +kernel
theorem d3_5 : decode prog_34_method_1_code 5 = .ok (.lload_n 1, 1) := by decide +kernel
theorem d3_6 : decode prog_34_method_1_code 6 = .ok (.putfield 7, 3) := by decide +kernel
theorem d3_9 : decode prog_34_method_1_code 9 = .ok (.aload_n 0, 1) := by decide +kernel
theorem d3_10 : decode prog_34_method_1_code 10 = .ok (.lload_n 3, 1) := by decide +kernel
theorem d3_11 : decode prog_34_method_1_code 11 = .ok (.putfield 13, 3) := by decide +kernel
theorem d3_14 : decode prog_34_method_1_code 14 = .ok (.aload_n 0, 1) := by decide +kernel
theorem d3_15 : decode prog_34_method_1_code 15 = .ok (.iload 5, 2) := by decide +kernel
theorem d3_17 : decode prog_34_method_1_code 17 = .ok (.putfield 16, 3) := by decide +kernel
theorem d3_20 : decode prog_34_method_1_code 20 = .ok (.return_, 1) := by decide +kernel
def Q_rm3 (Z : State) (a : Addr) (q1 q2 : Int64) (p3 : Int32) (h0 : Heap) (n0 : Nat) (v : Option Value) (h : Heap) (L : List Loc) : Prop := v = none ∧ Fr n0 L ∧ Keep h0 h [a] ∧ Exa Z h a "com/example/quorumhelm/quorumhelm/io/JournalSegment" ∧ Fld Z h a "com/example/quorumhelm/quorumhelm/io/JournalSegment" "m_nFirstTxId" "J" (.long q1) ∧ Fld Z h a "com/example/quorumhelm/quorumhelm/io/JournalSegment" "m_nLastTxId" "J" (.long q2) ∧ Fld Z h a "com/example/quorumhelm/quorumhelm/io/JournalSegment" "m_bOpen" "Z" (.int (nar .boolean p3))
set_option maxRecDepth 65536 in
set_option maxHeartbeats 40000000 in
theorem rm3 (l : Launch) (Z : State) (a0 : Array Value) (hw : ∀ d ∈ tables_1, d.before a0 Z = true) (ws : List Jvm.Cond) (a : Addr) (q1 q2 : Int64) (p3 : Int32) (h0 : Heap) (n0 : Nat) (Z0 : n0 ≤ h0.size) (E_a : Exa Z h0 a "com/example/quorumhelm/quorumhelm/io/JournalSegment") (F_m_nFirstTxId : Fld Z h0 a "com/example/quorumhelm/quorumhelm/io/JournalSegment" "m_nFirstTxId" "J" (.long 0)) (F_m_nLastTxId : Fld Z h0 a "com/example/quorumhelm/quorumhelm/io/JournalSegment" "m_nLastTxId" "J" (.long 0)) (F_m_bOpen : Fld Z h0 a "com/example/quorumhelm/quorumhelm/io/JournalSegment" "m_bOpen" "Z" (.int 0)) (g_a : n0 ≤ a) :
    MetFree l (⟨"com/example/quorumhelm/quorumhelm/io/JournalSegment", "<init>", "(JJZ)V"⟩ : MethodName) (head1 (Jvm.Cond.code (⟨"com/example/quorumhelm/quorumhelm/io/JournalSegment", "<init>", "(JJZ)V"⟩ : MethodName) prog_34_method_1_code 6 none :: ws) ({ frames := 1, cells := 0, slots := 0, locals := 12 } : Room)) (fun ag U => ag = #[(.ref a), (.long q1), (.long q2), (.int p3)] ∧ Z.Warmed39 U.vm ∧ U.heap = h0) (fun _ _ _ _ _ => True) (fun _ U o U' => ∃ v L, o = .returned v ∧ Q_rm3 Z a q1 q2 p3 h0 n0 v U'.heap L ∧ FrameEnd U o U' L ({ frames := 1, cells := 0, slots := 0, locals := 12 } : Room).cells ({ frames := 1, cells := 0, slots := 0, locals := 12 } : Room).slots) := by
  refine MetFree.of_bodySF (plainFor_of_name pn_0) hisR ?_
  intro p e s m args below meth c s₁ Bd hml0 hP hK
  obtain ⟨rfl, hZ, hh⟩ := hP
  have hx := Bd.exec
  have hby := Bd.bytes
  have hml : c.maxLocals = 6 := hml0
  have hown : s.vm.findClass "com/example/quorumhelm/quorumhelm/io/JournalSegment" = some m.cls := findClass_of_methodNamed Bd.named
  have hnm := (name_of_methodNamed Bd.named Bd.method).1
  have X0 : Stand p l e ({ frames := 1, cells := 0, slots := 0, locals := 12 } : Room) s m #[(.ref a), (.long q1), (.long q2), (.int p3)] below meth c s₁ [] 0 0 := Stand.of_body Bd
  have e0 : s₁.heap = h0 := by rw [← hh, Bd.state]; rfl
  have N0 := Fr.nil n0
  refine own_start (ef_rm3 m a q1 q2 p3) ?_
  intro F hF
  show own_Gl p.tables e below F (s₁.setTop (mkF m 0 #[.val (.ref a), .val (.long q1), .second, .val (.long q2), .second, .val (.int p3)] []))
  refine own_go (fun _ k => XS.aloadN X0.here hx rfl (hb hby d3_0) rfl rfl k) ?_
  show own_Gl p.tables e below F (s₁.setTop (mkF m 1 #[.val (.ref a), .val (.long q1), .second, .val (.long q2), .second, .val (.int p3)] [(.ref a)]))
  obtain ⟨T1, X1, e1, st1⟩ := initO X0 hx hZ hown (hw _ (List.mem_of_getElem? (i := 13) rfl)) (hw _ (List.mem_of_getElem? (i := 14) rfl)) (hw _ (List.mem_of_getElem? (i := 15) rfl)) e0 (g := (mkF m 1 #[.val (.ref a), .val (.long q1), .second, .val (.long q2), .second, .val (.int p3)] [(.ref a)])) rfl (by rw [hml]; rfl) rfl (hb hby d3_1) (by decide) (W := 0) (by show 2 * 0 + _ ≤ _; exact Nat.le_of_eq rfl) (by decide)
  refine own_go st1 ?_
  show own_Gl p.tables e below F (T1.setTop (mkF m 4 #[.val (.ref a), .val (.long q1), .second, .val (.long q2), .second, .val (.int p3)] []))
  refine own_go (fun _ k => XS.aloadN X1.here hx rfl (hb hby d3_4) rfl rfl k) ?_
  show own_Gl p.tables e below F (T1.setTop (mkF m 5 #[.val (.ref a), .val (.long q1), .second, .val (.long q2), .second, .val (.int p3)] [(.ref a)]))
  refine own_go (fun _ k => XS.lloadN X1.here hx rfl (hb hby d3_5) rfl k) ?_
  show own_Gl p.tables e below F (T1.setTop (mkF m 6 #[.val (.ref a), .val (.long q1), .second, .val (.long q2), .second, .val (.int p3)] [(.long q1), (.ref a)]))
  obtain ⟨T2, h2, X2, e2, W2, st2⟩ := putF X1 hx hZ hown (host := "") (Or.inl (hw _ (List.mem_of_getElem? (i := 16) rfl))) Via.refl e1 F_m_nFirstTxId E_a (Or.inr ⟨(hw _ (List.mem_of_getElem? (i := 17) rfl)), rfl, hnm⟩) (hw _ (List.mem_of_getElem? (i := 8) rfl)) (ty := .long) (by decide) rfl rfl (g := (mkF m 6 #[.val (.ref a), .val (.long q1), .second, .val (.long q2), .second, .val (.int p3)] [(.long q1), (.ref a)])) rfl rfl (hb hby d3_6)
  have Fw2 := F_m_nFirstTxId.same W2
  have f2_1 := E_a.wr W2
  have f2_3 := F_m_nLastTxId.other W2 (Or.inr (slot_ne (Or.inr (hw _ (List.mem_of_getElem? (i := 19) rfl))) (Or.inr (hw _ (List.mem_of_getElem? (i := 17) rfl))) (by decide) (t := .long) (t' := .long) (by decide) (by decide)))
  have f2_4 := F_m_bOpen.other W2 (Or.inr (slot_ne (Or.inr (hw _ (List.mem_of_getElem? (i := 21) rfl))) (Or.inr (hw _ (List.mem_of_getElem? (i := 17) rfl))) (by decide) (t := .boolean) (t' := .long) (by decide) (by decide)))
  have Z2 : n0 ≤ h2.size := by rw [W2.size]; exact Z0
  have K2 := Keep.wr (Keep.refl h0 [a]) W2 (Or.inl (by simp))
  have N2 := Fr.snoc X2 N0 g_a
  refine own_go st2 ?_
  show own_Gl p.tables e below F (T2.setTop (mkF m 9 #[.val (.ref a), .val (.long q1), .second, .val (.long q2), .second, .val (.int p3)] []))
  refine own_go (fun _ k => XS.aloadN X2.here hx rfl (hb hby d3_9) rfl rfl k) ?_
  show own_Gl p.tables e below F (T2.setTop (mkF m 10 #[.val (.ref a), .val (.long q1), .second, .val (.long q2), .second, .val (.int p3)] [(.ref a)]))
  refine own_go (fun _ k => XS.lloadN X2.here hx rfl (hb hby d3_10) rfl k) ?_
  show own_Gl p.tables e below F (T2.setTop (mkF m 11 #[.val (.ref a), .val (.long q1), .second, .val (.long q2), .second, .val (.int p3)] [(.long q2), (.ref a)]))
  obtain ⟨T3, h3, X3, e3, W3, st3⟩ := putF X2 hx hZ hown (host := "") (Or.inl (hw _ (List.mem_of_getElem? (i := 18) rfl))) Via.refl e2 f2_3 f2_1 (Or.inr ⟨(hw _ (List.mem_of_getElem? (i := 19) rfl)), rfl, hnm⟩) (hw _ (List.mem_of_getElem? (i := 8) rfl)) (ty := .long) (by decide) rfl rfl (g := (mkF m 11 #[.val (.ref a), .val (.long q1), .second, .val (.long q2), .second, .val (.int p3)] [(.long q2), (.ref a)])) rfl rfl (hb hby d3_11)
  have Fw3 := f2_3.same W3
  have f3_1 := f2_1.wr W3
  have f3_2 := Fw2.other W3 (Or.inr (slot_ne (Or.inr (hw _ (List.mem_of_getElem? (i := 17) rfl))) (Or.inr (hw _ (List.mem_of_getElem? (i := 19) rfl))) (by decide) (t := .long) (t' := .long) (by decide) (by decide)))
  have f3_4 := f2_4.other W3 (Or.inr (slot_ne (Or.inr (hw _ (List.mem_of_getElem? (i := 21) rfl))) (Or.inr (hw _ (List.mem_of_getElem? (i := 19) rfl))) (by decide) (t := .boolean) (t' := .long) (by decide) (by decide)))
  have Z3 : n0 ≤ h3.size := by rw [W3.size]; exact Z2
  have K3 := Keep.wr K2 W3 (Or.inl (by simp))
  have N3 := Fr.snoc X3 N2 g_a
  refine own_go st3 ?_
  show own_Gl p.tables e below F (T3.setTop (mkF m 14 #[.val (.ref a), .val (.long q1), .second, .val (.long q2), .second, .val (.int p3)] []))
  refine own_go (fun _ k => XS.aloadN X3.here hx rfl (hb hby d3_14) rfl rfl k) ?_
  show own_Gl p.tables e below F (T3.setTop (mkF m 15 #[.val (.ref a), .val (.long q1), .second, .val (.long q2), .second, .val (.int p3)] [(.ref a)]))
  refine own_go (fun _ k => XS.iload X3.here hx rfl (hb hby d3_15) rfl k) ?_
  show own_Gl p.tables e below F (T3.setTop (mkF m 17 #[.val (.ref a), .val (.long q1), .second, .val (.long q2), .second, .val (.int p3)] [(.int p3), (.ref a)]))
  obtain ⟨T4, h4, X4, e4, W4, st4⟩ := putFN X3 hx hZ hown (hw _ (List.mem_of_getElem? (i := 20) rfl)) Via.refl e3 f3_4 f3_1 (Or.inr ⟨(hw _ (List.mem_of_getElem? (i := 21) rfl)), rfl, hnm⟩) (hw _ (List.mem_of_getElem? (i := 8) rfl)) (ty := .boolean) (v' := (.int (nar .boolean p3))) (by decide) rfl (fits_nar_bool _) (g := (mkF m 17 #[.val (.ref a), .val (.long q1), .second, .val (.long q2), .second, .val (.int p3)] [(.int p3), (.ref a)])) rfl rfl (hb hby d3_17)
  have Fw4 := f3_4.same W4
  have f4_1 := f3_1.wr W4
  have f4_2 := f3_2.other W4 (Or.inr (slot_ne (Or.inr (hw _ (List.mem_of_getElem? (i := 17) rfl))) (Or.inr (hw _ (List.mem_of_getElem? (i := 21) rfl))) (by decide) (t := .long) (t' := .boolean) (by decide) (by decide)))
  have f4_3 := Fw3.other W4 (Or.inr (slot_ne (Or.inr (hw _ (List.mem_of_getElem? (i := 19) rfl))) (Or.inr (hw _ (List.mem_of_getElem? (i := 21) rfl))) (by decide) (t := .long) (t' := .boolean) (by decide) (by decide)))
  have Z4 : n0 ≤ h4.size := by rw [W4.size]; exact Z3
  have K4 := Keep.wr K3 W4 (Or.inl (by simp))
  have N4 := Fr.snoc X4 N3 g_a
  refine own_go st4 ?_
  show own_Gl p.tables e below F (T4.setTop (mkF m 20 #[.val (.ref a), .val (.long q1), .second, .val (.long q2), .second, .val (.int p3)] []))
  obtain ⟨fs, hr, hrun, hended, hW, hsame⟩ := X4.leave (v := none) (fun _ => rfl)
  subst hF
  refine own_fin ?_ ⟨hrun, hended, _, _, rfl, ?_, ⟨_, rfl⟩, hW, hsame.mono (by first | decide | exact Nat.le_of_ble_eq_true rfl) (by first | decide | exact Nat.le_of_ble_eq_true rfl)⟩
  · exact X4.returnOut hx Bd.returns (hb hby d3_20) hr
  · show Q_rm3 Z a q1 q2 p3 h0 n0 _ T4.heap _
    rw [e4]
    exact ⟨rfl, N4, K4, f4_1, f4_2, f4_3, Fw4⟩
theorem ef_rm5n (m : MethodId) (x0 : Addr) : entryFrame m #[(.ref x0), .null] 3 = mkF m 0 #[.val (.ref x0), .val .null, .unset] [] := by first | (simp [entryFrame, mkF, argsToLocals, Value.category]; done) | rfl
theorem d5_0 : decode prog_34_method_5_code 0 = .ok (.aload_n 1, 1) := by decide +kernel
theorem d5_1 : decode prog_34_method_5_code 1 = .ok (.instanceof 8, 3) := by decide +kernel
theorem d5_4 : decode prog_34_method_5_code 4 = .ok (.ifCond .eq 47, 3) := by decide +kernel
theorem d5_51 : decode prog_34_method_5_code 51 = .ok (.iconst 0, 1) := by decide +kernel
theorem d5_52 : decode prog_34_method_5_code 52 = .ok (.ireturn, 1) := by decide +kernel
def Q_rm5n (Z : State) (a : Addr) (h0 : Heap) (n0 : Nat) (v : Option Value) (h : Heap) (L : List Loc) : Prop := v = some (.int 0) ∧ Fr n0 L ∧ h = h0
set_option maxRecDepth 65536 in
set_option maxHeartbeats 40000000 in
theorem rm5n (l : Launch) (Z : State) (a0 : Array Value) (hw : ∀ d ∈ tables_1, d.before a0 Z = true) (ws : List Jvm.Cond) (a : Addr) (h0 : Heap) (n0 : Nat) (Z0 : n0 ≤ h0.size) :
    MetFree l (⟨"com/example/quorumhelm/quorumhelm/io/JournalSegment", "equals", "(Ljava/lang/Object;)Z"⟩ : MethodName) (head1 (Jvm.Cond.code (⟨"com/example/quorumhelm/quorumhelm/io/JournalSegment", "equals", "(Ljava/lang/Object;)Z"⟩ : MethodName) prog_34_method_5_code 3 (some .boolean) :: ws) ({ frames := 0, cells := 0, slots := 0, locals := 0 } : Room)) (fun ag U => ag = #[(.ref a), .null] ∧ Z.Warmed39 U.vm ∧ U.heap = h0) (fun _ _ _ _ _ => True) (fun _ U o U' => ∃ v L, o = .returned v ∧ Q_rm5n Z a h0 n0 v U'.heap L ∧ FrameEnd U o U' L ({ frames := 0, cells := 0, slots := 0, locals := 0 } : Room).cells ({ frames := 0, cells := 0, slots := 0, locals := 0 } : Room).slots) := by
  refine MetFree.of_bodySF (plainFor_of_name pn_0) hisR ?_
  intro p e s m args below meth c s₁ Bd hml0 hP hK
  obtain ⟨rfl, hZ, hh⟩ := hP
  have hx := Bd.exec
  have hby := Bd.bytes
  have hml : c.maxLocals = 3 := hml0
  have hown : s.vm.findClass "com/example/quorumhelm/quorumhelm/io/JournalSegment" = some m.cls := findClass_of_methodNamed Bd.named
  have hnm := (name_of_methodNamed Bd.named Bd.method).1
  have X0 : Stand p l e ({ frames := 0, cells := 0, slots := 0, locals := 0 } : Room) s m #[(.ref a), .null] below meth c s₁ [] 0 0 := Stand.of_body Bd
  have e0 : s₁.heap = h0 := by rw [← hh, Bd.state]; rfl
  have N0 := Fr.nil n0
  refine own_start (ef_rm5n m a) ?_
  intro F hF
  show own_Gl p.tables e below F (s₁.setTop (mkF m 0 #[.val (.ref a), .val .null, .unset] []))
  refine own_go (fun _ k => XS.aloadN X0.here hx rfl (hb hby d5_0) rfl rfl k) ?_
  show own_Gl p.tables e below F (s₁.setTop (mkF m 1 #[.val (.ref a), .val .null, .unset] [.null]))
  refine own_go (fun _ k => (X0.instanceofNull hx (g := (mkF m 1 #[.val (.ref a), .val .null, .unset] [.null])) rfl rfl (hb hby d5_1) _) k) ?_
  show own_Gl p.tables e below F (s₁.setTop (mkF m 4 #[.val (.ref a), .val .null, .unset] [(.int (0 : Int32))]))
  refine own_go (fun _ k => XS.ifYes X0.here hx rfl (pc0 := 4) (pc' := 51) rfl (hb hby d5_4) rfl (XT.i0_eq_t (by decide)) (by decide) (by decide) k) ?_
  show own_Gl p.tables e below F (s₁.setTop (mkF m 51 #[.val (.ref a), .val .null, .unset] []))
  refine own_go (fun _ k => XS.iconst X0.here hx rfl (hb hby d5_51) k) ?_
  show own_Gl p.tables e below F (s₁.setTop (mkF m 52 #[.val (.ref a), .val .null, .unset] [(.int (0 : Int32))]))
  obtain ⟨fs, hr, hrun, hended, hW, hsame⟩ := X0.leave (v := some (.int (0 : Int32))) (fun h => by rw [Bd.returns] at h; cases h)
  subst hF
  refine own_fin ?_ ⟨hrun, hended, _, _, rfl, ?_, ⟨_, rfl⟩, hW, hsame.mono (by first | decide | exact Nat.le_of_ble_eq_true rfl) (by first | decide | exact Nat.le_of_ble_eq_true rfl)⟩
  · exact own_retN X0 hx (t := .boolean) Bd.returns (by simp) rfl (hb hby d5_52) hr
  · show Q_rm5n Z a h0 n0 _ s₁.heap _
    rw [e0]
    exact ⟨rfl, N0, rfl⟩
theorem ef_rm5o (m : MethodId) (x0 : Addr) (x1 : Addr) : entryFrame m #[(.ref x0), (.ref x1)] 3 = mkF m 0 #[.val (.ref x0), .val (.ref x1), .unset] [] := by first | (simp [entryFrame, mkF, argsToLocals, Value.category]; done) | rfl
def Q_rm5o (Z : State) (a b : Addr) (h0 : Heap) (n0 : Nat) (v : Option Value) (h : Heap) (L : List Loc) : Prop := v = some (.int 0) ∧ Fr n0 L ∧ h = h0
set_option maxRecDepth 65536 in
set_option maxHeartbeats 40000000 in
theorem rm5o (l : Launch) (Z : State) (a0 : Array Value) (hw : ∀ d ∈ tables_1, d.before a0 Z = true) (ws : List Jvm.Cond) (a b : Addr) (h0 : Heap) (n0 : Nat) (Z0 : n0 ≤ h0.size) (EL : Exa Z h0 b "java/lang/Long") :
    MetFree l (⟨"com/example/quorumhelm/quorumhelm/io/JournalSegment", "equals", "(Ljava/lang/Object;)Z"⟩ : MethodName) (head1 (Jvm.Cond.code (⟨"com/example/quorumhelm/quorumhelm/io/JournalSegment", "equals", "(Ljava/lang/Object;)Z"⟩ : MethodName) prog_34_method_5_code 3 (some .boolean) :: ws) ({ frames := 0, cells := 0, slots := 0, locals := 0 } : Room)) (fun ag U => ag = #[(.ref a), (.ref b)] ∧ Z.Warmed39 U.vm ∧ U.heap = h0) (fun _ _ _ _ _ => True) (fun _ U o U' => ∃ v L, o = .returned v ∧ Q_rm5o Z a b h0 n0 v U'.heap L ∧ FrameEnd U o U' L ({ frames := 0, cells := 0, slots := 0, locals := 0 } : Room).cells ({ frames := 0, cells := 0, slots := 0, locals := 0 } : Room).slots) := by
  refine MetFree.of_bodySF (plainFor_of_name pn_0) hisR ?_
  intro p e s m args below meth c s₁ Bd hml0 hP hK
  obtain ⟨rfl, hZ, hh⟩ := hP
  have hx := Bd.exec
  have hby := Bd.bytes
  have hml : c.maxLocals = 3 := hml0
  have hown : s.vm.findClass "com/example/quorumhelm/quorumhelm/io/JournalSegment" = some m.cls := findClass_of_methodNamed Bd.named
  have hnm := (name_of_methodNamed Bd.named Bd.method).1
  have X0 : Stand p l e ({ frames := 0, cells := 0, slots := 0, locals := 0 } : Room) s m #[(.ref a), (.ref b)] below meth c s₁ [] 0 0 := Stand.of_body Bd
  have e0 : s₁.heap = h0 := by rw [← hh, Bd.state]; rfl
  have N0 := Fr.nil n0
  refine own_start (ef_rm5o m a b) ?_
  intro F hF
  show own_Gl p.tables e below F (s₁.setTop (mkF m 0 #[.val (.ref a), .val (.ref b), .unset] []))
  refine own_go (fun _ k => XS.aloadN X0.here hx rfl (hb hby d5_0) rfl rfl k) ?_
  show own_Gl p.tables e below F (s₁.setTop (mkF m 1 #[.val (.ref a), .val (.ref b), .unset] [(.ref b)]))
  have hs0 : s.heap = h0 := hh
  have EL' : Exa Z s.heap b "java/lang/Long" := by rw [hs0]; exact EL
  have IL' : Ins Z s.heap b "com/example/quorumhelm/quorumhelm/io/JournalSegment" false := own_notK EL' (hw _ (List.mem_of_getElem? (i := 49) rfl)) (hw _ (List.mem_of_getElem? (i := 50) rfl)) (hw _ (List.mem_of_getElem? (i := 51) rfl)) (hw _ (List.mem_of_getElem? (i := 8) rfl)) (by decide)
  obtain ⟨T1, X1, e1, st1⟩ := instN X0 hx hZ hown (hw _ (List.mem_of_getElem? (i := 27) rfl)) e0 IL' EL' (g := (mkF m 1 #[.val (.ref a), .val (.ref b), .unset] [(.ref b)])) rfl rfl (hb hby d5_1)
  refine own_go st1 ?_
  show own_Gl p.tables e below F (T1.setTop (mkF m 4 #[.val (.ref a), .val (.ref b), .unset] [(.int (0 : Int32))]))
  refine own_go (fun _ k => XS.ifYes X1.here hx rfl (pc0 := 4) (pc' := 51) rfl (hb hby d5_4) rfl (XT.i0_eq_t (by decide)) (by decide) (by decide) k) ?_
  show own_Gl p.tables e below F (T1.setTop (mkF m 51 #[.val (.ref a), .val (.ref b), .unset] []))
  refine own_go (fun _ k => XS.iconst X1.here hx rfl (hb hby d5_51) k) ?_
  show own_Gl p.tables e below F (T1.setTop (mkF m 52 #[.val (.ref a), .val (.ref b), .unset] [(.int (0 : Int32))]))
  obtain ⟨fs, hr, hrun, hended, hW, hsame⟩ := X1.leave (v := some (.int (0 : Int32))) (fun h => by rw [Bd.returns] at h; cases h)
  subst hF
  refine own_fin ?_ ⟨hrun, hended, _, _, rfl, ?_, ⟨_, rfl⟩, hW, hsame.mono (by first | decide | exact Nat.le_of_ble_eq_true rfl) (by first | decide | exact Nat.le_of_ble_eq_true rfl)⟩
  · exact own_retN X1 hx (t := .boolean) Bd.returns (by simp) rfl (hb hby d5_52) hr
  · show Q_rm5o Z a b h0 n0 _ T1.heap _
    rw [e1]
    exact ⟨rfl, N0, rfl⟩
theorem ef_rm5 (m : MethodId) (x0 : Addr) (x1 : Addr) : entryFrame m #[(.ref x0), (.ref x1)] 3 = mkF m 0 #[.val (.ref x0), .val (.ref x1), .unset] [] := by first | (simp [entryFrame, mkF, argsToLocals, Value.category]; done) | rfl
theorem d5_7 : decode prog_34_method_5_code 7 = .ok (.aload_n 1, 1) := by decide +kernel
theorem d5_8 : decode prog_34_method_5_code 8 = .ok (.checkcast 8, 3) := by decide +kernel
theorem d5_11 : decode prog_34_method_5_code 11 = .ok (.astore_n 2, 1) := by decide +kernel
theorem d5_12 : decode prog_34_method_5_code 12 = .ok (.aload_n 0, 1) := by decide +kernel
theorem d5_13 : decode prog_34_method_5_code 13 = .ok (.getfield 7, 3) := by decide +kernel
theorem d5_16 : decode prog_34_method_5_code 16 = .ok (.aload_n 2, 1) := by decide +kernel
theorem d5_17 : decode prog_34_method_5_code 17 = .ok (.getfield 7, 3) := by decide +kernel
theorem d5_20 : decode prog_34_method_5_code 20 = .ok (.lcmp, 1) := by decide +kernel
theorem d5_21 : decode prog_34_method_5_code 21 = .ok (.ifCond .ne 30, 3) := by decide +kernel
theorem d5_24 : decode prog_34_method_5_code 24 = .ok (.aload_n 0, 1) := by decide +kernel
theorem d5_25 : decode prog_34_method_5_code 25 = .ok (.getfield 13, 3) := by decide +kernel
theorem d5_28 : decode prog_34_method_5_code 28 = .ok (.aload_n 2, 1) := by decide +kernel
theorem d5_29 : decode prog_34_method_5_code 29 = .ok (.getfield 13, 3) := by decide +kernel
theorem d5_32 : decode prog_34_method_5_code 32 = .ok (.lcmp, 1) := by decide +kernel
theorem d5_33 : decode prog_34_method_5_code 33 = .ok (.ifCond .ne 18, 3) := by decide +kernel
theorem d5_36 : decode prog_34_method_5_code 36 = .ok (.aload_n 0, 1) := by decide +kernel
theorem d5_37 : decode prog_34_method_5_code 37 = .ok (.getfield 16, 3) := by decide +kernel
theorem d5_40 : decode prog_34_method_5_code 40 = .ok (.aload_n 2, 1) := by decide +kernel
theorem d5_41 : decode prog_34_method_5_code 41 = .ok (.getfield 16, 3) := by decide +kernel
theorem d5_44 : decode prog_34_method_5_code 44 = .ok (.if_icmp .ne 7, 3) := by decide +kernel
theorem d5_47 : decode prog_34_method_5_code 47 = .ok (.iconst 1, 1) := by decide +kernel
theorem d5_48 : decode prog_34_method_5_code 48 = .ok (.goto 4, 3) := by decide +kernel
def Q_rm5 (Z : State) (a b : Addr) (f1 l1 : Int64) (o1 : Int32) (f2 l2 : Int64) (o2 : Int32) (h0 : Heap) (n0 : Nat) (v : Option Value) (h : Heap) (L : List Loc) : Prop := v = some (.int (own_eq f1 l1 o1 f2 l2 o2)) ∧ Fr n0 L ∧ h = h0
set_option maxRecDepth 65536 in
set_option maxHeartbeats 40000000 in
theorem rm5 (l : Launch) (Z : State) (a0 : Array Value) (hw : ∀ d ∈ tables_1, d.before a0 Z = true) (ws : List Jvm.Cond) (a b : Addr) (f1 l1 : Int64) (o1 : Int32) (f2 l2 : Int64) (o2 : Int32) (h0 : Heap) (n0 : Nat) (Z0 : n0 ≤ h0.size) (EB : Exa Z h0 b "com/example/quorumhelm/quorumhelm/io/JournalSegment") (Ff1 : Fld Z h0 a "com/example/quorumhelm/quorumhelm/io/JournalSegment" "m_nFirstTxId" "J" (.long f1)) (Fl1 : Fld Z h0 a "com/example/quorumhelm/quorumhelm/io/JournalSegment" "m_nLastTxId" "J" (.long l1)) (Fo1 : Fld Z h0 a "com/example/quorumhelm/quorumhelm/io/JournalSegment" "m_bOpen" "Z" (.int o1)) (Ff2 : Fld Z h0 b "com/example/quorumhelm/quorumhelm/io/JournalSegment" "m_nFirstTxId" "J" (.long f2)) (Fl2 : Fld Z h0 b "com/example/quorumhelm/quorumhelm/io/JournalSegment" "m_nLastTxId" "J" (.long l2)) (Fo2 : Fld Z h0 b "com/example/quorumhelm/quorumhelm/io/JournalSegment" "m_bOpen" "Z" (.int o2)) :
    MetFree l (⟨"com/example/quorumhelm/quorumhelm/io/JournalSegment", "equals", "(Ljava/lang/Object;)Z"⟩ : MethodName) (head1 (Jvm.Cond.code (⟨"com/example/quorumhelm/quorumhelm/io/JournalSegment", "equals", "(Ljava/lang/Object;)Z"⟩ : MethodName) prog_34_method_5_code 3 (some .boolean) :: ws) ({ frames := 0, cells := 0, slots := 0, locals := 0 } : Room)) (fun ag U => ag = #[(.ref a), (.ref b)] ∧ Z.Warmed39 U.vm ∧ U.heap = h0) (fun _ _ _ _ _ => True) (fun _ U o U' => ∃ v L, o = .returned v ∧ Q_rm5 Z a b f1 l1 o1 f2 l2 o2 h0 n0 v U'.heap L ∧ FrameEnd U o U' L ({ frames := 0, cells := 0, slots := 0, locals := 0 } : Room).cells ({ frames := 0, cells := 0, slots := 0, locals := 0 } : Room).slots) := by
  refine MetFree.of_bodySF (plainFor_of_name pn_0) hisR ?_
  intro p e s m args below meth c s₁ Bd hml0 hP hK
  obtain ⟨rfl, hZ, hh⟩ := hP
  have hx := Bd.exec
  have hby := Bd.bytes
  have hml : c.maxLocals = 3 := hml0
  have hown : s.vm.findClass "com/example/quorumhelm/quorumhelm/io/JournalSegment" = some m.cls := findClass_of_methodNamed Bd.named
  have hnm := (name_of_methodNamed Bd.named Bd.method).1
  have X0 : Stand p l e ({ frames := 0, cells := 0, slots := 0, locals := 0 } : Room) s m #[(.ref a), (.ref b)] below meth c s₁ [] 0 0 := Stand.of_body Bd
  have e0 : s₁.heap = h0 := by rw [← hh, Bd.state]; rfl
  have N0 := Fr.nil n0
  refine own_start (ef_rm5 m a b) ?_
  intro F hF
  show own_Gl p.tables e below F (s₁.setTop (mkF m 0 #[.val (.ref a), .val (.ref b), .unset] []))
  refine own_go (fun _ k => XS.aloadN X0.here hx rfl (hb hby d5_0) rfl rfl k) ?_
  show own_Gl p.tables e below F (s₁.setTop (mkF m 1 #[.val (.ref a), .val (.ref b), .unset] [(.ref b)]))
  obtain ⟨T1, X1, e1, st1⟩ := instY X0 hx hZ hown (hw _ (List.mem_of_getElem? (i := 27) rfl)) e0 (Ins.self EB) (g := (mkF m 1 #[.val (.ref a), .val (.ref b), .unset] [(.ref b)])) rfl rfl (hb hby d5_1)
  refine own_go st1 ?_
  show own_Gl p.tables e below F (T1.setTop (mkF m 4 #[.val (.ref a), .val (.ref b), .unset] [(.int (1 : Int32))]))
  refine own_go (fun _ k => XS.ifNo X1.here hx rfl (hb hby d5_4) rfl (XT.i0_eq_f (by decide)) k) ?_
  show own_Gl p.tables e below F (T1.setTop (mkF m 7 #[.val (.ref a), .val (.ref b), .unset] []))
  refine own_go (fun _ k => XS.aloadN X1.here hx rfl (hb hby d5_7) rfl rfl k) ?_
  show own_Gl p.tables e below F (T1.setTop (mkF m 8 #[.val (.ref a), .val (.ref b), .unset] [(.ref b)]))
  obtain ⟨T2, X2, e2, st2⟩ := castY X1 hx hZ hown (hw _ (List.mem_of_getElem? (i := 27) rfl)) e1 (Ins.self EB) (g := (mkF m 8 #[.val (.ref a), .val (.ref b), .unset] [(.ref b)])) rfl rfl (hb hby d5_8)
  refine own_go st2 ?_
  show own_Gl p.tables e below F (T2.setTop (mkF m 11 #[.val (.ref a), .val (.ref b), .unset] [(.ref b)]))
  refine own_go (fun _ k => XS.astoreN X2.here hx rfl (hb hby d5_11) rfl rfl (l' := #[.val (.ref a), .val (.ref b), .val (.ref b)]) rfl k) ?_
  show own_Gl p.tables e below F (T2.setTop (mkF m 12 #[.val (.ref a), .val (.ref b), .val (.ref b)] []))
  refine own_go (fun _ k => XS.aloadN X2.here hx rfl (hb hby d5_12) rfl rfl k) ?_
  show own_Gl p.tables e below F (T2.setTop (mkF m 13 #[.val (.ref a), .val (.ref b), .val (.ref b)] [(.ref a)]))
  obtain ⟨T3, X3, e3, st3⟩ := getF X2 hx hZ hown (host := "") (Or.inl (hw _ (List.mem_of_getElem? (i := 16) rfl))) Via.refl e2 Ff1 (g := (mkF m 13 #[.val (.ref a), .val (.ref b), .val (.ref b)] [(.ref a)])) rfl rfl (hb hby d5_13)
  refine own_go st3 ?_
  show own_Gl p.tables e below F (T3.setTop (mkF m 16 #[.val (.ref a), .val (.ref b), .val (.ref b)] [(.long f1)]))
  refine own_go (fun _ k => XS.aloadN X3.here hx rfl (hb hby d5_16) rfl rfl k) ?_
  show own_Gl p.tables e below F (T3.setTop (mkF m 17 #[.val (.ref a), .val (.ref b), .val (.ref b)] [(.ref b), (.long f1)]))
  obtain ⟨T4, X4, e4, st4⟩ := getF X3 hx hZ hown (host := "") (Or.inl (hw _ (List.mem_of_getElem? (i := 16) rfl))) Via.refl e3 Ff2 (g := (mkF m 17 #[.val (.ref a), .val (.ref b), .val (.ref b)] [(.ref b), (.long f1)])) rfl rfl (hb hby d5_17)
  refine own_go st4 ?_
  show own_Gl p.tables e below F (T4.setTop (mkF m 20 #[.val (.ref a), .val (.ref b), .val (.ref b)] [(.long f2), (.long f1)]))
  refine own_go (fun _ k => XS.lcmp X4.here hx rfl (hb hby d5_20) rfl k) ?_
  show own_Gl p.tables e below F (T4.setTop (mkF m 21 #[.val (.ref a), .val (.ref b), .val (.ref b)] [(.int (XT.cmpL f1 f2))]))
  by_cases h1 : f1 = f2
  · refine own_go (fun _ k => XS.ifNo X4.here hx rfl (hb hby d5_21) rfl (XT.ll_ne_f (by assumption)) k) ?_
    show own_Gl p.tables e below F (T4.setTop (mkF m 24 #[.val (.ref a), .val (.ref b), .val (.ref b)] []))
    refine own_go (fun _ k => XS.aloadN X4.here hx rfl (hb hby d5_24) rfl rfl k) ?_
    show own_Gl p.tables e below F (T4.setTop (mkF m 25 #[.val (.ref a), .val (.ref b), .val (.ref b)] [(.ref a)]))
    obtain ⟨T5, X5, e5, st5⟩ := getF X4 hx hZ hown (host := "") (Or.inl (hw _ (List.mem_of_getElem? (i := 18) rfl))) Via.refl e4 Fl1 (g := (mkF m 25 #[.val (.ref a), .val (.ref b), .val (.ref b)] [(.ref a)])) rfl rfl (hb hby d5_25)
    refine own_go st5 ?_
    show own_Gl p.tables e below F (T5.setTop (mkF m 28 #[.val (.ref a), .val (.ref b), .val (.ref b)] [(.long l1)]))
    refine own_go (fun _ k => XS.aloadN X5.here hx rfl (hb hby d5_28) rfl rfl k) ?_
    show own_Gl p.tables e below F (T5.setTop (mkF m 29 #[.val (.ref a), .val (.ref b), .val (.ref b)] [(.ref b), (.long l1)]))
    obtain ⟨T6, X6, e6, st6⟩ := getF X5 hx hZ hown (host := "") (Or.inl (hw _ (List.mem_of_getElem? (i := 18) rfl))) Via.refl e5 Fl2 (g := (mkF m 29 #[.val (.ref a), .val (.ref b), .val (.ref b)] [(.ref b), (.long l1)])) rfl rfl (hb hby d5_29)
    refine own_go st6 ?_
    show own_Gl p.tables e below F (T6.setTop (mkF m 32 #[.val (.ref a), .val (.ref b), .val (.ref b)] [(.long l2), (.long l1)]))
    refine own_go (fun _ k => XS.lcmp X6.here hx rfl (hb hby d5_32) rfl k) ?_
    show own_Gl p.tables e below F (T6.setTop (mkF m 33 #[.val (.ref a), .val (.ref b), .val (.ref b)] [(.int (XT.cmpL l1 l2))]))
    by_cases h2 : l1 = l2
    · refine own_go (fun _ k => XS.ifNo X6.here hx rfl (hb hby d5_33) rfl (XT.ll_ne_f (by assumption)) k) ?_
      show own_Gl p.tables e below F (T6.setTop (mkF m 36 #[.val (.ref a), .val (.ref b), .val (.ref b)] []))
      refine own_go (fun _ k => XS.aloadN X6.here hx rfl (hb hby d5_36) rfl rfl k) ?_
      show own_Gl p.tables e below F (T6.setTop (mkF m 37 #[.val (.ref a), .val (.ref b), .val (.ref b)] [(.ref a)]))
      obtain ⟨T7, X7, e7, st7⟩ := getF X6 hx hZ hown (host := "") (Or.inl (hw _ (List.mem_of_getElem? (i := 20) rfl))) Via.refl e6 Fo1 (g := (mkF m 37 #[.val (.ref a), .val (.ref b), .val (.ref b)] [(.ref a)])) rfl rfl (hb hby d5_37)
      refine own_go st7 ?_
      show own_Gl p.tables e below F (T7.setTop (mkF m 40 #[.val (.ref a), .val (.ref b), .val (.ref b)] [(.int o1)]))
      refine own_go (fun _ k => XS.aloadN X7.here hx rfl (hb hby d5_40) rfl rfl k) ?_
      show own_Gl p.tables e below F (T7.setTop (mkF m 41 #[.val (.ref a), .val (.ref b), .val (.ref b)] [(.ref b), (.int o1)]))
      obtain ⟨T8, X8, e8, st8⟩ := getF X7 hx hZ hown (host := "") (Or.inl (hw _ (List.mem_of_getElem? (i := 20) rfl))) Via.refl e7 Fo2 (g := (mkF m 41 #[.val (.ref a), .val (.ref b), .val (.ref b)] [(.ref b), (.int o1)])) rfl rfl (hb hby d5_41)
      refine own_go st8 ?_
      show own_Gl p.tables e below F (T8.setTop (mkF m 44 #[.val (.ref a), .val (.ref b), .val (.ref b)] [(.int o2), (.int o1)]))
      by_cases h3 : o1 = o2
      · refine own_go (fun _ k => XS.icmpNo X8.here hx rfl (hb hby d5_44) rfl (XT.ii_ne_f (by assumption)) k) ?_
        show own_Gl p.tables e below F (T8.setTop (mkF m 47 #[.val (.ref a), .val (.ref b), .val (.ref b)] []))
        refine own_go (fun _ k => XS.iconst X8.here hx rfl (hb hby d5_47) k) ?_
        show own_Gl p.tables e below F (T8.setTop (mkF m 48 #[.val (.ref a), .val (.ref b), .val (.ref b)] [(.int (1 : Int32))]))
        refine own_go (fun _ k => XS.goto X8.here hx rfl (pc0 := 48) (pc' := 52) rfl (hb hby d5_48) (by decide) (by decide) k) ?_
        show own_Gl p.tables e below F (T8.setTop (mkF m 52 #[.val (.ref a), .val (.ref b), .val (.ref b)] [(.int (1 : Int32))]))
        obtain ⟨fs, hr, hrun, hended, hW, hsame⟩ := X8.leave (v := some (.int (1 : Int32))) (fun h => by rw [Bd.returns] at h; cases h)
        subst hF
        refine own_fin ?_ ⟨hrun, hended, _, _, rfl, ?_, ⟨_, rfl⟩, hW, hsame.mono (by first | decide | exact Nat.le_of_ble_eq_true rfl) (by first | decide | exact Nat.le_of_ble_eq_true rfl)⟩
        · exact own_retN X8 hx (t := .boolean) Bd.returns (by simp) rfl (hb hby d5_52) hr
        · show Q_rm5 Z a b f1 l1 o1 f2 l2 o2 h0 n0 _ T8.heap _
          rw [e8]
          exact ⟨by rw [own_eq, if_pos h1, if_pos h2, if_pos h3], N0, rfl⟩
      · refine own_go (fun _ k => XS.icmpYes X8.here hx rfl (pc0 := 44) (pc' := 51) rfl (hb hby d5_44) rfl (XT.ii_ne_t (by assumption)) (by decide) (by decide) k) ?_
        show own_Gl p.tables e below F (T8.setTop (mkF m 51 #[.val (.ref a), .val (.ref b), .val (.ref b)] []))
        refine own_go (fun _ k => XS.iconst X8.here hx rfl (hb hby d5_51) k) ?_
        show own_Gl p.tables e below F (T8.setTop (mkF m 52 #[.val (.ref a), .val (.ref b), .val (.ref b)] [(.int (0 : Int32))]))
        obtain ⟨fs, hr, hrun, hended, hW, hsame⟩ := X8.leave (v := some (.int (0 : Int32))) (fun h => by rw [Bd.returns] at h; cases h)
        subst hF
        refine own_fin ?_ ⟨hrun, hended, _, _, rfl, ?_, ⟨_, rfl⟩, hW, hsame.mono (by first | decide | exact Nat.le_of_ble_eq_true rfl) (by first | decide | exact Nat.le_of_ble_eq_true rfl)⟩
        · exact own_retN X8 hx (t := .boolean) Bd.returns (by simp) rfl (hb hby d5_52) hr
        · show Q_rm5 Z a b f1 l1 o1 f2 l2 o2 h0 n0 _ T8.heap _
          rw [e8]
          exact ⟨by rw [own_eq, if_pos h1, if_pos h2, if_neg h3], N0, rfl⟩
    · refine own_go (fun _ k => XS.ifYes X6.here hx rfl (pc0 := 33) (pc' := 51) rfl (hb hby d5_33) rfl (XT.ll_ne_t (by assumption)) (by decide) (by decide) k) ?_
      show own_Gl p.tables e below F (T6.setTop (mkF m 51 #[.val (.ref a), .val (.ref b), .val (.ref b)] []))
      refine own_go (fun _ k => XS.iconst X6.here hx rfl (hb hby d5_51) k) ?_
      show own_Gl p.tables e below F (T6.setTop (mkF m 52 #[.val (.ref a), .val (.ref b), .val (.ref b)] [(.int (0 : Int32))]))
      obtain ⟨fs, hr, hrun, hended, hW, hsame⟩ := X6.leave (v := some (.int (0 : Int32))) (fun h => by rw [Bd.returns] at h; cases h)
      subst hF
      refine own_fin ?_ ⟨hrun, hended, _, _, rfl, ?_, ⟨_, rfl⟩, hW, hsame.mono (by first | decide | exact Nat.le_of_ble_eq_true rfl) (by first | decide | exact Nat.le_of_ble_eq_true rfl)⟩
      · exact own_retN X6 hx (t := .boolean) Bd.returns (by simp) rfl (hb hby d5_52) hr
      · show Q_rm5 Z a b f1 l1 o1 f2 l2 o2 h0 n0 _ T6.heap _
        rw [e6]
        exact ⟨by rw [own_eq, if_pos h1, if_neg h2], N0, rfl⟩
  · refine own_go (fun _ k => XS.ifYes X4.here hx rfl (pc0 := 21) (pc' := 51) rfl (hb hby d5_21) rfl (XT.ll_ne_t (by assumption)) (by decide) (by decide) k) ?_
    show own_Gl p.tables e below F (T4.setTop (mkF m 51 #[.val (.ref a), .val (.ref b), .val (.ref b)] []))
    refine own_go (fun _ k => XS.iconst X4.here hx rfl (hb hby d5_51) k) ?_
    show own_Gl p.tables e below F (T4.setTop (mkF m 52 #[.val (.ref a), .val (.ref b), .val (.ref b)] [(.int (0 : Int32))]))
    obtain ⟨fs, hr, hrun, hended, hW, hsame⟩ := X4.leave (v := some (.int (0 : Int32))) (fun h => by rw [Bd.returns] at h; cases h)
    subst hF
    refine own_fin ?_ ⟨hrun, hended, _, _, rfl, ?_, ⟨_, rfl⟩, hW, hsame.mono (by first | decide | exact Nat.le_of_ble_eq_true rfl) (by first | decide | exact Nat.le_of_ble_eq_true rfl)⟩
    · exact own_retN X4 hx (t := .boolean) Bd.returns (by simp) rfl (hb hby d5_52) hr
    · show Q_rm5 Z a b f1 l1 o1 f2 l2 o2 h0 n0 _ T4.heap _
      rw [e4]
      exact ⟨by rw [own_eq, if_neg h1], N0, rfl⟩
theorem ef_rm8 (m : MethodId) (x0 : Addr) : entryFrame m #[(.ref x0)] 1 = mkF m 0 #[.val (.ref x0)] [] := by first | (simp [entryFrame, mkF, argsToLocals, Value.category]; done) | rfl
theorem pn_1 : plainName "java/lang/Number" = true := by first | (simp [plainName, overriddenIn]; done) | decide +kernel
theorem d8_0 : decode jdk_18_method_1_code 0 = .ok (.aload_n 0, 1) := by decide +kernel
theorem d8_1 : decode jdk_18_method_1_code 1 = .ok (.invokespecial 1, 3) := by decide +kernel
theorem d8_4 : decode jdk_18_method_1_code 4 = .ok (.return_, 1) := by decide +kernel
def Q_rm8 (Z : State) (a : Addr) (h0 : Heap) (n0 : Nat) (v : Option Value) (h : Heap) (L : List Loc) : Prop := v = none ∧ Fr n0 L ∧ h = h0
set_option maxRecDepth 65536 in
set_option maxHeartbeats 40000000 in
theorem rm8 (l : Launch) (Z : State) (a0 : Array Value) (hw : ∀ d ∈ tables_1, d.before a0 Z = true) (ws : List Jvm.Cond) (a : Addr) (h0 : Heap) (n0 : Nat) (Z0 : n0 ≤ h0.size) :
    MetFree l (⟨"java/lang/Number", "<init>", "()V"⟩ : MethodName) (head1 (Jvm.Cond.code (⟨"java/lang/Number", "<init>", "()V"⟩ : MethodName) jdk_18_method_1_code 1 none :: ws) ({ frames := 1, cells := 0, slots := 0, locals := 12 } : Room)) (fun ag U => ag = #[(.ref a)] ∧ Z.Warmed39 U.vm ∧ U.heap = h0) (fun _ _ _ _ _ => True) (fun _ U o U' => ∃ v L, o = .returned v ∧ Q_rm8 Z a h0 n0 v U'.heap L ∧ FrameEnd U o U' L ({ frames := 1, cells := 0, slots := 0, locals := 12 } : Room).cells ({ frames := 1, cells := 0, slots := 0, locals := 12 } : Room).slots) := by
  refine MetFree.of_bodySF (plainFor_of_name pn_1) hisR ?_
  intro p e s m args below meth c s₁ Bd hml0 hP hK
  obtain ⟨rfl, hZ, hh⟩ := hP
  have hx := Bd.exec
  have hby := Bd.bytes
  have hml : c.maxLocals = 1 := hml0
  have hown : s.vm.findClass "java/lang/Number" = some m.cls := findClass_of_methodNamed Bd.named
  have hnm := (name_of_methodNamed Bd.named Bd.method).1
  have X0 : Stand p l e ({ frames := 1, cells := 0, slots := 0, locals := 12 } : Room) s m #[(.ref a)] below meth c s₁ [] 0 0 := Stand.of_body Bd
  have e0 : s₁.heap = h0 := by rw [← hh, Bd.state]; rfl
  have N0 := Fr.nil n0
  refine own_start (ef_rm8 m a) ?_
  intro F hF
  show own_Gl p.tables e below F (s₁.setTop (mkF m 0 #[.val (.ref a)] []))
  refine own_go (fun _ k => XS.aloadN X0.here hx rfl (hb hby d8_0) rfl rfl k) ?_
  show own_Gl p.tables e below F (s₁.setTop (mkF m 1 #[.val (.ref a)] [(.ref a)]))
  obtain ⟨T1, X1, e1, st1⟩ := initO X0 hx hZ hown (hw _ (List.mem_of_getElem? (i := 46) rfl)) (hw _ (List.mem_of_getElem? (i := 14) rfl)) (hw _ (List.mem_of_getElem? (i := 15) rfl)) e0 (g := (mkF m 1 #[.val (.ref a)] [(.ref a)])) rfl (by rw [hml]; rfl) rfl (hb hby d8_1) (by decide) (W := 0) (by show 2 * 0 + _ ≤ _; exact Nat.le_of_eq rfl) (by decide)
  refine own_go st1 ?_
  show own_Gl p.tables e below F (T1.setTop (mkF m 4 #[.val (.ref a)] []))
  obtain ⟨fs, hr, hrun, hended, hW, hsame⟩ := X1.leave (v := none) (fun _ => rfl)
  subst hF
  refine own_fin ?_ ⟨hrun, hended, _, _, rfl, ?_, ⟨_, rfl⟩, hW, hsame.mono (by first | decide | exact Nat.le_of_ble_eq_true rfl) (by first | decide | exact Nat.le_of_ble_eq_true rfl)⟩
  · exact X1.returnOut hx Bd.returns (hb hby d8_4) hr
  · show Q_rm8 Z a h0 n0 _ T1.heap _
    rw [e1]
    exact ⟨rfl, N0, rfl⟩
theorem ef_rm7 (m : MethodId) (x0 : Addr) (x1 : Int64) : entryFrame m #[(.ref x0), (.long x1)] 3 = mkF m 0 #[.val (.ref x0), .val (.long x1), .second] [] := by first | (simp [entryFrame, mkF, argsToLocals, Value.category]; done) | rfl
theorem pn_2 : plainName "java/lang/Long" = true := by first | (simp [plainName, overriddenIn]; done) | decide +kernel
theorem d7_0 : decode jdk_35_method_26_code 0 = .ok (.aload_n 0, 1) := by decide +kernel
theorem d7_1 : decode jdk_35_method_26_code 1 = .ok (.invokespecial 270, 3) := by decide +kernel
theorem pd_0 : parseMethodDescriptor "()V" = some ⟨[], none⟩ := by decide +kernel
theorem d7_4 : decode jdk_35_method_26_code 4 = .ok (.aload_n 0, 1) := by decide +kernel
theorem d7_5 : decode jdk_35_method_26_code 5 = .ok (.lload_n 1, 1) := by decide +kernel
theorem d7_6 : decode jdk_35_method_26_code 6 = .ok (.putfield 273, 3) := by decide +kernel
theorem d7_9 : decode jdk_35_method_26_code 9 = .ok (.return_, 1) := by decide +kernel
def Q_rm7 (Z : State) (a : Addr) (q1 : Int64) (h0 : Heap) (n0 : Nat) (v : Option Value) (h : Heap) (L : List Loc) : Prop := v = none ∧ Fr n0 L ∧ Keep h0 h [a] ∧ Exa Z h a "java/lang/Long" ∧ Fld Z h a "java/lang/Long" "value" "J" (.long q1)
set_option maxRecDepth 65536 in
set_option maxHeartbeats 40000000 in
theorem rm7 (l : Launch) (Z : State) (a0 : Array Value) (hw : ∀ d ∈ tables_1, d.before a0 Z = true) (ws : List Jvm.Cond) (a : Addr) (q1 : Int64) (h0 : Heap) (n0 : Nat) (Z0 : n0 ≤ h0.size) (E_a : Exa Z h0 a "java/lang/Long") (F_value : Fld Z h0 a "java/lang/Long" "value" "J" (.long 0)) (g_a : n0 ≤ a) :
    MetFree l (⟨"java/lang/Long", "<init>", "(J)V"⟩ : MethodName) (head1 (Jvm.Cond.code (⟨"java/lang/Long", "<init>", "(J)V"⟩ : MethodName) jdk_35_method_26_code 3 none :: ws) ({ frames := 2, cells := 0, slots := 0, locals := 24 } : Room)) (fun ag U => ag = #[(.ref a), (.long q1)] ∧ Z.Warmed39 U.vm ∧ U.heap = h0) (fun _ _ _ _ _ => True) (fun _ U o U' => ∃ v L, o = .returned v ∧ Q_rm7 Z a q1 h0 n0 v U'.heap L ∧ FrameEnd U o U' L ({ frames := 2, cells := 0, slots := 0, locals := 24 } : Room).cells ({ frames := 2, cells := 0, slots := 0, locals := 24 } : Room).slots) := by
  refine MetFree.of_bodySF (plainFor_of_name pn_2) hisR ?_
  intro p e s m args below meth c s₁ Bd hml0 hP hK
  obtain ⟨rfl, hZ, hh⟩ := hP
  have hx := Bd.exec
  have hby := Bd.bytes
  have hml : c.maxLocals = 3 := hml0
  have hown : s.vm.findClass "java/lang/Long" = some m.cls := findClass_of_methodNamed Bd.named
  have hnm := (name_of_methodNamed Bd.named Bd.method).1
  have X0 : Stand p l e ({ frames := 2, cells := 0, slots := 0, locals := 24 } : Room) s m #[(.ref a), (.long q1)] below meth c s₁ [] 0 0 := Stand.of_body Bd
  have e0 : s₁.heap = h0 := by rw [← hh, Bd.state]; rfl
  have N0 := Fr.nil n0
  refine own_start (ef_rm7 m a q1) ?_
  intro F hF
  show own_Gl p.tables e below F (s₁.setTop (mkF m 0 #[.val (.ref a), .val (.long q1), .second] []))
  refine own_go (fun _ k => XS.aloadN X0.here hx rfl (hb hby d7_0) rfl rfl k) ?_
  show own_Gl p.tables e below F (s₁.setTop (mkF m 1 #[.val (.ref a), .val (.long q1), .second] [(.ref a)]))
  obtain ⟨_, _, ⟨T1, L1, k1, n1⟩, -, X1, ⟨Lc1, hQ1, l1, y1, z1⟩, st1⟩ := X0.specialBack hx (y := (⟨"java/lang/Number", "<init>", "()V"⟩ : MethodName)) rfl hown (mvT hZ (hw _ (List.mem_of_getElem? (i := 40) rfl))) (mvT hZ (hw _ (List.mem_of_getElem? (i := 41) rfl))) (mvT hZ (hw _ (List.mem_of_getElem? (i := 45) rfl))) (by decide) (backOf (W := 0) (rm8 l Z a0 hw [] a  h0 n0 Z0 ) hZ (hw _ (List.mem_of_getElem? (i := 45) rfl)) (hw _ (List.mem_of_getElem? (i := 44) rfl)) (by decide) (by decide)) (g := (mkF m 1 #[.val (.ref a), .val (.long q1), .second] [(.ref a)])) rfl (by rw [hml]; rfl) (Steps.refl _) (a := a) (argsL := []) (rest := []) (lenOf pd_0 rfl) rfl (by show 2 * 0 + _ ≤ _; exact Nat.le_of_eq rfl) (hb hby d7_1) (fun _ _ => ⟨rfl, e0, (by first | decide | exact Nat.le_of_ble_eq_true rfl), (by first | decide | exact Nat.le_of_ble_eq_true rfl)⟩)
  dsimp only [Pt.U, Pt.locs, Pt.cells, Pt.slots] at X1 l1 y1 z1 st1 hQ1
  subst l1 y1 z1
  obtain ⟨rfl, N1, e1⟩ := hQ1
  have NF1 := Fr.app N0 N1
  refine own_go (fun _ k => st1.trans k) ?_
  show own_Gl p.tables e below F (T1.setTop (mkF m 4 #[.val (.ref a), .val (.long q1), .second] []))
  refine own_go (fun _ k => XS.aloadN X1.here hx rfl (hb hby d7_4) rfl rfl k) ?_
  show own_Gl p.tables e below F (T1.setTop (mkF m 5 #[.val (.ref a), .val (.long q1), .second] [(.ref a)]))
  refine own_go (fun _ k => XS.lloadN X1.here hx rfl (hb hby d7_5) rfl k) ?_
  show own_Gl p.tables e below F (T1.setTop (mkF m 6 #[.val (.ref a), .val (.long q1), .second] [(.long q1), (.ref a)]))
  obtain ⟨T2, h2, X2, e2, W2, st2⟩ := putF X1 hx hZ hown (host := "") (Or.inl (hw _ (List.mem_of_getElem? (i := 47) rfl))) Via.refl e1 F_value E_a (Or.inr ⟨(hw _ (List.mem_of_getElem? (i := 48) rfl)), rfl, hnm⟩) (hw _ (List.mem_of_getElem? (i := 35) rfl)) (ty := .long) (by decide) rfl rfl (g := (mkF m 6 #[.val (.ref a), .val (.long q1), .second] [(.long q1), (.ref a)])) rfl rfl (hb hby d7_6)
  have Fw2 := F_value.same W2
  have f2_1 := E_a.wr W2
  have Z2 : n0 ≤ h2.size := by rw [W2.size]; exact Z0
  have K2 := Keep.wr (Keep.refl h0 [a]) W2 (Or.inl (by simp))
  have N2 := Fr.snoc X2 NF1 g_a
  refine own_go st2 ?_
  show own_Gl p.tables e below F (T2.setTop (mkF m 9 #[.val (.ref a), .val (.long q1), .second] []))
  obtain ⟨fs, hr, hrun, hended, hW, hsame⟩ := X2.leave (v := none) (fun _ => rfl)
  subst hF
  refine own_fin ?_ ⟨hrun, hended, _, _, rfl, ?_, ⟨_, rfl⟩, hW, hsame.mono (by first | decide | exact Nat.le_of_ble_eq_true rfl) (by first | decide | exact Nat.le_of_ble_eq_true rfl)⟩
  · exact X2.returnOut hx Bd.returns (hb hby d7_9) hr
  · show Q_rm7 Z a q1 h0 n0 _ T2.heap _
    rw [e2]
    exact ⟨rfl, N2, K2, f2_1, Fw2⟩
theorem ef_rm6 (m : MethodId) (x0 : Int64) : entryFrame m #[(.long x0)] 3 = mkF m 0 #[.val (.long x0), .second, .unset] [] := by first | (simp [entryFrame, mkF, argsToLocals, Value.category]; done) | rfl
theorem d6_0 : decode jdk_35_method_24_code 0 = .ok (.sipush 128, 3) := by decide +kernel
theorem d6_3 : decode jdk_35_method_24_code 3 = .ok (.istore_n 2, 1) := by decide +kernel
theorem d6_4 : decode jdk_35_method_24_code 4 = .ok (.lload_n 0, 1) := by decide +kernel
theorem d6_5 : decode jdk_35_method_24_code 5 = .ok (.ldc2_w 230, 3) := by decide +kernel
theorem d6_8 : decode jdk_35_method_24_code 8 = .ok (.lcmp, 1) := by decide +kernel
theorem d6_9 : decode jdk_35_method_24_code 9 = .ok (.ifCond .lt 22, 3) := by decide +kernel
theorem d6_31 : decode jdk_35_method_24_code 31 = .ok (.new 1, 3) := by decide +kernel
theorem d6_34 : decode jdk_35_method_24_code 34 = .ok (.dup, 1) := by decide +kernel
theorem d6_35 : decode jdk_35_method_24_code 35 = .ok (.lload_n 0, 1) := by decide +kernel
theorem d6_36 : decode jdk_35_method_24_code 36 = .ok (.invokespecial 240, 3) := by decide +kernel
theorem pd_1 : parseMethodDescriptor "(J)V" = some ⟨[.long], none⟩ := by decide +kernel
theorem d6_39 : decode jdk_35_method_24_code 39 = .ok (.areturn, 1) := by decide +kernel
theorem d6_12 : decode jdk_35_method_24_code 12 = .ok (.lload_n 0, 1) := by decide +kernel
theorem d6_13 : decode jdk_35_method_24_code 13 = .ok (.ldc2_w 232, 3) := by decide +kernel
theorem d6_16 : decode jdk_35_method_24_code 16 = .ok (.lcmp, 1) := by decide +kernel
theorem d6_17 : decode jdk_35_method_24_code 17 = .ok (.ifCond .gt 14, 3) := by decide +kernel
theorem d6_20 : decode jdk_35_method_24_code 20 = .ok (.getstatic 234, 3) := by decide +kernel
theorem d6_23 : decode jdk_35_method_24_code 23 = .ok (.lload_n 0, 1) := by decide +kernel
theorem d6_24 : decode jdk_35_method_24_code 24 = .ok (.l2i, 1) := by decide +kernel
theorem d6_25 : decode jdk_35_method_24_code 25 = .ok (.sipush 128, 3) := by decide +kernel
theorem d6_28 : decode jdk_35_method_24_code 28 = .ok (.iadd, 1) := by decide +kernel
theorem d6_29 : decode jdk_35_method_24_code 29 = .ok (.aaload, 1) := by decide +kernel
theorem d6_30 : decode jdk_35_method_24_code 30 = .ok (.areturn, 1) := by decide +kernel
def Q_rm6 (Z : State) (q1 : Int64) (ca : Addr) (cl : Cell) (h0 : Heap) (n0 : Nat) (v : Option Value) (h : Heap) (L : List Loc) : Prop := ∃ x : Addr, v = some (.ref x) ∧ Fr n0 L ∧ Keep h0 h [] ∧ Exa Z h x "java/lang/Long"
set_option maxRecDepth 65536 in
set_option maxHeartbeats 40000000 in
theorem rm6 (l : Launch) (Z : State) (a0 : Array Value) (hw : ∀ d ∈ tables_1, d.before a0 Z = true) (ws : List Jvm.Cond) (q1 : Int64) (ca : Addr) (cl : Cell) (h0 : Heap) (n0 : Nat) (Z0 : n0 ≤ h0.size) (OO : Old Z n0 h0) (S0 : Sta Z Z.heap "java/lang/Long$LongCache" "cache" "[Ljava/lang/Long;" (.ref ca)) (B0 : Bxs Z ca cl "java/lang/Long" "J" 256 (fun j => .long (j - 128).toInt64)) :
    MetFree l (⟨"java/lang/Long", "valueOf", "(J)Ljava/lang/Long;"⟩ : MethodName) (head1 (Jvm.Cond.code (⟨"java/lang/Long", "valueOf", "(J)Ljava/lang/Long;"⟩ : MethodName) jdk_35_method_24_code 3 (some (.object "java/lang/Long")) :: ws) ({ frames := 3, cells := 1, slots := 1, locals := 39 } : Room)) (fun ag U => ag = #[(.long q1)] ∧ Z.Warmed39 U.vm ∧ U.heap = h0) (fun _ _ _ _ _ => True) (fun _ U o U' => ∃ v L, o = .returned v ∧ Q_rm6 Z q1 ca cl h0 n0 v U'.heap L ∧ FrameEnd U o U' L ({ frames := 3, cells := 1, slots := 1, locals := 39 } : Room).cells ({ frames := 3, cells := 1, slots := 1, locals := 39 } : Room).slots) := by
  refine MetFree.of_bodySF (plainFor_of_name pn_2) hisR ?_
  intro p e s m args below meth c s₁ Bd hml0 hP hK
  obtain ⟨rfl, hZ, hh⟩ := hP
  have hx := Bd.exec
  have hby := Bd.bytes
  have hml : c.maxLocals = 3 := hml0
  have hown : s.vm.findClass "java/lang/Long" = some m.cls := findClass_of_methodNamed Bd.named
  have hnm := (name_of_methodNamed Bd.named Bd.method).1
  have X0 : Stand p l e ({ frames := 3, cells := 1, slots := 1, locals := 39 } : Room) s m #[(.long q1)] below meth c s₁ [] 0 0 := Stand.of_body Bd
  have e0 : s₁.heap = h0 := by rw [← hh, Bd.state]; rfl
  have N0 := Fr.nil n0
  refine own_start (ef_rm6 m q1) ?_
  intro F hF
  show own_Gl p.tables e below F (s₁.setTop (mkF m 0 #[.val (.long q1), .second, .unset] []))
  have S1 := S0.ext OO.2
  refine own_go (fun _ k => XS.sipush X0.here hx rfl (hb hby d6_0) k) ?_
  show own_Gl p.tables e below F (s₁.setTop (mkF m 3 #[.val (.long q1), .second, .unset] [(.int (128 : Int32))]))
  refine own_go (fun _ k => XS.istoreN X0.here hx rfl (hb hby d6_3) rfl (l' := #[.val (.long q1), .second, .val (.int (128 : Int32))]) rfl k) ?_
  show own_Gl p.tables e below F (s₁.setTop (mkF m 4 #[.val (.long q1), .second, .val (.int (128 : Int32))] []))
  refine own_go (fun _ k => XS.lloadN X0.here hx rfl (hb hby d6_4) rfl k) ?_
  show own_Gl p.tables e below F (s₁.setTop (mkF m 5 #[.val (.long q1), .second, .val (.int (128 : Int32))] [(.long q1)]))
  refine own_go (fun _ k => X0.ldc2J hx hown (mvT hZ (hw _ (List.mem_of_getElem? (i := 33) rfl))) rfl (hb hby d6_5) k) ?_
  show own_Gl p.tables e below F (s₁.setTop (mkF m 8 #[.val (.long q1), .second, .val (.int (128 : Int32))] [(.long (-128 : Int64)), (.long q1)]))
  refine own_go (fun _ k => XS.lcmp X0.here hx rfl (hb hby d6_8) rfl k) ?_
  show own_Gl p.tables e below F (s₁.setTop (mkF m 9 #[.val (.long q1), .second, .val (.int (128 : Int32))] [(.int (XT.cmpL q1 (-128 : Int64)))]))
  by_cases h1 : q1 < (-128 : Int64)
  · refine own_go (fun _ k => XS.ifYes X0.here hx rfl (pc0 := 9) (pc' := 31) rfl (hb hby d6_9) rfl (XT.ll_lt_t h1) (by decide) (by decide) k) ?_
    show own_Gl p.tables e below F (s₁.setTop (mkF m 31 #[.val (.long q1), .second, .val (.int (128 : Int32))] []))
    obtain ⟨T1, h1, X1, e1, E1, A1, D1, -, st1⟩ := newO X0 hx hZ hown (hw _ (List.mem_of_getElem? (i := 34) rfl)) (hw _ (List.mem_of_getElem? (i := 35) rfl)) (hw _ (List.mem_of_getElem? (i := 31) rfl)) e0 (g := (mkF m 31 #[.val (.long q1), .second, .val (.int (128 : Int32))] [])) rfl (hb hby d6_31) (by first | decide | exact Nat.le_of_ble_eq_true rfl) (by first | decide | exact Nat.le_of_ble_eq_true rfl)
    obtain ⟨b1, g1⟩ : ∃ z, z = h0.size := ⟨_, rfl⟩
    rw [← g1] at A1 D1 st1
    have ge_b1 : n0 ≤ b1 := Nat.le_trans Z0 (Nat.le_of_eq g1.symm)
    have sz_b1 : h0.size ≤ b1 := Nat.le_trans ((Keep.refl h0 [])).1 (Nat.le_of_eq g1.symm)
    have f1_0 := S1.ext E1
    have Z1 : n0 ≤ h1.size := Nat.le_trans Z0 E1.1
    have K1 := Keep.ext (Keep.refl h0 []) E1
    have F1_value : Fld Z h1 b1 "java/lang/Long" "value" "J" (.long (0 : Int64)) := D1 (Or.inr (hw _ (List.mem_of_getElem? (i := 48) rfl))) (ty := .long) (by decide)
    refine own_go st1 ?_
    show own_Gl p.tables e below F (T1.setTop (mkF m 34 #[.val (.long q1), .second, .val (.int (128 : Int32))] [(.ref b1)]))
    refine own_go (fun _ k => XS.dup X1.here hx rfl (hb hby d6_34) rfl rfl k) ?_
    show own_Gl p.tables e below F (T1.setTop (mkF m 35 #[.val (.long q1), .second, .val (.int (128 : Int32))] [(.ref b1), (.ref b1)]))
    refine own_go (fun _ k => XS.lloadN X1.here hx rfl (hb hby d6_35) rfl k) ?_
    show own_Gl p.tables e below F (T1.setTop (mkF m 36 #[.val (.long q1), .second, .val (.int (128 : Int32))] [(.long q1), (.ref b1), (.ref b1)]))
    obtain ⟨_, _, ⟨T2, L2, k2, n2⟩, -, X2, ⟨Lc2, hQ2, l2, y2, z2⟩, st2⟩ := X1.specialBack hx (y := (⟨"java/lang/Long", "<init>", "(J)V"⟩ : MethodName)) rfl hown (mvT hZ (hw _ (List.mem_of_getElem? (i := 36) rfl))) (mvT hZ (hw _ (List.mem_of_getElem? (i := 37) rfl))) (mvT hZ (hw _ (List.mem_of_getElem? (i := 39) rfl))) (by decide) (backOf (W := 1) (rm7 l Z a0 hw [] b1 q1  h1 n0 Z1 A1 F1_value ge_b1 ) hZ (hw _ (List.mem_of_getElem? (i := 39) rfl)) (hw _ (List.mem_of_getElem? (i := 31) rfl)) (by decide) (by decide)) (g := (mkF m 36 #[.val (.long q1), .second, .val (.int (128 : Int32))] [(.long q1), (.ref b1), (.ref b1)])) rfl (by rw [hml]; rfl) (Steps.refl _) (a := b1) (argsL := [(.long q1)]) (rest := [(.ref b1)]) (lenOf pd_1 rfl) rfl (by show 2 * 0 + _ ≤ _; exact Nat.le_of_eq rfl) (hb hby d6_36) (fun _ _ => ⟨rfl, e1, (by first | decide | exact Nat.le_of_ble_eq_true rfl), (by first | decide | exact Nat.le_of_ble_eq_true rfl)⟩)
    dsimp only [Pt.U, Pt.locs, Pt.cells, Pt.slots] at X2 l2 y2 z2 st2 hQ2
    subst l2 y2 z2
    obtain ⟨rfl, N2, K2, G2_E, G2_value⟩ := hQ2
    have NF2 := Fr.app N0 N2
    have f2_2 := A1.keep K2
    have Z2 : n0 ≤ T2.heap.size := Nat.le_trans Z1 K2.1
    have KK2 := Keep.trans K1 K2 (by intro z hz; simp at hz; rcases hz with rfl; all_goals first | (left; simp; done) | (right; assumption))
    refine own_go (fun _ k => st2.trans k) ?_
    show own_Gl p.tables e below F (T2.setTop (mkF m 39 #[.val (.long q1), .second, .val (.int (128 : Int32))] [(.ref b1)]))
    obtain ⟨fs, hr, hrun, hended, hW, hsame⟩ := X2.leave (v := some (.ref b1)) (fun h => by rw [Bd.returns] at h; cases h)
    subst hF
    refine own_fin ?_ ⟨hrun, hended, _, _, rfl, ?_, ⟨_, rfl⟩, hW, hsame.mono (by first | decide | exact Nat.le_of_ble_eq_true rfl) (by first | decide | exact Nat.le_of_ble_eq_true rfl)⟩
    · exact own_retA X2 hx Bd.returns rfl rfl (hb hby d6_39) hr
    · show Q_rm6 Z q1 ca cl h0 n0 _ T2.heap _
      exact ⟨b1, rfl, NF2, KK2, G2_E⟩
  · refine own_go (fun _ k => XS.ifNo X0.here hx rfl (hb hby d6_9) rfl (XT.ll_lt_f h1) k) ?_
    show own_Gl p.tables e below F (s₁.setTop (mkF m 12 #[.val (.long q1), .second, .val (.int (128 : Int32))] []))
    refine own_go (fun _ k => XS.lloadN X0.here hx rfl (hb hby d6_12) rfl k) ?_
    show own_Gl p.tables e below F (s₁.setTop (mkF m 13 #[.val (.long q1), .second, .val (.int (128 : Int32))] [(.long q1)]))
    refine own_go (fun _ k => X0.ldc2J hx hown (mvT hZ (hw _ (List.mem_of_getElem? (i := 52) rfl))) rfl (hb hby d6_13) k) ?_
    show own_Gl p.tables e below F (s₁.setTop (mkF m 16 #[.val (.long q1), .second, .val (.int (128 : Int32))] [(.long (127 : Int64)), (.long q1)]))
    refine own_go (fun _ k => XS.lcmp X0.here hx rfl (hb hby d6_16) rfl k) ?_
    show own_Gl p.tables e below F (s₁.setTop (mkF m 17 #[.val (.long q1), .second, .val (.int (128 : Int32))] [(.int (XT.cmpL q1 (127 : Int64)))]))
    by_cases h2 : (127 : Int64) < q1
    · refine own_go (fun _ k => XS.ifYes X0.here hx rfl (pc0 := 17) (pc' := 31) rfl (hb hby d6_17) rfl (XT.ll_gt_t h2) (by decide) (by decide) k) ?_
      show own_Gl p.tables e below F (s₁.setTop (mkF m 31 #[.val (.long q1), .second, .val (.int (128 : Int32))] []))
      obtain ⟨T3, h3, X3, e3, E3, A3, D3, -, st3⟩ := newO X0 hx hZ hown (hw _ (List.mem_of_getElem? (i := 34) rfl)) (hw _ (List.mem_of_getElem? (i := 35) rfl)) (hw _ (List.mem_of_getElem? (i := 31) rfl)) e0 (g := (mkF m 31 #[.val (.long q1), .second, .val (.int (128 : Int32))] [])) rfl (hb hby d6_31) (by first | decide | exact Nat.le_of_ble_eq_true rfl) (by first | decide | exact Nat.le_of_ble_eq_true rfl)
      obtain ⟨b3, g3⟩ : ∃ z, z = h0.size := ⟨_, rfl⟩
      rw [← g3] at A3 D3 st3
      have ge_b3 : n0 ≤ b3 := Nat.le_trans Z0 (Nat.le_of_eq g3.symm)
      have sz_b3 : h0.size ≤ b3 := Nat.le_trans ((Keep.refl h0 [])).1 (Nat.le_of_eq g3.symm)
      have f3_0 := S1.ext E3
      have Z3 : n0 ≤ h3.size := Nat.le_trans Z0 E3.1
      have K3 := Keep.ext (Keep.refl h0 []) E3
      have F3_value : Fld Z h3 b3 "java/lang/Long" "value" "J" (.long (0 : Int64)) := D3 (Or.inr (hw _ (List.mem_of_getElem? (i := 48) rfl))) (ty := .long) (by decide)
      refine own_go st3 ?_
      show own_Gl p.tables e below F (T3.setTop (mkF m 34 #[.val (.long q1), .second, .val (.int (128 : Int32))] [(.ref b3)]))
      refine own_go (fun _ k => XS.dup X3.here hx rfl (hb hby d6_34) rfl rfl k) ?_
      show own_Gl p.tables e below F (T3.setTop (mkF m 35 #[.val (.long q1), .second, .val (.int (128 : Int32))] [(.ref b3), (.ref b3)]))
      refine own_go (fun _ k => XS.lloadN X3.here hx rfl (hb hby d6_35) rfl k) ?_
      show own_Gl p.tables e below F (T3.setTop (mkF m 36 #[.val (.long q1), .second, .val (.int (128 : Int32))] [(.long q1), (.ref b3), (.ref b3)]))
      obtain ⟨_, _, ⟨T4, L4, k4, n4⟩, -, X4, ⟨Lc4, hQ4, l4, y4, z4⟩, st4⟩ := X3.specialBack hx (y := (⟨"java/lang/Long", "<init>", "(J)V"⟩ : MethodName)) rfl hown (mvT hZ (hw _ (List.mem_of_getElem? (i := 36) rfl))) (mvT hZ (hw _ (List.mem_of_getElem? (i := 37) rfl))) (mvT hZ (hw _ (List.mem_of_getElem? (i := 39) rfl))) (by decide) (backOf (W := 1) (rm7 l Z a0 hw [] b3 q1  h3 n0 Z3 A3 F3_value ge_b3 ) hZ (hw _ (List.mem_of_getElem? (i := 39) rfl)) (hw _ (List.mem_of_getElem? (i := 31) rfl)) (by decide) (by decide)) (g := (mkF m 36 #[.val (.long q1), .second, .val (.int (128 : Int32))] [(.long q1), (.ref b3), (.ref b3)])) rfl (by rw [hml]; rfl) (Steps.refl _) (a := b3) (argsL := [(.long q1)]) (rest := [(.ref b3)]) (lenOf pd_1 rfl) rfl (by show 2 * 0 + _ ≤ _; exact Nat.le_of_eq rfl) (hb hby d6_36) (fun _ _ => ⟨rfl, e3, (by first | decide | exact Nat.le_of_ble_eq_true rfl), (by first | decide | exact Nat.le_of_ble_eq_true rfl)⟩)
      dsimp only [Pt.U, Pt.locs, Pt.cells, Pt.slots] at X4 l4 y4 z4 st4 hQ4
      subst l4 y4 z4
      obtain ⟨rfl, N4, K4, G4_E, G4_value⟩ := hQ4
      have NF4 := Fr.app N0 N4
      have f4_2 := A3.keep K4
      have Z4 : n0 ≤ T4.heap.size := Nat.le_trans Z3 K4.1
      have KK4 := Keep.trans K3 K4 (by intro z hz; simp at hz; rcases hz with rfl; all_goals first | (left; simp; done) | (right; assumption))
      refine own_go (fun _ k => st4.trans k) ?_
      show own_Gl p.tables e below F (T4.setTop (mkF m 39 #[.val (.long q1), .second, .val (.int (128 : Int32))] [(.ref b3)]))
      obtain ⟨fs, hr, hrun, hended, hW, hsame⟩ := X4.leave (v := some (.ref b3)) (fun h => by rw [Bd.returns] at h; cases h)
      subst hF
      refine own_fin ?_ ⟨hrun, hended, _, _, rfl, ?_, ⟨_, rfl⟩, hW, hsame.mono (by first | decide | exact Nat.le_of_ble_eq_true rfl) (by first | decide | exact Nat.le_of_ble_eq_true rfl)⟩
      · exact own_retA X4 hx Bd.returns rfl rfl (hb hby d6_39) hr
      · show Q_rm6 Z q1 ca cl h0 n0 _ T4.heap _
        exact ⟨b3, rfl, NF4, KK4, G4_E⟩
    · refine own_go (fun _ k => XS.ifNo X0.here hx rfl (hb hby d6_17) rfl (XT.ll_gt_f h2) k) ?_
      show own_Gl p.tables e below F (s₁.setTop (mkF m 20 #[.val (.long q1), .second, .val (.int (128 : Int32))] []))
      obtain ⟨T5, X5, e5, st5⟩ := getS2 X0 hx hZ hown (host := "") (Or.inl (hw _ (List.mem_of_getElem? (i := 53) rfl))) Via.refl e0 S1 (g := (mkF m 20 #[.val (.long q1), .second, .val (.int (128 : Int32))] [])) rfl (hb hby d6_20)
      refine own_go st5 ?_
      show own_Gl p.tables e below F (T5.setTop (mkF m 23 #[.val (.long q1), .second, .val (.int (128 : Int32))] [(.ref ca)]))
      refine own_go (fun _ k => XS.lloadN X5.here hx rfl (hb hby d6_23) rfl k) ?_
      show own_Gl p.tables e below F (T5.setTop (mkF m 24 #[.val (.long q1), .second, .val (.int (128 : Int32))] [(.long q1), (.ref ca)]))
      refine own_go (fun _ k => XS.l2i X5.here hx rfl (hb hby d6_24) rfl k) ?_
      show own_Gl p.tables e below F (T5.setTop (mkF m 25 #[.val (.long q1), .second, .val (.int (128 : Int32))] [(.int (q1.toInt32)), (.ref ca)]))
      refine own_go (fun _ k => XS.sipush X5.here hx rfl (hb hby d6_25) k) ?_
      show own_Gl p.tables e below F (T5.setTop (mkF m 28 #[.val (.long q1), .second, .val (.int (128 : Int32))] [(.int (128 : Int32)), (.int (q1.toInt32)), (.ref ca)]))
      refine own_go (fun _ k => XS.iadd X5.here hx rfl (hb hby d6_28) rfl k) ?_
      show own_Gl p.tables e below F (T5.setTop (mkF m 29 #[.val (.long q1), .second, .val (.int (128 : Int32))] [(.int ((q1.toInt32) + (128 : Int32))), (.ref ca)]))
      obtain ⟨bx, hat, EX, -⟩ := B0.2.2.2 (q1.toInt32 + (128 : Int32)) (own_idx h1 h2 B0.2.1)
      have AA := (B0.ext OO.2).1
      refine own_go (fun _ k => X5.aaload hx (j := q1.toInt32 + (128 : Int32)) (v := .ref bx) (by rw [e5]; exact AA.1) (State.isArrayOf_alike hZ.alike AA.2.1) rfl AA.2.2 (own_idx h1 h2 B0.2.1) hat (g := (mkF m 29 #[.val (.long q1), .second, .val (.int (128 : Int32))] [(.int ((q1.toInt32) + (128 : Int32))), (.ref ca)])) rfl rfl (hb hby d6_29) _ k) ?_
      show own_Gl p.tables e below F (T5.setTop (mkF m 30 #[.val (.long q1), .second, .val (.int (128 : Int32))] [(.ref bx)]))
      obtain ⟨fs, hr, hrun, hended, hW, hsame⟩ := X5.leave (v := some (.ref bx)) (fun h => by rw [Bd.returns] at h; cases h)
      subst hF
      refine own_fin ?_ ⟨hrun, hended, _, _, rfl, ?_, ⟨_, rfl⟩, hW, hsame.mono (by first | decide | exact Nat.le_of_ble_eq_true rfl) (by first | decide | exact Nat.le_of_ble_eq_true rfl)⟩
      · exact own_retA X5 hx Bd.returns rfl rfl (hb hby d6_30) hr
      · show Q_rm6 Z q1 ca cl h0 n0 _ T5.heap _
        rw [e5]
        exact ⟨bx, rfl, N0, Keep.refl _ _, EX.ext OO.2⟩
theorem ef_rm0 (m : MethodId) (x0 : Int64) (x1 : Int64) (x2 : Int64) (x3 : Int64) (x4 : Int32) : entryFrame m #[(.long x0), (.long x1), (.long x2), (.long x3), (.int x4)] maxLocals = mkF m 0 #[.val (.long x0), .second, .val (.long x1), .second, .val (.long x2), .second, .val (.long x3), .second, .val (.int x4), .unset, .unset, .unset, .unset, .unset, .unset, .unset, .unset, .unset, .unset, .unset, .unset, .unset, .unset, .unset, .unset] [] := by first | (simp [entryFrame, mkF, argsToLocals, Value.category, maxLocals]; done) | rfl
theorem pn_3 : plainName "com/example/quorumhelm/quorumhelm/io/JournalSegmentEqualsPinLaw" = true := by first | (simp [plainName, overriddenIn]; done) | decide +kernel
theorem pd_2 : parseMethodDescriptor "(JJ)J" = some ⟨[.long, .long], some .long⟩ := by decide +kernel
theorem pd_3 : parseMethodDescriptor "(JJZ)V" = some ⟨[.long, .long, .boolean], none⟩ := by decide +kernel
theorem pd_4 : parseMethodDescriptor "(Ljava/lang/Object;)Z" = some ⟨[(.object "java/lang/Object")], some .boolean⟩ := by decide +kernel
theorem pd_5 : parseMethodDescriptor "(J)Ljava/lang/Long;" = some ⟨[.long], some (.object "java/lang/Long")⟩ := by decide +kernel
def Q_rm0 (Z : State) (q1 q2 q3 q4 : Int64) (p5 : Int32) (ca : Addr) (cl : Cell) (h0 : Heap) (n0 : Nat) (v : Option Value) (h : Heap) (L : List Loc) : Prop := v = some (.int 1) ∧ Fr n0 L
set_option maxRecDepth 65536 in
set_option maxHeartbeats 40000000 in
theorem rm0 (l : Launch) (Z : State) (a0 : Array Value) (hw : ∀ d ∈ tables_1, d.before a0 Z = true) (ws : List Jvm.Cond) (q1 q2 q3 q4 : Int64) (p5 : Int32) (ca : Addr) (cl : Cell) (h0 : Heap) (n0 : Nat) (Z0 : n0 ≤ h0.size) (OO : Old Z n0 h0) (S0 : Sta Z Z.heap "java/lang/Long$LongCache" "cache" "[Ljava/lang/Long;" (.ref ca)) (B0 : Bxs Z ca cl "java/lang/Long" "J" 256 (fun j => .long (j - 128).toInt64)) :
    MetFree l x (head1 (Jvm.Cond.code x code maxLocals ret :: ws) room_1) (fun ag U => ag = #[(.long q1), (.long q2), (.long q3), (.long q4), (.int p5)] ∧ Z.Warmed39 U.vm ∧ U.heap = h0) (fun _ _ _ _ _ => True) (fun _ U o U' => ∃ v L, o = .returned v ∧ Q_rm0 Z q1 q2 q3 q4 p5 ca cl h0 n0 v U'.heap L ∧ FrameEnd U o U' L room_1.cells room_1.slots) := by
  refine MetFree.of_bodySF (plainFor_of_name pn_3) hisR ?_
  intro p e s m args below meth c s₁ Bd hml0 hP hK
  obtain ⟨rfl, hZ, hh⟩ := hP
  have hx := Bd.exec
  have hby := Bd.bytes
  have hml : c.maxLocals = 25 := hml0
  have hown : s.vm.findClass "com/example/quorumhelm/quorumhelm/io/JournalSegmentEqualsPinLaw" = some m.cls := findClass_of_methodNamed Bd.named
  have hnm := (name_of_methodNamed Bd.named Bd.method).1
  have X0 : Stand p l e room_1 s m #[(.long q1), (.long q2), (.long q3), (.long q4), (.int p5)] below meth c s₁ [] 0 0 := Stand.of_body Bd
  have e0 : s₁.heap = h0 := by rw [← hh, Bd.state]; rfl
  have N0 := Fr.nil n0
  refine own_start (ef_rm0 m q1 q2 q3 q4 p5) ?_
  intro F hF
  show own_Gl p.tables e below F (s₁.setTop (mkF m 0 #[.val (.long q1), .second, .val (.long q2), .second, .val (.long q3), .second, .val (.long q4), .second, .val (.int p5), .unset, .unset, .unset, .unset, .unset, .unset, .unset, .unset, .unset, .unset, .unset, .unset, .unset, .unset, .unset, .unset] []))
  refine own_go (fun _ k => XS.lloadN X0.here hx rfl (hb hby at_0) rfl k) ?_
  show own_Gl p.tables e below F (s₁.setTop (mkF m 1 #[.val (.long q1), .second, .val (.long q2), .second, .val (.long q3), .second, .val (.long q4), .second, .val (.int p5), .unset, .unset, .unset, .unset, .unset, .unset, .unset, .unset, .unset, .unset, .unset, .unset, .unset, .unset, .unset, .unset] [(.long q1)]))
  refine own_go (fun _ k => XS.lloadN X0.here hx rfl (hb hby at_1) rfl k) ?_
  show own_Gl p.tables e below F (s₁.setTop (mkF m 2 #[.val (.long q1), .second, .val (.long q2), .second, .val (.long q3), .second, .val (.long q4), .second, .val (.int p5), .unset, .unset, .unset, .unset, .unset, .unset, .unset, .unset, .unset, .unset, .unset, .unset, .unset, .unset, .unset, .unset] [(.long q2), (.long q1)]))
  obtain ⟨_, _, ⟨T1, L1, k1, n1⟩, -, X1, ⟨Lc1, hQ1, l1, y1, z1⟩, st1⟩ := Jvm.LawKit.callS X0 hx (y := (⟨"java/lang/Math", "min", "(JJ)J"⟩ : MethodName)) hown (mvT hZ (hw _ (List.mem_of_getElem? (i := 0) rfl))) (mvT hZ (hw _ (List.mem_of_getElem? (i := 1) rfl))) (mvT hZ (hw _ (List.mem_of_getElem? (i := 2) rfl))) (mvT hZ (hw _ (List.mem_of_getElem? (i := 3) rfl))) (by decide) (backOf (W := 0) (rm1 l Z a0 hw [] q1 q2  h0 n0 Z0 ) hZ (hw _ (List.mem_of_getElem? (i := 3) rfl)) (hw _ (List.mem_of_getElem? (i := 2) rfl)) (by decide) (by decide)) (g := (mkF m 2 #[.val (.long q1), .second, .val (.long q2), .second, .val (.long q3), .second, .val (.long q4), .second, .val (.int p5), .unset, .unset, .unset, .unset, .unset, .unset, .unset, .unset, .unset, .unset, .unset, .unset, .unset, .unset, .unset, .unset] [(.long q2), (.long q1)])) rfl (by rw [hml]; rfl) (argsL := [(.long q1), (.long q2)]) (rest := []) (lenOf pd_2 rfl) rfl (by show 2 * 0 + _ ≤ _; exact Nat.le_of_eq rfl) (hb hby at_2) (fun _ _ => ⟨rfl, e0, (by first | decide | exact Nat.le_of_ble_eq_true rfl), (by first | decide | exact Nat.le_of_ble_eq_true rfl)⟩)
  dsimp only [Pt.U, Pt.locs, Pt.cells, Pt.slots] at X1 l1 y1 z1 st1 hQ1
  subst l1 y1 z1
  obtain ⟨rfl, N1, e1⟩ := hQ1
  have NF1 := Fr.app N0 N1
  refine own_go st1 ?_
  show own_Gl p.tables e below F (T1.setTop (mkF m 5 #[.val (.long q1), .second, .val (.long q2), .second, .val (.long q3), .second, .val (.long q4), .second, .val (.int p5), .unset, .unset, .unset, .unset, .unset, .unset, .unset, .unset, .unset, .unset, .unset, .unset, .unset, .unset, .unset, .unset] [(.long (own_min q1 q2))]))
  generalize (own_min q1 q2) = f1
  show own_Gl p.tables e below F (T1.setTop (mkF m 5 #[.val (.long q1), .second, .val (.long q2), .second, .val (.long q3), .second, .val (.long q4), .second, .val (.int p5), .unset, .unset, .unset, .unset, .unset, .unset, .unset, .unset, .unset, .unset, .unset, .unset, .unset, .unset, .unset, .unset] [(.long f1)]))
  refine own_go (fun _ k => XS.lstore X1.here hx rfl (hb hby at_5) rfl (l' := #[.val (.long q1), .second, .val (.long q2), .second, .val (.long q3), .second, .val (.long q4), .second, .val (.int p5), .val (.long f1), .second, .unset, .unset, .unset, .unset, .unset, .unset, .unset, .unset, .unset, .unset, .unset, .unset, .unset, .unset]) rfl k) ?_
  show own_Gl p.tables e below F (T1.setTop (mkF m 7 #[.val (.long q1), .second, .val (.long q2), .second, .val (.long q3), .second, .val (.long q4), .second, .val (.int p5), .val (.long f1), .second, .unset, .unset, .unset, .unset, .unset, .unset, .unset, .unset, .unset, .unset, .unset, .unset, .unset, .unset] []))
  refine own_go (fun _ k => XS.lloadN X1.here hx rfl (hb hby at_7) rfl k) ?_
  show own_Gl p.tables e below F (T1.setTop (mkF m 8 #[.val (.long q1), .second, .val (.long q2), .second, .val (.long q3), .second, .val (.long q4), .second, .val (.int p5), .val (.long f1), .second, .unset, .unset, .unset, .unset, .unset, .unset, .unset, .unset, .unset, .unset, .unset, .unset, .unset, .unset] [(.long q1)]))
  refine own_go (fun _ k => XS.lloadN X1.here hx rfl (hb hby at_8) rfl k) ?_
  show own_Gl p.tables e below F (T1.setTop (mkF m 9 #[.val (.long q1), .second, .val (.long q2), .second, .val (.long q3), .second, .val (.long q4), .second, .val (.int p5), .val (.long f1), .second, .unset, .unset, .unset, .unset, .unset, .unset, .unset, .unset, .unset, .unset, .unset, .unset, .unset, .unset] [(.long q2), (.long q1)]))
  obtain ⟨_, _, ⟨T2, L2, k2, n2⟩, -, X2, ⟨Lc2, hQ2, l2, y2, z2⟩, st2⟩ := Jvm.LawKit.callS X1 hx (y := (⟨"java/lang/Math", "max", "(JJ)J"⟩ : MethodName)) hown (mvT hZ (hw _ (List.mem_of_getElem? (i := 4) rfl))) (mvT hZ (hw _ (List.mem_of_getElem? (i := 5) rfl))) (mvT hZ (hw _ (List.mem_of_getElem? (i := 2) rfl))) (mvT hZ (hw _ (List.mem_of_getElem? (i := 6) rfl))) (by decide) (backOf (W := 0) (rm2 l Z a0 hw [] q1 q2  h0 n0 Z0 ) hZ (hw _ (List.mem_of_getElem? (i := 6) rfl)) (hw _ (List.mem_of_getElem? (i := 2) rfl)) (by decide) (by decide)) (g := (mkF m 9 #[.val (.long q1), .second, .val (.long q2), .second, .val (.long q3), .second, .val (.long q4), .second, .val (.int p5), .val (.long f1), .second, .unset, .unset, .unset, .unset, .unset, .unset, .unset, .unset, .unset, .unset, .unset, .unset, .unset, .unset] [(.long q2), (.long q1)])) rfl (by rw [hml]; rfl) (argsL := [(.long q1), (.long q2)]) (rest := []) (lenOf pd_2 rfl) rfl (by show 2 * 0 + _ ≤ _; exact Nat.le_of_eq rfl) (hb hby at_9) (fun _ _ => ⟨rfl, e1, (by first | decide | exact Nat.le_of_ble_eq_true rfl), (by first | decide | exact Nat.le_of_ble_eq_true rfl)⟩)
  dsimp only [Pt.U, Pt.locs, Pt.cells, Pt.slots] at X2 l2 y2 z2 st2 hQ2
  subst l2 y2 z2
  obtain ⟨rfl, N2, e2⟩ := hQ2
  have NF2 := Fr.app NF1 N2
  refine own_go st2 ?_
  show own_Gl p.tables e below F (T2.setTop (mkF m 12 #[.val (.long q1), .second, .val (.long q2), .second, .val (.long q3), .second, .val (.long q4), .second, .val (.int p5), .val (.long f1), .second, .unset, .unset, .unset, .unset, .unset, .unset, .unset, .unset, .unset, .unset, .unset, .unset, .unset, .unset] [(.long (own_max q1 q2))]))
  generalize (own_max q1 q2) = l1
  show own_Gl p.tables e below F (T2.setTop (mkF m 12 #[.val (.long q1), .second, .val (.long q2), .second, .val (.long q3), .second, .val (.long q4), .second, .val (.int p5), .val (.long f1), .second, .unset, .unset, .unset, .unset, .unset, .unset, .unset, .unset, .unset, .unset, .unset, .unset, .unset, .unset] [(.long l1)]))
  refine own_go (fun _ k => XS.lstore X2.here hx rfl (hb hby at_12) rfl (l' := #[.val (.long q1), .second, .val (.long q2), .second, .val (.long q3), .second, .val (.long q4), .second, .val (.int p5), .val (.long f1), .second, .val (.long l1), .second, .unset, .unset, .unset, .unset, .unset, .unset, .unset, .unset, .unset, .unset, .unset, .unset]) rfl k) ?_
  show own_Gl p.tables e below F (T2.setTop (mkF m 14 #[.val (.long q1), .second, .val (.long q2), .second, .val (.long q3), .second, .val (.long q4), .second, .val (.int p5), .val (.long f1), .second, .val (.long l1), .second, .unset, .unset, .unset, .unset, .unset, .unset, .unset, .unset, .unset, .unset, .unset, .unset] []))
  refine own_go (st' := T2.setTop (mkF m 26 #[.val (.long q1), .second, .val (.long q2), .second, .val (.long q3), .second, .val (.long q4), .second, .val (.int p5), .val (.long f1), .second, .val (.long l1), .second, .unset, .unset, .unset, .unset, .unset, .unset, .unset, .unset, .unset, .unset, .unset, .unset] [(.int (if (p5 &&& (4 : Int32)) = 0 then (0 : Int32) else (1 : Int32)))])) (fun t k => ?_) ?_
  · by_cases hc : (p5 &&& (4 : Int32)) = 0
    · simp only [if_pos hc] at k
      refine XS.iload X2.here hx rfl (hb hby at_14) rfl ?_
      show Steps p.tables e below (T2.setTop (mkF m 16 #[.val (.long q1), .second, .val (.long q2), .second, .val (.long q3), .second, .val (.long q4), .second, .val (.int p5), .val (.long f1), .second, .val (.long l1), .second, .unset, .unset, .unset, .unset, .unset, .unset, .unset, .unset, .unset, .unset, .unset, .unset] [(.int p5)])) _
      refine XS.iconst X2.here hx rfl (hb hby at_16) ?_
      show Steps p.tables e below (T2.setTop (mkF m 17 #[.val (.long q1), .second, .val (.long q2), .second, .val (.long q3), .second, .val (.long q4), .second, .val (.int p5), .val (.long f1), .second, .val (.long l1), .second, .unset, .unset, .unset, .unset, .unset, .unset, .unset, .unset, .unset, .unset, .unset, .unset] [(.int (4 : Int32)), (.int p5)])) _
      refine XS.iand X2.here hx rfl (hb hby at_17) rfl ?_
      show Steps p.tables e below (T2.setTop (mkF m 18 #[.val (.long q1), .second, .val (.long q2), .second, .val (.long q3), .second, .val (.long q4), .second, .val (.int p5), .val (.long f1), .second, .val (.long l1), .second, .unset, .unset, .unset, .unset, .unset, .unset, .unset, .unset, .unset, .unset, .unset, .unset] [(.int (p5 &&& (4 : Int32)))])) _
      refine XS.ifYes X2.here hx rfl (pc0 := 18) (pc' := 25) rfl (hb hby at_18) rfl (XT.i0_eq_t hc) (by decide) (by decide) ?_
      show Steps p.tables e below (T2.setTop (mkF m 25 #[.val (.long q1), .second, .val (.long q2), .second, .val (.long q3), .second, .val (.long q4), .second, .val (.int p5), .val (.long f1), .second, .val (.long l1), .second, .unset, .unset, .unset, .unset, .unset, .unset, .unset, .unset, .unset, .unset, .unset, .unset] [])) _
      refine XS.iconst X2.here hx rfl (hb hby at_25) ?_
      show Steps p.tables e below (T2.setTop (mkF m 26 #[.val (.long q1), .second, .val (.long q2), .second, .val (.long q3), .second, .val (.long q4), .second, .val (.int p5), .val (.long f1), .second, .val (.long l1), .second, .unset, .unset, .unset, .unset, .unset, .unset, .unset, .unset, .unset, .unset, .unset, .unset] [(.int (0 : Int32))])) _
      exact k
    · simp only [if_neg hc] at k
      refine XS.iload X2.here hx rfl (hb hby at_14) rfl ?_
      show Steps p.tables e below (T2.setTop (mkF m 16 #[.val (.long q1), .second, .val (.long q2), .second, .val (.long q3), .second, .val (.long q4), .second, .val (.int p5), .val (.long f1), .second, .val (.long l1), .second, .unset, .unset, .unset, .unset, .unset, .unset, .unset, .unset, .unset, .unset, .unset, .unset] [(.int p5)])) _
      refine XS.iconst X2.here hx rfl (hb hby at_16) ?_
      show Steps p.tables e below (T2.setTop (mkF m 17 #[.val (.long q1), .second, .val (.long q2), .second, .val (.long q3), .second, .val (.long q4), .second, .val (.int p5), .val (.long f1), .second, .val (.long l1), .second, .unset, .unset, .unset, .unset, .unset, .unset, .unset, .unset, .unset, .unset, .unset, .unset] [(.int (4 : Int32)), (.int p5)])) _
      refine XS.iand X2.here hx rfl (hb hby at_17) rfl ?_
      show Steps p.tables e below (T2.setTop (mkF m 18 #[.val (.long q1), .second, .val (.long q2), .second, .val (.long q3), .second, .val (.long q4), .second, .val (.int p5), .val (.long f1), .second, .val (.long l1), .second, .unset, .unset, .unset, .unset, .unset, .unset, .unset, .unset, .unset, .unset, .unset, .unset] [(.int (p5 &&& (4 : Int32)))])) _
      refine XS.ifNo X2.here hx rfl (hb hby at_18) rfl (XT.i0_eq_f hc) ?_
      show Steps p.tables e below (T2.setTop (mkF m 21 #[.val (.long q1), .second, .val (.long q2), .second, .val (.long q3), .second, .val (.long q4), .second, .val (.int p5), .val (.long f1), .second, .val (.long l1), .second, .unset, .unset, .unset, .unset, .unset, .unset, .unset, .unset, .unset, .unset, .unset, .unset] [])) _
      refine XS.iconst X2.here hx rfl (hb hby at_21) ?_
      show Steps p.tables e below (T2.setTop (mkF m 22 #[.val (.long q1), .second, .val (.long q2), .second, .val (.long q3), .second, .val (.long q4), .second, .val (.int p5), .val (.long f1), .second, .val (.long l1), .second, .unset, .unset, .unset, .unset, .unset, .unset, .unset, .unset, .unset, .unset, .unset, .unset] [(.int (1 : Int32))])) _
      refine XS.goto X2.here hx rfl (pc0 := 22) (pc' := 26) rfl (hb hby at_22) (by decide) (by decide) ?_
      show Steps p.tables e below (T2.setTop (mkF m 26 #[.val (.long q1), .second, .val (.long q2), .second, .val (.long q3), .second, .val (.long q4), .second, .val (.int p5), .val (.long f1), .second, .val (.long l1), .second, .unset, .unset, .unset, .unset, .unset, .unset, .unset, .unset, .unset, .unset, .unset, .unset] [(.int (1 : Int32))])) _
      exact k
  show own_Gl p.tables e below F (T2.setTop (mkF m 26 #[.val (.long q1), .second, .val (.long q2), .second, .val (.long q3), .second, .val (.long q4), .second, .val (.int p5), .val (.long f1), .second, .val (.long l1), .second, .unset, .unset, .unset, .unset, .unset, .unset, .unset, .unset, .unset, .unset, .unset, .unset] [(.int (if (p5 &&& (4 : Int32)) = 0 then (0 : Int32) else (1 : Int32)))]))
  have hsf := own_bit (q := (p5 &&& (4 : Int32)) = 0)
  generalize (if (p5 &&& (4 : Int32)) = 0 then (0 : Int32) else (1 : Int32)) = sf at hsf ⊢
  show own_Gl p.tables e below F (T2.setTop (mkF m 26 #[.val (.long q1), .second, .val (.long q2), .second, .val (.long q3), .second, .val (.long q4), .second, .val (.int p5), .val (.long f1), .second, .val (.long l1), .second, .unset, .unset, .unset, .unset, .unset, .unset, .unset, .unset, .unset, .unset, .unset, .unset] [(.int sf)]))
  refine own_go (fun _ k => XS.istore X2.here hx rfl (hb hby at_26) rfl (l' := #[.val (.long q1), .second, .val (.long q2), .second, .val (.long q3), .second, .val (.long q4), .second, .val (.int p5), .val (.long f1), .second, .val (.long l1), .second, .val (.int sf), .unset, .unset, .unset, .unset, .unset, .unset, .unset, .unset, .unset, .unset, .unset]) rfl k) ?_
  show own_Gl p.tables e below F (T2.setTop (mkF m 28 #[.val (.long q1), .second, .val (.long q2), .second, .val (.long q3), .second, .val (.long q4), .second, .val (.int p5), .val (.long f1), .second, .val (.long l1), .second, .val (.int sf), .unset, .unset, .unset, .unset, .unset, .unset, .unset, .unset, .unset, .unset, .unset] []))
  refine own_go (st' := T2.setTop (mkF m 41 #[.val (.long q1), .second, .val (.long q2), .second, .val (.long q3), .second, .val (.long q4), .second, .val (.int p5), .val (.long f1), .second, .val (.long l1), .second, .val (.int sf), .unset, .unset, .unset, .unset, .unset, .unset, .unset, .unset, .unset, .unset, .unset] [(.int (if (p5 &&& (8 : Int32)) = 0 then (0 : Int32) else (1 : Int32)))])) (fun t k => ?_) ?_
  · by_cases hc : (p5 &&& (8 : Int32)) = 0
    · simp only [if_pos hc] at k
      refine XS.iload X2.here hx rfl (hb hby at_28) rfl ?_
      show Steps p.tables e below (T2.setTop (mkF m 30 #[.val (.long q1), .second, .val (.long q2), .second, .val (.long q3), .second, .val (.long q4), .second, .val (.int p5), .val (.long f1), .second, .val (.long l1), .second, .val (.int sf), .unset, .unset, .unset, .unset, .unset, .unset, .unset, .unset, .unset, .unset, .unset] [(.int p5)])) _
      refine XS.bipush X2.here hx rfl (hb hby at_30) ?_
      show Steps p.tables e below (T2.setTop (mkF m 32 #[.val (.long q1), .second, .val (.long q2), .second, .val (.long q3), .second, .val (.long q4), .second, .val (.int p5), .val (.long f1), .second, .val (.long l1), .second, .val (.int sf), .unset, .unset, .unset, .unset, .unset, .unset, .unset, .unset, .unset, .unset, .unset] [(.int (8 : Int32)), (.int p5)])) _
      refine XS.iand X2.here hx rfl (hb hby at_32) rfl ?_
      show Steps p.tables e below (T2.setTop (mkF m 33 #[.val (.long q1), .second, .val (.long q2), .second, .val (.long q3), .second, .val (.long q4), .second, .val (.int p5), .val (.long f1), .second, .val (.long l1), .second, .val (.int sf), .unset, .unset, .unset, .unset, .unset, .unset, .unset, .unset, .unset, .unset, .unset] [(.int (p5 &&& (8 : Int32)))])) _
      refine XS.ifYes X2.here hx rfl (pc0 := 33) (pc' := 40) rfl (hb hby at_33) rfl (XT.i0_eq_t hc) (by decide) (by decide) ?_
      show Steps p.tables e below (T2.setTop (mkF m 40 #[.val (.long q1), .second, .val (.long q2), .second, .val (.long q3), .second, .val (.long q4), .second, .val (.int p5), .val (.long f1), .second, .val (.long l1), .second, .val (.int sf), .unset, .unset, .unset, .unset, .unset, .unset, .unset, .unset, .unset, .unset, .unset] [])) _
      refine XS.iconst X2.here hx rfl (hb hby at_40) ?_
      show Steps p.tables e below (T2.setTop (mkF m 41 #[.val (.long q1), .second, .val (.long q2), .second, .val (.long q3), .second, .val (.long q4), .second, .val (.int p5), .val (.long f1), .second, .val (.long l1), .second, .val (.int sf), .unset, .unset, .unset, .unset, .unset, .unset, .unset, .unset, .unset, .unset, .unset] [(.int (0 : Int32))])) _
      exact k
    · simp only [if_neg hc] at k
      refine XS.iload X2.here hx rfl (hb hby at_28) rfl ?_
      show Steps p.tables e below (T2.setTop (mkF m 30 #[.val (.long q1), .second, .val (.long q2), .second, .val (.long q3), .second, .val (.long q4), .second, .val (.int p5), .val (.long f1), .second, .val (.long l1), .second, .val (.int sf), .unset, .unset, .unset, .unset, .unset, .unset, .unset, .unset, .unset, .unset, .unset] [(.int p5)])) _
      refine XS.bipush X2.here hx rfl (hb hby at_30) ?_
      show Steps p.tables e below (T2.setTop (mkF m 32 #[.val (.long q1), .second, .val (.long q2), .second, .val (.long q3), .second, .val (.long q4), .second, .val (.int p5), .val (.long f1), .second, .val (.long l1), .second, .val (.int sf), .unset, .unset, .unset, .unset, .unset, .unset, .unset, .unset, .unset, .unset, .unset] [(.int (8 : Int32)), (.int p5)])) _
      refine XS.iand X2.here hx rfl (hb hby at_32) rfl ?_
      show Steps p.tables e below (T2.setTop (mkF m 33 #[.val (.long q1), .second, .val (.long q2), .second, .val (.long q3), .second, .val (.long q4), .second, .val (.int p5), .val (.long f1), .second, .val (.long l1), .second, .val (.int sf), .unset, .unset, .unset, .unset, .unset, .unset, .unset, .unset, .unset, .unset, .unset] [(.int (p5 &&& (8 : Int32)))])) _
      refine XS.ifNo X2.here hx rfl (hb hby at_33) rfl (XT.i0_eq_f hc) ?_
      show Steps p.tables e below (T2.setTop (mkF m 36 #[.val (.long q1), .second, .val (.long q2), .second, .val (.long q3), .second, .val (.long q4), .second, .val (.int p5), .val (.long f1), .second, .val (.long l1), .second, .val (.int sf), .unset, .unset, .unset, .unset, .unset, .unset, .unset, .unset, .unset, .unset, .unset] [])) _
      refine XS.iconst X2.here hx rfl (hb hby at_36) ?_
      show Steps p.tables e below (T2.setTop (mkF m 37 #[.val (.long q1), .second, .val (.long q2), .second, .val (.long q3), .second, .val (.long q4), .second, .val (.int p5), .val (.long f1), .second, .val (.long l1), .second, .val (.int sf), .unset, .unset, .unset, .unset, .unset, .unset, .unset, .unset, .unset, .unset, .unset] [(.int (1 : Int32))])) _
      refine XS.goto X2.here hx rfl (pc0 := 37) (pc' := 41) rfl (hb hby at_37) (by decide) (by decide) ?_
      show Steps p.tables e below (T2.setTop (mkF m 41 #[.val (.long q1), .second, .val (.long q2), .second, .val (.long q3), .second, .val (.long q4), .second, .val (.int p5), .val (.long f1), .second, .val (.long l1), .second, .val (.int sf), .unset, .unset, .unset, .unset, .unset, .unset, .unset, .unset, .unset, .unset, .unset] [(.int (1 : Int32))])) _
      exact k
  show own_Gl p.tables e below F (T2.setTop (mkF m 41 #[.val (.long q1), .second, .val (.long q2), .second, .val (.long q3), .second, .val (.long q4), .second, .val (.int p5), .val (.long f1), .second, .val (.long l1), .second, .val (.int sf), .unset, .unset, .unset, .unset, .unset, .unset, .unset, .unset, .unset, .unset, .unset] [(.int (if (p5 &&& (8 : Int32)) = 0 then (0 : Int32) else (1 : Int32)))]))
  have hsl := own_bit (q := (p5 &&& (8 : Int32)) = 0)
  generalize (if (p5 &&& (8 : Int32)) = 0 then (0 : Int32) else (1 : Int32)) = sl at hsl ⊢
  show own_Gl p.tables e below F (T2.setTop (mkF m 41 #[.val (.long q1), .second, .val (.long q2), .second, .val (.long q3), .second, .val (.long q4), .second, .val (.int p5), .val (.long f1), .second, .val (.long l1), .second, .val (.int sf), .unset, .unset, .unset, .unset, .unset, .unset, .unset, .unset, .unset, .unset, .unset] [(.int sl)]))
  refine own_go (fun _ k => XS.istore X2.here hx rfl (hb hby at_41) rfl (l' := #[.val (.long q1), .second, .val (.long q2), .second, .val (.long q3), .second, .val (.long q4), .second, .val (.int p5), .val (.long f1), .second, .val (.long l1), .second, .val (.int sf), .val (.int sl), .unset, .unset, .unset, .unset, .unset, .unset, .unset, .unset, .unset, .unset]) rfl k) ?_
  show own_Gl p.tables e below F (T2.setTop (mkF m 43 #[.val (.long q1), .second, .val (.long q2), .second, .val (.long q3), .second, .val (.long q4), .second, .val (.int p5), .val (.long f1), .second, .val (.long l1), .second, .val (.int sf), .val (.int sl), .unset, .unset, .unset, .unset, .unset, .unset, .unset, .unset, .unset, .unset] []))
  have J79 : ∀ (TJ79 : State) (lJ79 : List Loc) (XJ79 : Stand p l e room_1 s m #[(.long q1), (.long q2), (.long q3), (.long q4), (.int p5)] below meth c TJ79 lJ79 0 0) (eJ79 : TJ79.heap = h0) (NJ79 : Fr n0 lJ79) (f2 l2 : Int64), True → own_Gl p.tables e below F (TJ79.setTop (mkF m 79 #[.val (.long q1), .second, .val (.long q2), .second, .val (.long q3), .second, .val (.long q4), .second, .val (.int p5), .val (.long f1), .second, .val (.long l1), .second, .val (.int sf), .val (.int sl), .val (.long f2), .second, .unset, .unset, .unset, .unset, .unset, .unset, .unset, .unset] [(.long l2)])) := by
    intro TJ79 lJ79 XJ79 eJ79 NJ79 f2 l2 hj
    show own_Gl p.tables e below F (TJ79.setTop (mkF m 79 #[.val (.long q1), .second, .val (.long q2), .second, .val (.long q3), .second, .val (.long q4), .second, .val (.int p5), .val (.long f1), .second, .val (.long l1), .second, .val (.int sf), .val (.int sl), .val (.long f2), .second, .unset, .unset, .unset, .unset, .unset, .unset, .unset, .unset] [(.long l2)]))
    refine own_go (fun _ k => XS.lstore XJ79.here hx rfl (hb hby at_79) rfl (l' := #[.val (.long q1), .second, .val (.long q2), .second, .val (.long q3), .second, .val (.long q4), .second, .val (.int p5), .val (.long f1), .second, .val (.long l1), .second, .val (.int sf), .val (.int sl), .val (.long f2), .second, .val (.long l2), .second, .unset, .unset, .unset, .unset, .unset, .unset]) rfl k) ?_
    show own_Gl p.tables e below F (TJ79.setTop (mkF m 81 #[.val (.long q1), .second, .val (.long q2), .second, .val (.long q3), .second, .val (.long q4), .second, .val (.int p5), .val (.long f1), .second, .val (.long l1), .second, .val (.int sf), .val (.int sl), .val (.long f2), .second, .val (.long l2), .second, .unset, .unset, .unset, .unset, .unset, .unset] []))
    refine own_go (fun _ k => XS.lload XJ79.here hx rfl (hb hby at_81) rfl k) ?_
    show own_Gl p.tables e below F (TJ79.setTop (mkF m 83 #[.val (.long q1), .second, .val (.long q2), .second, .val (.long q3), .second, .val (.long q4), .second, .val (.int p5), .val (.long f1), .second, .val (.long l1), .second, .val (.int sf), .val (.int sl), .val (.long f2), .second, .val (.long l2), .second, .unset, .unset, .unset, .unset, .unset, .unset] [(.long l2)]))
    refine own_go (fun _ k => XS.lload XJ79.here hx rfl (hb hby at_83) rfl k) ?_
    show own_Gl p.tables e below F (TJ79.setTop (mkF m 85 #[.val (.long q1), .second, .val (.long q2), .second, .val (.long q3), .second, .val (.long q4), .second, .val (.int p5), .val (.long f1), .second, .val (.long l1), .second, .val (.int sf), .val (.int sl), .val (.long f2), .second, .val (.long l2), .second, .unset, .unset, .unset, .unset, .unset, .unset] [(.long f2), (.long l2)]))
    refine own_go (fun _ k => XS.lcmp XJ79.here hx rfl (hb hby at_85) rfl k) ?_
    show own_Gl p.tables e below F (TJ79.setTop (mkF m 86 #[.val (.long q1), .second, .val (.long q2), .second, .val (.long q3), .second, .val (.long q4), .second, .val (.int p5), .val (.long f1), .second, .val (.long l1), .second, .val (.int sf), .val (.int sl), .val (.long f2), .second, .val (.long l2), .second, .unset, .unset, .unset, .unset, .unset, .unset] [(.int (XT.cmpL l2 f2))]))
    refine own_go (st' := TJ79.setTop (mkF m 93 #[.val (.long q1), .second, .val (.long q2), .second, .val (.long q3), .second, .val (.long q4), .second, .val (.int p5), .val (.long f1), .second, .val (.long l1), .second, .val (.int sf), .val (.int sl), .val (.long f2), .second, .val (.long (if l2 < f2 then f2 else l2)), .second, .unset, .unset, .unset, .unset, .unset, .unset] [])) (fun t k => ?_) ?_
    · by_cases hc : l2 < f2
      · simp only [if_pos hc] at k
        refine XS.ifNo XJ79.here hx rfl (hb hby at_86) rfl (XT.ll_ge_f hc) ?_
        show Steps p.tables e below (TJ79.setTop (mkF m 89 #[.val (.long q1), .second, .val (.long q2), .second, .val (.long q3), .second, .val (.long q4), .second, .val (.int p5), .val (.long f1), .second, .val (.long l1), .second, .val (.int sf), .val (.int sl), .val (.long f2), .second, .val (.long l2), .second, .unset, .unset, .unset, .unset, .unset, .unset] [])) _
        refine XS.lload XJ79.here hx rfl (hb hby at_89) rfl ?_
        show Steps p.tables e below (TJ79.setTop (mkF m 91 #[.val (.long q1), .second, .val (.long q2), .second, .val (.long q3), .second, .val (.long q4), .second, .val (.int p5), .val (.long f1), .second, .val (.long l1), .second, .val (.int sf), .val (.int sl), .val (.long f2), .second, .val (.long l2), .second, .unset, .unset, .unset, .unset, .unset, .unset] [(.long f2)])) _
        refine XS.lstore XJ79.here hx rfl (hb hby at_91) rfl (l' := #[.val (.long q1), .second, .val (.long q2), .second, .val (.long q3), .second, .val (.long q4), .second, .val (.int p5), .val (.long f1), .second, .val (.long l1), .second, .val (.int sf), .val (.int sl), .val (.long f2), .second, .val (.long f2), .second, .unset, .unset, .unset, .unset, .unset, .unset]) rfl ?_
        show Steps p.tables e below (TJ79.setTop (mkF m 93 #[.val (.long q1), .second, .val (.long q2), .second, .val (.long q3), .second, .val (.long q4), .second, .val (.int p5), .val (.long f1), .second, .val (.long l1), .second, .val (.int sf), .val (.int sl), .val (.long f2), .second, .val (.long f2), .second, .unset, .unset, .unset, .unset, .unset, .unset] [])) _
        exact k
      · simp only [if_neg hc] at k
        refine XS.ifYes XJ79.here hx rfl (pc0 := 86) (pc' := 93) rfl (hb hby at_86) rfl (XT.ll_ge_t hc) (by decide) (by decide) ?_
        show Steps p.tables e below (TJ79.setTop (mkF m 93 #[.val (.long q1), .second, .val (.long q2), .second, .val (.long q3), .second, .val (.long q4), .second, .val (.int p5), .val (.long f1), .second, .val (.long l1), .second, .val (.int sf), .val (.int sl), .val (.long f2), .second, .val (.long l2), .second, .unset, .unset, .unset, .unset, .unset, .unset] [])) _
        exact k
    show own_Gl p.tables e below F (TJ79.setTop (mkF m 93 #[.val (.long q1), .second, .val (.long q2), .second, .val (.long q3), .second, .val (.long q4), .second, .val (.int p5), .val (.long f1), .second, .val (.long l1), .second, .val (.int sf), .val (.int sl), .val (.long f2), .second, .val (.long (if l2 < f2 then f2 else l2)), .second, .unset, .unset, .unset, .unset, .unset, .unset] []))
    generalize (if l2 < f2 then f2 else l2) = l3
    show own_Gl p.tables e below F (TJ79.setTop (mkF m 93 #[.val (.long q1), .second, .val (.long q2), .second, .val (.long q3), .second, .val (.long q4), .second, .val (.int p5), .val (.long f1), .second, .val (.long l1), .second, .val (.int sf), .val (.int sl), .val (.long f2), .second, .val (.long l3), .second, .unset, .unset, .unset, .unset, .unset, .unset] []))
    refine own_go (fun _ k => XS.iload XJ79.here hx rfl (hb hby at_93) rfl k) ?_
    show own_Gl p.tables e below F (TJ79.setTop (mkF m 95 #[.val (.long q1), .second, .val (.long q2), .second, .val (.long q3), .second, .val (.long q4), .second, .val (.int p5), .val (.long f1), .second, .val (.long l1), .second, .val (.int sf), .val (.int sl), .val (.long f2), .second, .val (.long l3), .second, .unset, .unset, .unset, .unset, .unset, .unset] [(.int p5)]))
    refine own_go (fun _ k => XS.iconst XJ79.here hx rfl (hb hby at_95) k) ?_
    show own_Gl p.tables e below F (TJ79.setTop (mkF m 96 #[.val (.long q1), .second, .val (.long q2), .second, .val (.long q3), .second, .val (.long q4), .second, .val (.int p5), .val (.long f1), .second, .val (.long l1), .second, .val (.int sf), .val (.int sl), .val (.long f2), .second, .val (.long l3), .second, .unset, .unset, .unset, .unset, .unset, .unset] [(.int (1 : Int32)), (.int p5)]))
    refine own_go (fun _ k => XS.iand XJ79.here hx rfl (hb hby at_96) rfl k) ?_
    show own_Gl p.tables e below F (TJ79.setTop (mkF m 97 #[.val (.long q1), .second, .val (.long q2), .second, .val (.long q3), .second, .val (.long q4), .second, .val (.int p5), .val (.long f1), .second, .val (.long l1), .second, .val (.int sf), .val (.int sl), .val (.long f2), .second, .val (.long l3), .second, .unset, .unset, .unset, .unset, .unset, .unset] [(.int (p5 &&& (1 : Int32)))]))
    refine own_go (st' := TJ79.setTop (mkF m 105 #[.val (.long q1), .second, .val (.long q2), .second, .val (.long q3), .second, .val (.long q4), .second, .val (.int p5), .val (.long f1), .second, .val (.long l1), .second, .val (.int sf), .val (.int sl), .val (.long f2), .second, .val (.long l3), .second, .unset, .unset, .unset, .unset, .unset, .unset] [(.int (if (p5 &&& (1 : Int32)) = 0 then (0 : Int32) else (1 : Int32)))])) (fun t k => ?_) ?_
    · by_cases hc : (p5 &&& (1 : Int32)) = 0
      · simp only [if_pos hc] at k
        refine XS.ifYes XJ79.here hx rfl (pc0 := 97) (pc' := 104) rfl (hb hby at_97) rfl (XT.i0_eq_t hc) (by decide) (by decide) ?_
        show Steps p.tables e below (TJ79.setTop (mkF m 104 #[.val (.long q1), .second, .val (.long q2), .second, .val (.long q3), .second, .val (.long q4), .second, .val (.int p5), .val (.long f1), .second, .val (.long l1), .second, .val (.int sf), .val (.int sl), .val (.long f2), .second, .val (.long l3), .second, .unset, .unset, .unset, .unset, .unset, .unset] [])) _
        refine XS.iconst XJ79.here hx rfl (hb hby at_104) ?_
        show Steps p.tables e below (TJ79.setTop (mkF m 105 #[.val (.long q1), .second, .val (.long q2), .second, .val (.long q3), .second, .val (.long q4), .second, .val (.int p5), .val (.long f1), .second, .val (.long l1), .second, .val (.int sf), .val (.int sl), .val (.long f2), .second, .val (.long l3), .second, .unset, .unset, .unset, .unset, .unset, .unset] [(.int (0 : Int32))])) _
        exact k
      · simp only [if_neg hc] at k
        refine XS.ifNo XJ79.here hx rfl (hb hby at_97) rfl (XT.i0_eq_f hc) ?_
        show Steps p.tables e below (TJ79.setTop (mkF m 100 #[.val (.long q1), .second, .val (.long q2), .second, .val (.long q3), .second, .val (.long q4), .second, .val (.int p5), .val (.long f1), .second, .val (.long l1), .second, .val (.int sf), .val (.int sl), .val (.long f2), .second, .val (.long l3), .second, .unset, .unset, .unset, .unset, .unset, .unset] [])) _
        refine XS.iconst XJ79.here hx rfl (hb hby at_100) ?_
        show Steps p.tables e below (TJ79.setTop (mkF m 101 #[.val (.long q1), .second, .val (.long q2), .second, .val (.long q3), .second, .val (.long q4), .second, .val (.int p5), .val (.long f1), .second, .val (.long l1), .second, .val (.int sf), .val (.int sl), .val (.long f2), .second, .val (.long l3), .second, .unset, .unset, .unset, .unset, .unset, .unset] [(.int (1 : Int32))])) _
        refine XS.goto XJ79.here hx rfl (pc0 := 101) (pc' := 105) rfl (hb hby at_101) (by decide) (by decide) ?_
        show Steps p.tables e below (TJ79.setTop (mkF m 105 #[.val (.long q1), .second, .val (.long q2), .second, .val (.long q3), .second, .val (.long q4), .second, .val (.int p5), .val (.long f1), .second, .val (.long l1), .second, .val (.int sf), .val (.int sl), .val (.long f2), .second, .val (.long l3), .second, .unset, .unset, .unset, .unset, .unset, .unset] [(.int (1 : Int32))])) _
        exact k
    show own_Gl p.tables e below F (TJ79.setTop (mkF m 105 #[.val (.long q1), .second, .val (.long q2), .second, .val (.long q3), .second, .val (.long q4), .second, .val (.int p5), .val (.long f1), .second, .val (.long l1), .second, .val (.int sf), .val (.int sl), .val (.long f2), .second, .val (.long l3), .second, .unset, .unset, .unset, .unset, .unset, .unset] [(.int (if (p5 &&& (1 : Int32)) = 0 then (0 : Int32) else (1 : Int32)))]))
    have ho1 := own_bit (q := (p5 &&& (1 : Int32)) = 0)
    generalize (if (p5 &&& (1 : Int32)) = 0 then (0 : Int32) else (1 : Int32)) = o1 at ho1 ⊢
    show own_Gl p.tables e below F (TJ79.setTop (mkF m 105 #[.val (.long q1), .second, .val (.long q2), .second, .val (.long q3), .second, .val (.long q4), .second, .val (.int p5), .val (.long f1), .second, .val (.long l1), .second, .val (.int sf), .val (.int sl), .val (.long f2), .second, .val (.long l3), .second, .unset, .unset, .unset, .unset, .unset, .unset] [(.int o1)]))
    refine own_go (fun _ k => XS.istore XJ79.here hx rfl (hb hby at_105) rfl (l' := #[.val (.long q1), .second, .val (.long q2), .second, .val (.long q3), .second, .val (.long q4), .second, .val (.int p5), .val (.long f1), .second, .val (.long l1), .second, .val (.int sf), .val (.int sl), .val (.long f2), .second, .val (.long l3), .second, .val (.int o1), .unset, .unset, .unset, .unset, .unset]) rfl k) ?_
    show own_Gl p.tables e below F (TJ79.setTop (mkF m 107 #[.val (.long q1), .second, .val (.long q2), .second, .val (.long q3), .second, .val (.long q4), .second, .val (.int p5), .val (.long f1), .second, .val (.long l1), .second, .val (.int sf), .val (.int sl), .val (.long f2), .second, .val (.long l3), .second, .val (.int o1), .unset, .unset, .unset, .unset, .unset] []))
    refine own_go (fun _ k => XS.iload XJ79.here hx rfl (hb hby at_107) rfl k) ?_
    show own_Gl p.tables e below F (TJ79.setTop (mkF m 109 #[.val (.long q1), .second, .val (.long q2), .second, .val (.long q3), .second, .val (.long q4), .second, .val (.int p5), .val (.long f1), .second, .val (.long l1), .second, .val (.int sf), .val (.int sl), .val (.long f2), .second, .val (.long l3), .second, .val (.int o1), .unset, .unset, .unset, .unset, .unset] [(.int p5)]))
    refine own_go (fun _ k => XS.iconst XJ79.here hx rfl (hb hby at_109) k) ?_
    show own_Gl p.tables e below F (TJ79.setTop (mkF m 110 #[.val (.long q1), .second, .val (.long q2), .second, .val (.long q3), .second, .val (.long q4), .second, .val (.int p5), .val (.long f1), .second, .val (.long l1), .second, .val (.int sf), .val (.int sl), .val (.long f2), .second, .val (.long l3), .second, .val (.int o1), .unset, .unset, .unset, .unset, .unset] [(.int (2 : Int32)), (.int p5)]))
    refine own_go (fun _ k => XS.iand XJ79.here hx rfl (hb hby at_110) rfl k) ?_
    show own_Gl p.tables e below F (TJ79.setTop (mkF m 111 #[.val (.long q1), .second, .val (.long q2), .second, .val (.long q3), .second, .val (.long q4), .second, .val (.int p5), .val (.long f1), .second, .val (.long l1), .second, .val (.int sf), .val (.int sl), .val (.long f2), .second, .val (.long l3), .second, .val (.int o1), .unset, .unset, .unset, .unset, .unset] [(.int (p5 &&& (2 : Int32)))]))
    refine own_go (st' := TJ79.setTop (mkF m 119 #[.val (.long q1), .second, .val (.long q2), .second, .val (.long q3), .second, .val (.long q4), .second, .val (.int p5), .val (.long f1), .second, .val (.long l1), .second, .val (.int sf), .val (.int sl), .val (.long f2), .second, .val (.long l3), .second, .val (.int o1), .unset, .unset, .unset, .unset, .unset] [(.int (if (p5 &&& (2 : Int32)) = 0 then (0 : Int32) else (1 : Int32)))])) (fun t k => ?_) ?_
    · by_cases hc : (p5 &&& (2 : Int32)) = 0
      · simp only [if_pos hc] at k
        refine XS.ifYes XJ79.here hx rfl (pc0 := 111) (pc' := 118) rfl (hb hby at_111) rfl (XT.i0_eq_t hc) (by decide) (by decide) ?_
        show Steps p.tables e below (TJ79.setTop (mkF m 118 #[.val (.long q1), .second, .val (.long q2), .second, .val (.long q3), .second, .val (.long q4), .second, .val (.int p5), .val (.long f1), .second, .val (.long l1), .second, .val (.int sf), .val (.int sl), .val (.long f2), .second, .val (.long l3), .second, .val (.int o1), .unset, .unset, .unset, .unset, .unset] [])) _
        refine XS.iconst XJ79.here hx rfl (hb hby at_118) ?_
        show Steps p.tables e below (TJ79.setTop (mkF m 119 #[.val (.long q1), .second, .val (.long q2), .second, .val (.long q3), .second, .val (.long q4), .second, .val (.int p5), .val (.long f1), .second, .val (.long l1), .second, .val (.int sf), .val (.int sl), .val (.long f2), .second, .val (.long l3), .second, .val (.int o1), .unset, .unset, .unset, .unset, .unset] [(.int (0 : Int32))])) _
        exact k
      · simp only [if_neg hc] at k
        refine XS.ifNo XJ79.here hx rfl (hb hby at_111) rfl (XT.i0_eq_f hc) ?_
        show Steps p.tables e below (TJ79.setTop (mkF m 114 #[.val (.long q1), .second, .val (.long q2), .second, .val (.long q3), .second, .val (.long q4), .second, .val (.int p5), .val (.long f1), .second, .val (.long l1), .second, .val (.int sf), .val (.int sl), .val (.long f2), .second, .val (.long l3), .second, .val (.int o1), .unset, .unset, .unset, .unset, .unset] [])) _
        refine XS.iconst XJ79.here hx rfl (hb hby at_114) ?_
        show Steps p.tables e below (TJ79.setTop (mkF m 115 #[.val (.long q1), .second, .val (.long q2), .second, .val (.long q3), .second, .val (.long q4), .second, .val (.int p5), .val (.long f1), .second, .val (.long l1), .second, .val (.int sf), .val (.int sl), .val (.long f2), .second, .val (.long l3), .second, .val (.int o1), .unset, .unset, .unset, .unset, .unset] [(.int (1 : Int32))])) _
        refine XS.goto XJ79.here hx rfl (pc0 := 115) (pc' := 119) rfl (hb hby at_115) (by decide) (by decide) ?_
        show Steps p.tables e below (TJ79.setTop (mkF m 119 #[.val (.long q1), .second, .val (.long q2), .second, .val (.long q3), .second, .val (.long q4), .second, .val (.int p5), .val (.long f1), .second, .val (.long l1), .second, .val (.int sf), .val (.int sl), .val (.long f2), .second, .val (.long l3), .second, .val (.int o1), .unset, .unset, .unset, .unset, .unset] [(.int (1 : Int32))])) _
        exact k
    show own_Gl p.tables e below F (TJ79.setTop (mkF m 119 #[.val (.long q1), .second, .val (.long q2), .second, .val (.long q3), .second, .val (.long q4), .second, .val (.int p5), .val (.long f1), .second, .val (.long l1), .second, .val (.int sf), .val (.int sl), .val (.long f2), .second, .val (.long l3), .second, .val (.int o1), .unset, .unset, .unset, .unset, .unset] [(.int (if (p5 &&& (2 : Int32)) = 0 then (0 : Int32) else (1 : Int32)))]))
    have ho2 := own_bit (q := (p5 &&& (2 : Int32)) = 0)
    generalize (if (p5 &&& (2 : Int32)) = 0 then (0 : Int32) else (1 : Int32)) = o2 at ho2 ⊢
    show own_Gl p.tables e below F (TJ79.setTop (mkF m 119 #[.val (.long q1), .second, .val (.long q2), .second, .val (.long q3), .second, .val (.long q4), .second, .val (.int p5), .val (.long f1), .second, .val (.long l1), .second, .val (.int sf), .val (.int sl), .val (.long f2), .second, .val (.long l3), .second, .val (.int o1), .unset, .unset, .unset, .unset, .unset] [(.int o2)]))
    refine own_go (fun _ k => XS.istore XJ79.here hx rfl (hb hby at_119) rfl (l' := #[.val (.long q1), .second, .val (.long q2), .second, .val (.long q3), .second, .val (.long q4), .second, .val (.int p5), .val (.long f1), .second, .val (.long l1), .second, .val (.int sf), .val (.int sl), .val (.long f2), .second, .val (.long l3), .second, .val (.int o1), .val (.int o2), .unset, .unset, .unset, .unset]) rfl k) ?_
    show own_Gl p.tables e below F (TJ79.setTop (mkF m 121 #[.val (.long q1), .second, .val (.long q2), .second, .val (.long q3), .second, .val (.long q4), .second, .val (.int p5), .val (.long f1), .second, .val (.long l1), .second, .val (.int sf), .val (.int sl), .val (.long f2), .second, .val (.long l3), .second, .val (.int o1), .val (.int o2), .unset, .unset, .unset, .unset] []))
    obtain ⟨T3, h3, X3, e3, E3, A3, D3, -, st3⟩ := newO XJ79 hx hZ hown (hw _ (List.mem_of_getElem? (i := 7) rfl)) (hw _ (List.mem_of_getElem? (i := 8) rfl)) (hw _ (List.mem_of_getElem? (i := 9) rfl)) eJ79 (g := (mkF m 121 #[.val (.long q1), .second, .val (.long q2), .second, .val (.long q3), .second, .val (.long q4), .second, .val (.int p5), .val (.long f1), .second, .val (.long l1), .second, .val (.int sf), .val (.int sl), .val (.long f2), .second, .val (.long l3), .second, .val (.int o1), .val (.int o2), .unset, .unset, .unset, .unset] [])) rfl (hb hby at_121) (by first | decide | exact Nat.le_of_ble_eq_true rfl) (by first | decide | exact Nat.le_of_ble_eq_true rfl)
    obtain ⟨b3, g3⟩ : ∃ z, z = h0.size := ⟨_, rfl⟩
    rw [← g3] at A3 D3 st3
    have ge_b3 : n0 ≤ b3 := Nat.le_trans Z0 (Nat.le_of_eq g3.symm)
    have sz_b3 : h0.size ≤ b3 := Nat.le_trans ((Keep.refl h0 [])).1 (Nat.le_of_eq g3.symm)
    have f3_0 := OO.ext E3
    have Z3 : n0 ≤ h3.size := Nat.le_trans Z0 E3.1
    have K3 := Keep.ext (Keep.refl h0 []) E3
    have F3_m_nFirstTxId : Fld Z h3 b3 "com/example/quorumhelm/quorumhelm/io/JournalSegment" "m_nFirstTxId" "J" (.long (0 : Int64)) := D3 (Or.inr (hw _ (List.mem_of_getElem? (i := 17) rfl))) (ty := .long) (by decide)
    have F3_m_nLastTxId : Fld Z h3 b3 "com/example/quorumhelm/quorumhelm/io/JournalSegment" "m_nLastTxId" "J" (.long (0 : Int64)) := D3 (Or.inr (hw _ (List.mem_of_getElem? (i := 19) rfl))) (ty := .long) (by decide)
    have F3_m_bOpen : Fld Z h3 b3 "com/example/quorumhelm/quorumhelm/io/JournalSegment" "m_bOpen" "Z" (.int (0 : Int32)) := D3 (Or.inr (hw _ (List.mem_of_getElem? (i := 21) rfl))) (ty := .boolean) (by decide)
    refine own_go st3 ?_
    show own_Gl p.tables e below F (T3.setTop (mkF m 124 #[.val (.long q1), .second, .val (.long q2), .second, .val (.long q3), .second, .val (.long q4), .second, .val (.int p5), .val (.long f1), .second, .val (.long l1), .second, .val (.int sf), .val (.int sl), .val (.long f2), .second, .val (.long l3), .second, .val (.int o1), .val (.int o2), .unset, .unset, .unset, .unset] [(.ref b3)]))
    refine own_go (fun _ k => XS.dup X3.here hx rfl (hb hby at_124) rfl rfl k) ?_
    show own_Gl p.tables e below F (T3.setTop (mkF m 125 #[.val (.long q1), .second, .val (.long q2), .second, .val (.long q3), .second, .val (.long q4), .second, .val (.int p5), .val (.long f1), .second, .val (.long l1), .second, .val (.int sf), .val (.int sl), .val (.long f2), .second, .val (.long l3), .second, .val (.int o1), .val (.int o2), .unset, .unset, .unset, .unset] [(.ref b3), (.ref b3)]))
    refine own_go (fun _ k => XS.lload X3.here hx rfl (hb hby at_125) rfl k) ?_
    show own_Gl p.tables e below F (T3.setTop (mkF m 127 #[.val (.long q1), .second, .val (.long q2), .second, .val (.long q3), .second, .val (.long q4), .second, .val (.int p5), .val (.long f1), .second, .val (.long l1), .second, .val (.int sf), .val (.int sl), .val (.long f2), .second, .val (.long l3), .second, .val (.int o1), .val (.int o2), .unset, .unset, .unset, .unset] [(.long f1), (.ref b3), (.ref b3)]))
    refine own_go (fun _ k => XS.lload X3.here hx rfl (hb hby at_127) rfl k) ?_
    show own_Gl p.tables e below F (T3.setTop (mkF m 129 #[.val (.long q1), .second, .val (.long q2), .second, .val (.long q3), .second, .val (.long q4), .second, .val (.int p5), .val (.long f1), .second, .val (.long l1), .second, .val (.int sf), .val (.int sl), .val (.long f2), .second, .val (.long l3), .second, .val (.int o1), .val (.int o2), .unset, .unset, .unset, .unset] [(.long l1), (.long f1), (.ref b3), (.ref b3)]))
    refine own_go (fun _ k => XS.iload X3.here hx rfl (hb hby at_129) rfl k) ?_
    show own_Gl p.tables e below F (T3.setTop (mkF m 131 #[.val (.long q1), .second, .val (.long q2), .second, .val (.long q3), .second, .val (.long q4), .second, .val (.int p5), .val (.long f1), .second, .val (.long l1), .second, .val (.int sf), .val (.int sl), .val (.long f2), .second, .val (.long l3), .second, .val (.int o1), .val (.int o2), .unset, .unset, .unset, .unset] [(.int o1), (.long l1), (.long f1), (.ref b3), (.ref b3)]))
    obtain ⟨_, _, ⟨T4, L4, k4, n4⟩, -, X4, ⟨Lc4, hQ4, l4, y4, z4⟩, st4⟩ := X3.specialBack hx (y := (⟨"com/example/quorumhelm/quorumhelm/io/JournalSegment", "<init>", "(JJZ)V"⟩ : MethodName)) rfl hown (mvT hZ (hw _ (List.mem_of_getElem? (i := 10) rfl))) (mvT hZ (hw _ (List.mem_of_getElem? (i := 11) rfl))) (mvT hZ (hw _ (List.mem_of_getElem? (i := 12) rfl))) (by decide) (backOf (W := 1) (rm3 l Z a0 hw [] b3 f1 l1 o1  h3 n0 Z3 A3 F3_m_nFirstTxId F3_m_nLastTxId F3_m_bOpen ge_b3 ) hZ (hw _ (List.mem_of_getElem? (i := 12) rfl)) (hw _ (List.mem_of_getElem? (i := 9) rfl)) (by decide) (by decide)) (g := (mkF m 131 #[.val (.long q1), .second, .val (.long q2), .second, .val (.long q3), .second, .val (.long q4), .second, .val (.int p5), .val (.long f1), .second, .val (.long l1), .second, .val (.int sf), .val (.int sl), .val (.long f2), .second, .val (.long l3), .second, .val (.int o1), .val (.int o2), .unset, .unset, .unset, .unset] [(.int o1), (.long l1), (.long f1), (.ref b3), (.ref b3)])) rfl (by rw [hml]; rfl) (Steps.refl _) (a := b3) (argsL := [(.long f1), (.long l1), (.int o1)]) (rest := [(.ref b3)]) (lenOf pd_3 rfl) rfl (by show 2 * 0 + _ ≤ _; exact Nat.le_of_eq rfl) (hb hby at_131) (fun _ _ => ⟨rfl, e3, (by first | decide | exact Nat.le_of_ble_eq_true rfl), (by first | decide | exact Nat.le_of_ble_eq_true rfl)⟩)
    dsimp only [Pt.U, Pt.locs, Pt.cells, Pt.slots] at X4 l4 y4 z4 st4 hQ4
    subst l4 y4 z4
    obtain ⟨rfl, N4, K4, G4_E, G4_m_nFirstTxId, G4_m_nLastTxId, G4_m_bOpen⟩ := hQ4
    have NF4 := Fr.app NJ79 N4
    have f4_1 := f3_0.keep K4 (allS ge_b3 (all0))
    have f4_2 := A3.keep K4
    have Z4 : n0 ≤ T4.heap.size := Nat.le_trans Z3 K4.1
    have KK4 := Keep.trans K3 K4 (by intro z hz; simp at hz; rcases hz with rfl; all_goals first | (left; simp; done) | (right; assumption))
    refine own_go (fun _ k => st4.trans k) ?_
    show own_Gl p.tables e below F (T4.setTop (mkF m 134 #[.val (.long q1), .second, .val (.long q2), .second, .val (.long q3), .second, .val (.long q4), .second, .val (.int p5), .val (.long f1), .second, .val (.long l1), .second, .val (.int sf), .val (.int sl), .val (.long f2), .second, .val (.long l3), .second, .val (.int o1), .val (.int o2), .unset, .unset, .unset, .unset] [(.ref b3)]))
    rw [ho1] at G4_m_bOpen
    refine own_go (fun _ k => XS.astore X4.here hx rfl (hb hby at_134) rfl rfl (l' := #[.val (.long q1), .second, .val (.long q2), .second, .val (.long q3), .second, .val (.long q4), .second, .val (.int p5), .val (.long f1), .second, .val (.long l1), .second, .val (.int sf), .val (.int sl), .val (.long f2), .second, .val (.long l3), .second, .val (.int o1), .val (.int o2), .val (.ref b3), .unset, .unset, .unset]) rfl k) ?_
    show own_Gl p.tables e below F (T4.setTop (mkF m 136 #[.val (.long q1), .second, .val (.long q2), .second, .val (.long q3), .second, .val (.long q4), .second, .val (.int p5), .val (.long f1), .second, .val (.long l1), .second, .val (.int sf), .val (.int sl), .val (.long f2), .second, .val (.long l3), .second, .val (.int o1), .val (.int o2), .val (.ref b3), .unset, .unset, .unset] []))
    refine own_go (fun _ k => XS.iload X4.here hx rfl (hb hby at_136) rfl k) ?_
    show own_Gl p.tables e below F (T4.setTop (mkF m 138 #[.val (.long q1), .second, .val (.long q2), .second, .val (.long q3), .second, .val (.long q4), .second, .val (.int p5), .val (.long f1), .second, .val (.long l1), .second, .val (.int sf), .val (.int sl), .val (.long f2), .second, .val (.long l3), .second, .val (.int o1), .val (.int o2), .val (.ref b3), .unset, .unset, .unset] [(.int p5)]))
    refine own_go (fun _ k => XS.iconst X4.here hx rfl (hb hby at_138) k) ?_
    show own_Gl p.tables e below F (T4.setTop (mkF m 139 #[.val (.long q1), .second, .val (.long q2), .second, .val (.long q3), .second, .val (.long q4), .second, .val (.int p5), .val (.long f1), .second, .val (.long l1), .second, .val (.int sf), .val (.int sl), .val (.long f2), .second, .val (.long l3), .second, .val (.int o1), .val (.int o2), .val (.ref b3), .unset, .unset, .unset] [(.int (4 : Int32)), (.int p5)]))
    refine own_go (fun _ k => XS.iushr X4.here hx rfl (hb hby at_139) rfl k) ?_
    show own_Gl p.tables e below F (T4.setTop (mkF m 140 #[.val (.long q1), .second, .val (.long q2), .second, .val (.long q3), .second, .val (.long q4), .second, .val (.int p5), .val (.long f1), .second, .val (.long l1), .second, .val (.int sf), .val (.int sl), .val (.long f2), .second, .val (.long l3), .second, .val (.int o1), .val (.int o2), .val (.ref b3), .unset, .unset, .unset] [(.int (XT.ushr p5 (4 : Int32)))]))
    refine own_go (fun _ k => XS.iconst X4.here hx rfl (hb hby at_140) k) ?_
    show own_Gl p.tables e below F (T4.setTop (mkF m 141 #[.val (.long q1), .second, .val (.long q2), .second, .val (.long q3), .second, .val (.long q4), .second, .val (.int p5), .val (.long f1), .second, .val (.long l1), .second, .val (.int sf), .val (.int sl), .val (.long f2), .second, .val (.long l3), .second, .val (.int o1), .val (.int o2), .val (.ref b3), .unset, .unset, .unset] [(.int (3 : Int32)), (.int (XT.ushr p5 (4 : Int32)))]))
    refine own_go (fun _ k => XS.iand X4.here hx rfl (hb hby at_141) rfl k) ?_
    show own_Gl p.tables e below F (T4.setTop (mkF m 142 #[.val (.long q1), .second, .val (.long q2), .second, .val (.long q3), .second, .val (.long q4), .second, .val (.int p5), .val (.long f1), .second, .val (.long l1), .second, .val (.int sf), .val (.int sl), .val (.long f2), .second, .val (.long l3), .second, .val (.int o1), .val (.int o2), .val (.ref b3), .unset, .unset, .unset] [(.int ((XT.ushr p5 (4 : Int32)) &&& (3 : Int32)))]))
    refine own_go (fun _ k => XS.istore X4.here hx rfl (hb hby at_142) rfl (l' := #[.val (.long q1), .second, .val (.long q2), .second, .val (.long q3), .second, .val (.long q4), .second, .val (.int p5), .val (.long f1), .second, .val (.long l1), .second, .val (.int sf), .val (.int sl), .val (.long f2), .second, .val (.long l3), .second, .val (.int o1), .val (.int o2), .val (.ref b3), .val (.int ((XT.ushr p5 (4 : Int32)) &&& (3 : Int32))), .unset, .unset]) rfl k) ?_
    show own_Gl p.tables e below F (T4.setTop (mkF m 144 #[.val (.long q1), .second, .val (.long q2), .second, .val (.long q3), .second, .val (.long q4), .second, .val (.int p5), .val (.long f1), .second, .val (.long l1), .second, .val (.int sf), .val (.int sl), .val (.long f2), .second, .val (.long l3), .second, .val (.int o1), .val (.int o2), .val (.ref b3), .val (.int ((XT.ushr p5 (4 : Int32)) &&& (3 : Int32))), .unset, .unset] []))
    have hk := own_m (XT.ushr p5 (4 : Int32))
    generalize ((XT.ushr p5 (4 : Int32)) &&& (3 : Int32)) = kk at hk ⊢
    show own_Gl p.tables e below F (T4.setTop (mkF m 144 #[.val (.long q1), .second, .val (.long q2), .second, .val (.long q3), .second, .val (.long q4), .second, .val (.int p5), .val (.long f1), .second, .val (.long l1), .second, .val (.int sf), .val (.int sl), .val (.long f2), .second, .val (.long l3), .second, .val (.int o1), .val (.int o2), .val (.ref b3), .val (.int kk), .unset, .unset] []))
    rcases hk with rfl | rfl | rfl | rfl
    · show own_Gl p.tables e below F (T4.setTop (mkF m 144 #[.val (.long q1), .second, .val (.long q2), .second, .val (.long q3), .second, .val (.long q4), .second, .val (.int p5), .val (.long f1), .second, .val (.long l1), .second, .val (.int sf), .val (.int sl), .val (.long f2), .second, .val (.long l3), .second, .val (.int o1), .val (.int o2), .val (.ref b3), .val (.int (0 : Int32)), .unset, .unset] []))
      refine own_go (fun _ k => XS.iload X4.here hx rfl (hb hby at_144) rfl k) ?_
      show own_Gl p.tables e below F (T4.setTop (mkF m 146 #[.val (.long q1), .second, .val (.long q2), .second, .val (.long q3), .second, .val (.long q4), .second, .val (.int p5), .val (.long f1), .second, .val (.long l1), .second, .val (.int sf), .val (.int sl), .val (.long f2), .second, .val (.long l3), .second, .val (.int o1), .val (.int o2), .val (.ref b3), .val (.int (0 : Int32)), .unset, .unset] [(.int (0 : Int32))]))
      refine own_go (fun _ k => XS.iconst X4.here hx rfl (hb hby at_146) k) ?_
      show own_Gl p.tables e below F (T4.setTop (mkF m 147 #[.val (.long q1), .second, .val (.long q2), .second, .val (.long q3), .second, .val (.long q4), .second, .val (.int p5), .val (.long f1), .second, .val (.long l1), .second, .val (.int sf), .val (.int sl), .val (.long f2), .second, .val (.long l3), .second, .val (.int o1), .val (.int o2), .val (.ref b3), .val (.int (0 : Int32)), .unset, .unset] [(.int (1 : Int32)), (.int (0 : Int32))]))
      refine own_go (fun _ k => XS.icmpYes X4.here hx rfl (pc0 := 147) (pc' := 165) rfl (hb hby at_147) rfl (XT.ii_ne_t (by decide)) (by decide) (by decide) k) ?_
      show own_Gl p.tables e below F (T4.setTop (mkF m 165 #[.val (.long q1), .second, .val (.long q2), .second, .val (.long q3), .second, .val (.long q4), .second, .val (.int p5), .val (.long f1), .second, .val (.long l1), .second, .val (.int sf), .val (.int sl), .val (.long f2), .second, .val (.long l3), .second, .val (.int o1), .val (.int o2), .val (.ref b3), .val (.int (0 : Int32)), .unset, .unset] []))
      refine own_go (fun _ k => XS.iload X4.here hx rfl (hb hby at_165) rfl k) ?_
      show own_Gl p.tables e below F (T4.setTop (mkF m 167 #[.val (.long q1), .second, .val (.long q2), .second, .val (.long q3), .second, .val (.long q4), .second, .val (.int p5), .val (.long f1), .second, .val (.long l1), .second, .val (.int sf), .val (.int sl), .val (.long f2), .second, .val (.long l3), .second, .val (.int o1), .val (.int o2), .val (.ref b3), .val (.int (0 : Int32)), .unset, .unset] [(.int (0 : Int32))]))
      refine own_go (fun _ k => XS.iconst X4.here hx rfl (hb hby at_167) k) ?_
      show own_Gl p.tables e below F (T4.setTop (mkF m 168 #[.val (.long q1), .second, .val (.long q2), .second, .val (.long q3), .second, .val (.long q4), .second, .val (.int p5), .val (.long f1), .second, .val (.long l1), .second, .val (.int sf), .val (.int sl), .val (.long f2), .second, .val (.long l3), .second, .val (.int o1), .val (.int o2), .val (.ref b3), .val (.int (0 : Int32)), .unset, .unset] [(.int (2 : Int32)), (.int (0 : Int32))]))
      refine own_go (fun _ k => XS.icmpYes X4.here hx rfl (pc0 := 168) (pc' := 190) rfl (hb hby at_168) rfl (XT.ii_ne_t (by decide)) (by decide) (by decide) k) ?_
      show own_Gl p.tables e below F (T4.setTop (mkF m 190 #[.val (.long q1), .second, .val (.long q2), .second, .val (.long q3), .second, .val (.long q4), .second, .val (.int p5), .val (.long f1), .second, .val (.long l1), .second, .val (.int sf), .val (.int sl), .val (.long f2), .second, .val (.long l3), .second, .val (.int o1), .val (.int o2), .val (.ref b3), .val (.int (0 : Int32)), .unset, .unset] []))
      refine own_go (fun _ k => XS.iload X4.here hx rfl (hb hby at_190) rfl k) ?_
      show own_Gl p.tables e below F (T4.setTop (mkF m 192 #[.val (.long q1), .second, .val (.long q2), .second, .val (.long q3), .second, .val (.long q4), .second, .val (.int p5), .val (.long f1), .second, .val (.long l1), .second, .val (.int sf), .val (.int sl), .val (.long f2), .second, .val (.long l3), .second, .val (.int o1), .val (.int o2), .val (.ref b3), .val (.int (0 : Int32)), .unset, .unset] [(.int (0 : Int32))]))
      refine own_go (fun _ k => XS.iconst X4.here hx rfl (hb hby at_192) k) ?_
      show own_Gl p.tables e below F (T4.setTop (mkF m 193 #[.val (.long q1), .second, .val (.long q2), .second, .val (.long q3), .second, .val (.long q4), .second, .val (.int p5), .val (.long f1), .second, .val (.long l1), .second, .val (.int sf), .val (.int sl), .val (.long f2), .second, .val (.long l3), .second, .val (.int o1), .val (.int o2), .val (.ref b3), .val (.int (0 : Int32)), .unset, .unset] [(.int (3 : Int32)), (.int (0 : Int32))]))
      refine own_go (fun _ k => XS.icmpYes X4.here hx rfl (pc0 := 193) (pc' := 204) rfl (hb hby at_193) rfl (XT.ii_ne_t (by decide)) (by decide) (by decide) k) ?_
      show own_Gl p.tables e below F (T4.setTop (mkF m 204 #[.val (.long q1), .second, .val (.long q2), .second, .val (.long q3), .second, .val (.long q4), .second, .val (.int p5), .val (.long f1), .second, .val (.long l1), .second, .val (.int sf), .val (.int sl), .val (.long f2), .second, .val (.long l3), .second, .val (.int o1), .val (.int o2), .val (.ref b3), .val (.int (0 : Int32)), .unset, .unset] []))
      obtain ⟨T5, h5, X5, e5, E5, A5, D5, -, st5⟩ := newO X4 hx hZ hown (hw _ (List.mem_of_getElem? (i := 7) rfl)) (hw _ (List.mem_of_getElem? (i := 8) rfl)) (hw _ (List.mem_of_getElem? (i := 9) rfl)) rfl (g := (mkF m 204 #[.val (.long q1), .second, .val (.long q2), .second, .val (.long q3), .second, .val (.long q4), .second, .val (.int p5), .val (.long f1), .second, .val (.long l1), .second, .val (.int sf), .val (.int sl), .val (.long f2), .second, .val (.long l3), .second, .val (.int o1), .val (.int o2), .val (.ref b3), .val (.int (0 : Int32)), .unset, .unset] [])) rfl (hb hby at_204) (by first | decide | exact Nat.le_of_ble_eq_true rfl) (by first | decide | exact Nat.le_of_ble_eq_true rfl)
      obtain ⟨b5, g5⟩ : ∃ z, z = T4.heap.size := ⟨_, rfl⟩
      rw [← g5] at A5 D5 st5
      have ne_b3_b5 : b3 ≠ b5 := Nat.ne_of_lt (Nat.lt_of_lt_of_le G4_E.lt (Nat.le_of_eq g5.symm))
      have ge_b5 : n0 ≤ b5 := Nat.le_trans Z4 (Nat.le_of_eq g5.symm)
      have sz_b5 : h0.size ≤ b5 := Nat.le_trans (KK4).1 (Nat.le_of_eq g5.symm)
      have f5_0 := f4_1.ext E5
      have f5_1 := G4_E.ext E5
      have f5_2 := G4_m_nFirstTxId.ext E5
      have f5_3 := G4_m_nLastTxId.ext E5
      have f5_4 := G4_m_bOpen.ext E5
      have Z5 : n0 ≤ h5.size := Nat.le_trans Z4 E5.1
      have K5 := Keep.ext KK4 E5
      have F5_m_nFirstTxId : Fld Z h5 b5 "com/example/quorumhelm/quorumhelm/io/JournalSegment" "m_nFirstTxId" "J" (.long (0 : Int64)) := D5 (Or.inr (hw _ (List.mem_of_getElem? (i := 17) rfl))) (ty := .long) (by decide)
      have F5_m_nLastTxId : Fld Z h5 b5 "com/example/quorumhelm/quorumhelm/io/JournalSegment" "m_nLastTxId" "J" (.long (0 : Int64)) := D5 (Or.inr (hw _ (List.mem_of_getElem? (i := 19) rfl))) (ty := .long) (by decide)
      have F5_m_bOpen : Fld Z h5 b5 "com/example/quorumhelm/quorumhelm/io/JournalSegment" "m_bOpen" "Z" (.int (0 : Int32)) := D5 (Or.inr (hw _ (List.mem_of_getElem? (i := 21) rfl))) (ty := .boolean) (by decide)
      refine own_go st5 ?_
      show own_Gl p.tables e below F (T5.setTop (mkF m 207 #[.val (.long q1), .second, .val (.long q2), .second, .val (.long q3), .second, .val (.long q4), .second, .val (.int p5), .val (.long f1), .second, .val (.long l1), .second, .val (.int sf), .val (.int sl), .val (.long f2), .second, .val (.long l3), .second, .val (.int o1), .val (.int o2), .val (.ref b3), .val (.int (0 : Int32)), .unset, .unset] [(.ref b5)]))
      refine own_go (fun _ k => XS.dup X5.here hx rfl (hb hby at_207) rfl rfl k) ?_
      show own_Gl p.tables e below F (T5.setTop (mkF m 208 #[.val (.long q1), .second, .val (.long q2), .second, .val (.long q3), .second, .val (.long q4), .second, .val (.int p5), .val (.long f1), .second, .val (.long l1), .second, .val (.int sf), .val (.int sl), .val (.long f2), .second, .val (.long l3), .second, .val (.int o1), .val (.int o2), .val (.ref b3), .val (.int (0 : Int32)), .unset, .unset] [(.ref b5), (.ref b5)]))
      refine own_go (fun _ k => XS.lload X5.here hx rfl (hb hby at_208) rfl k) ?_
      show own_Gl p.tables e below F (T5.setTop (mkF m 210 #[.val (.long q1), .second, .val (.long q2), .second, .val (.long q3), .second, .val (.long q4), .second, .val (.int p5), .val (.long f1), .second, .val (.long l1), .second, .val (.int sf), .val (.int sl), .val (.long f2), .second, .val (.long l3), .second, .val (.int o1), .val (.int o2), .val (.ref b3), .val (.int (0 : Int32)), .unset, .unset] [(.long f2), (.ref b5), (.ref b5)]))
      refine own_go (fun _ k => XS.lload X5.here hx rfl (hb hby at_210) rfl k) ?_
      show own_Gl p.tables e below F (T5.setTop (mkF m 212 #[.val (.long q1), .second, .val (.long q2), .second, .val (.long q3), .second, .val (.long q4), .second, .val (.int p5), .val (.long f1), .second, .val (.long l1), .second, .val (.int sf), .val (.int sl), .val (.long f2), .second, .val (.long l3), .second, .val (.int o1), .val (.int o2), .val (.ref b3), .val (.int (0 : Int32)), .unset, .unset] [(.long l3), (.long f2), (.ref b5), (.ref b5)]))
      refine own_go (fun _ k => XS.iload X5.here hx rfl (hb hby at_212) rfl k) ?_
      show own_Gl p.tables e below F (T5.setTop (mkF m 214 #[.val (.long q1), .second, .val (.long q2), .second, .val (.long q3), .second, .val (.long q4), .second, .val (.int p5), .val (.long f1), .second, .val (.long l1), .second, .val (.int sf), .val (.int sl), .val (.long f2), .second, .val (.long l3), .second, .val (.int o1), .val (.int o2), .val (.ref b3), .val (.int (0 : Int32)), .unset, .unset] [(.int o2), (.long l3), (.long f2), (.ref b5), (.ref b5)]))
      obtain ⟨_, _, ⟨T6, L6, k6, n6⟩, -, X6, ⟨Lc6, hQ6, l6, y6, z6⟩, st6⟩ := X5.specialBack hx (y := (⟨"com/example/quorumhelm/quorumhelm/io/JournalSegment", "<init>", "(JJZ)V"⟩ : MethodName)) rfl hown (mvT hZ (hw _ (List.mem_of_getElem? (i := 10) rfl))) (mvT hZ (hw _ (List.mem_of_getElem? (i := 11) rfl))) (mvT hZ (hw _ (List.mem_of_getElem? (i := 12) rfl))) (by decide) (backOf (W := 1) (rm3 l Z a0 hw [] b5 f2 l3 o2  h5 n0 Z5 A5 F5_m_nFirstTxId F5_m_nLastTxId F5_m_bOpen ge_b5 ) hZ (hw _ (List.mem_of_getElem? (i := 12) rfl)) (hw _ (List.mem_of_getElem? (i := 9) rfl)) (by decide) (by decide)) (g := (mkF m 214 #[.val (.long q1), .second, .val (.long q2), .second, .val (.long q3), .second, .val (.long q4), .second, .val (.int p5), .val (.long f1), .second, .val (.long l1), .second, .val (.int sf), .val (.int sl), .val (.long f2), .second, .val (.long l3), .second, .val (.int o1), .val (.int o2), .val (.ref b3), .val (.int (0 : Int32)), .unset, .unset] [(.int o2), (.long l3), (.long f2), (.ref b5), (.ref b5)])) rfl (by rw [hml]; rfl) (Steps.refl _) (a := b5) (argsL := [(.long f2), (.long l3), (.int o2)]) (rest := [(.ref b5)]) (lenOf pd_3 rfl) rfl (by show 2 * 0 + _ ≤ _; exact Nat.le_of_eq rfl) (hb hby at_214) (fun _ _ => ⟨rfl, e5, (by first | decide | exact Nat.le_of_ble_eq_true rfl), (by first | decide | exact Nat.le_of_ble_eq_true rfl)⟩)
      dsimp only [Pt.U, Pt.locs, Pt.cells, Pt.slots] at X6 l6 y6 z6 st6 hQ6
      subst l6 y6 z6
      obtain ⟨rfl, N6, K6, G6_E, G6_m_nFirstTxId, G6_m_nLastTxId, G6_m_bOpen⟩ := hQ6
      have NF6 := Fr.app NF4 N6
      have f6_1 := f5_0.keep K6 (allS ge_b5 (all0))
      have f6_2 := f5_1.keep K6
      have f6_3 := f5_2.keep K6 (ninS ne_b3_b5 nin0)
      have f6_4 := f5_3.keep K6 (ninS ne_b3_b5 nin0)
      have f6_5 := f5_4.keep K6 (ninS ne_b3_b5 nin0)
      have f6_6 := A5.keep K6
      have Z6 : n0 ≤ T6.heap.size := Nat.le_trans Z5 K6.1
      have KK6 := Keep.trans K5 K6 (by intro z hz; simp at hz; rcases hz with rfl; all_goals first | (left; simp; done) | (right; assumption))
      refine own_go (fun _ k => st6.trans k) ?_
      show own_Gl p.tables e below F (T6.setTop (mkF m 217 #[.val (.long q1), .second, .val (.long q2), .second, .val (.long q3), .second, .val (.long q4), .second, .val (.int p5), .val (.long f1), .second, .val (.long l1), .second, .val (.int sf), .val (.int sl), .val (.long f2), .second, .val (.long l3), .second, .val (.int o1), .val (.int o2), .val (.ref b3), .val (.int (0 : Int32)), .unset, .unset] [(.ref b5)]))
      rw [ho2] at G6_m_bOpen
      refine own_go (fun _ k => XS.astore X6.here hx rfl (hb hby at_217) rfl rfl (l' := #[.val (.long q1), .second, .val (.long q2), .second, .val (.long q3), .second, .val (.long q4), .second, .val (.int p5), .val (.long f1), .second, .val (.long l1), .second, .val (.int sf), .val (.int sl), .val (.long f2), .second, .val (.long l3), .second, .val (.int o1), .val (.int o2), .val (.ref b3), .val (.int (0 : Int32)), .val (.ref b5), .unset]) rfl k) ?_
      show own_Gl p.tables e below F (T6.setTop (mkF m 219 #[.val (.long q1), .second, .val (.long q2), .second, .val (.long q3), .second, .val (.long q4), .second, .val (.int p5), .val (.long f1), .second, .val (.long l1), .second, .val (.int sf), .val (.int sl), .val (.long f2), .second, .val (.long l3), .second, .val (.int o1), .val (.int o2), .val (.ref b3), .val (.int (0 : Int32)), .val (.ref b5), .unset] []))
      refine own_go (fun _ k => XS.lload X6.here hx rfl (hb hby at_219) rfl k) ?_
      show own_Gl p.tables e below F (T6.setTop (mkF m 221 #[.val (.long q1), .second, .val (.long q2), .second, .val (.long q3), .second, .val (.long q4), .second, .val (.int p5), .val (.long f1), .second, .val (.long l1), .second, .val (.int sf), .val (.int sl), .val (.long f2), .second, .val (.long l3), .second, .val (.int o1), .val (.int o2), .val (.ref b3), .val (.int (0 : Int32)), .val (.ref b5), .unset] [(.long f1)]))
      refine own_go (fun _ k => XS.lload X6.here hx rfl (hb hby at_221) rfl k) ?_
      show own_Gl p.tables e below F (T6.setTop (mkF m 223 #[.val (.long q1), .second, .val (.long q2), .second, .val (.long q3), .second, .val (.long q4), .second, .val (.int p5), .val (.long f1), .second, .val (.long l1), .second, .val (.int sf), .val (.int sl), .val (.long f2), .second, .val (.long l3), .second, .val (.int o1), .val (.int o2), .val (.ref b3), .val (.int (0 : Int32)), .val (.ref b5), .unset] [(.long f2), (.long f1)]))
      refine own_go (fun _ k => XS.lcmp X6.here hx rfl (hb hby at_223) rfl k) ?_
      show own_Gl p.tables e below F (T6.setTop (mkF m 224 #[.val (.long q1), .second, .val (.long q2), .second, .val (.long q3), .second, .val (.long q4), .second, .val (.int p5), .val (.long f1), .second, .val (.long l1), .second, .val (.int sf), .val (.int sl), .val (.long f2), .second, .val (.long l3), .second, .val (.int o1), .val (.int o2), .val (.ref b3), .val (.int (0 : Int32)), .val (.ref b5), .unset] [(.int (XT.cmpL f1 f2))]))
      have J247 : ∀ (je : Int32), je = own_eq f1 l1 o1 f2 l3 o2 → own_Gl p.tables e below F (T6.setTop (mkF m 247 #[.val (.long q1), .second, .val (.long q2), .second, .val (.long q3), .second, .val (.long q4), .second, .val (.int p5), .val (.long f1), .second, .val (.long l1), .second, .val (.int sf), .val (.int sl), .val (.long f2), .second, .val (.long l3), .second, .val (.int o1), .val (.int o2), .val (.ref b3), .val (.int (0 : Int32)), .val (.ref b5), .unset] [(.int je)])) := by
        intro je hj
        show own_Gl p.tables e below F (T6.setTop (mkF m 247 #[.val (.long q1), .second, .val (.long q2), .second, .val (.long q3), .second, .val (.long q4), .second, .val (.int p5), .val (.long f1), .second, .val (.long l1), .second, .val (.int sf), .val (.int sl), .val (.long f2), .second, .val (.long l3), .second, .val (.int o1), .val (.int o2), .val (.ref b3), .val (.int (0 : Int32)), .val (.ref b5), .unset] [(.int je)]))
        refine own_go (fun _ k => XS.istore X6.here hx rfl (hb hby at_247) rfl (l' := #[.val (.long q1), .second, .val (.long q2), .second, .val (.long q3), .second, .val (.long q4), .second, .val (.int p5), .val (.long f1), .second, .val (.long l1), .second, .val (.int sf), .val (.int sl), .val (.long f2), .second, .val (.long l3), .second, .val (.int o1), .val (.int o2), .val (.ref b3), .val (.int (0 : Int32)), .val (.ref b5), .val (.int je)]) rfl k) ?_
        show own_Gl p.tables e below F (T6.setTop (mkF m 249 #[.val (.long q1), .second, .val (.long q2), .second, .val (.long q3), .second, .val (.long q4), .second, .val (.int p5), .val (.long f1), .second, .val (.long l1), .second, .val (.int sf), .val (.int sl), .val (.long f2), .second, .val (.long l3), .second, .val (.int o1), .val (.int o2), .val (.ref b3), .val (.int (0 : Int32)), .val (.ref b5), .val (.int je)] []))
        refine own_go (fun _ k => XS.aload X6.here hx rfl (hb hby at_249) rfl rfl k) ?_
        show own_Gl p.tables e below F (T6.setTop (mkF m 251 #[.val (.long q1), .second, .val (.long q2), .second, .val (.long q3), .second, .val (.long q4), .second, .val (.int p5), .val (.long f1), .second, .val (.long l1), .second, .val (.int sf), .val (.int sl), .val (.long f2), .second, .val (.long l3), .second, .val (.int o1), .val (.int o2), .val (.ref b3), .val (.int (0 : Int32)), .val (.ref b5), .val (.int je)] [(.ref b3)]))
        refine own_go (fun _ k => XS.aload X6.here hx rfl (hb hby at_251) rfl rfl k) ?_
        show own_Gl p.tables e below F (T6.setTop (mkF m 253 #[.val (.long q1), .second, .val (.long q2), .second, .val (.long q3), .second, .val (.long q4), .second, .val (.int p5), .val (.long f1), .second, .val (.long l1), .second, .val (.int sf), .val (.int sl), .val (.long f2), .second, .val (.long l3), .second, .val (.int o1), .val (.int o2), .val (.ref b3), .val (.int (0 : Int32)), .val (.ref b5), .val (.int je)] [(.ref b5), (.ref b3)]))
        obtain ⟨cq7, kq7, q7a, q7b, q7c⟩ := isOf hZ rfl f6_2
        obtain ⟨_, _, ⟨T7, L7, k7, n7⟩, -, X7, ⟨Lc7, hQ7, l7, y7, z7⟩, st7⟩ := X6.virtualBack hx (y := (⟨"com/example/quorumhelm/quorumhelm/io/JournalSegment", "equals", "(Ljava/lang/Object;)Z"⟩ : MethodName)) (z := (⟨"com/example/quorumhelm/quorumhelm/io/JournalSegment", "equals", "(Ljava/lang/Object;)Z"⟩ : MethodName)) hown (mvT hZ (hw _ (List.mem_of_getElem? (i := 22) rfl))) (mvT hZ (hw _ (List.mem_of_getElem? (i := 23) rfl))) (notFace_of_selects (args := #[]) (mvT hZ (hw _ (List.mem_of_getElem? (i := 25) rfl)))) (mvT hZ (hw _ (List.mem_of_getElem? (i := 25) rfl))) (mvT hZ (hw _ (List.mem_of_getElem? (i := 24) rfl))) (by decide) (backOf (W := 0) (rm5 l Z a0 hw [] b3 b5 f1 l1 o1 f2 l3 o2 T6.heap n0 Z6 G6_E f6_3 f6_4 f6_5 G6_m_nFirstTxId G6_m_nLastTxId G6_m_bOpen) hZ (hw _ (List.mem_of_getElem? (i := 26) rfl)) (hw _ (List.mem_of_getElem? (i := 9) rfl)) (by decide) (by decide)) q7a q7c (g := (mkF m 253 #[.val (.long q1), .second, .val (.long q2), .second, .val (.long q3), .second, .val (.long q4), .second, .val (.int p5), .val (.long f1), .second, .val (.long l1), .second, .val (.int sf), .val (.int sl), .val (.long f2), .second, .val (.long l3), .second, .val (.int o1), .val (.int o2), .val (.ref b3), .val (.int (0 : Int32)), .val (.ref b5), .val (.int je)] [(.ref b5), (.ref b3)])) rfl (by rw [hml]; rfl) (Steps.refl _) (argsL := [(.ref b5)]) (rest := []) (lenOf pd_4 rfl) rfl (by show 2 * 0 + _ ≤ _; exact Nat.le_of_eq rfl) (hb hby at_253) (fun _ _ => ⟨rfl, rfl, (by first | decide | exact Nat.le_of_ble_eq_true rfl), (by first | decide | exact Nat.le_of_ble_eq_true rfl)⟩)
        dsimp only [Pt.U, Pt.locs, Pt.cells, Pt.slots] at X7 l7 y7 z7 st7 hQ7
        subst l7 y7 z7
        obtain ⟨rfl, N7, e7⟩ := hQ7
        have NF7 := Fr.app NF6 N7
        refine own_go (fun _ k => st7.trans k) ?_
        show own_Gl p.tables e below F (T7.setTop (mkF m 256 #[.val (.long q1), .second, .val (.long q2), .second, .val (.long q3), .second, .val (.long q4), .second, .val (.int p5), .val (.long f1), .second, .val (.long l1), .second, .val (.int sf), .val (.int sl), .val (.long f2), .second, .val (.long l3), .second, .val (.int o1), .val (.int o2), .val (.ref b3), .val (.int (0 : Int32)), .val (.ref b5), .val (.int je)] [(.int (own_eq f1 l1 o1 f2 l3 o2))]))
        refine own_go (fun _ k => XS.iload X7.here hx rfl (hb hby at_256) rfl k) ?_
        show own_Gl p.tables e below F (T7.setTop (mkF m 258 #[.val (.long q1), .second, .val (.long q2), .second, .val (.long q3), .second, .val (.long q4), .second, .val (.int p5), .val (.long f1), .second, .val (.long l1), .second, .val (.int sf), .val (.int sl), .val (.long f2), .second, .val (.long l3), .second, .val (.int o1), .val (.int o2), .val (.ref b3), .val (.int (0 : Int32)), .val (.ref b5), .val (.int je)] [(.int je), (.int (own_eq f1 l1 o1 f2 l3 o2))]))
        refine own_go (fun _ k => XS.icmpNo X7.here hx rfl (hb hby at_258) rfl (XT.ii_ne_f hj.symm) k) ?_
        show own_Gl p.tables e below F (T7.setTop (mkF m 261 #[.val (.long q1), .second, .val (.long q2), .second, .val (.long q3), .second, .val (.long q4), .second, .val (.int p5), .val (.long f1), .second, .val (.long l1), .second, .val (.int sf), .val (.int sl), .val (.long f2), .second, .val (.long l3), .second, .val (.int o1), .val (.int o2), .val (.ref b3), .val (.int (0 : Int32)), .val (.ref b5), .val (.int je)] []))
        refine own_go (fun _ k => XS.aload X7.here hx rfl (hb hby at_261) rfl rfl k) ?_
        show own_Gl p.tables e below F (T7.setTop (mkF m 263 #[.val (.long q1), .second, .val (.long q2), .second, .val (.long q3), .second, .val (.long q4), .second, .val (.int p5), .val (.long f1), .second, .val (.long l1), .second, .val (.int sf), .val (.int sl), .val (.long f2), .second, .val (.long l3), .second, .val (.int o1), .val (.int o2), .val (.ref b3), .val (.int (0 : Int32)), .val (.ref b5), .val (.int je)] [(.ref b5)]))
        refine own_go (fun _ k => XS.aload X7.here hx rfl (hb hby at_263) rfl rfl k) ?_
        show own_Gl p.tables e below F (T7.setTop (mkF m 265 #[.val (.long q1), .second, .val (.long q2), .second, .val (.long q3), .second, .val (.long q4), .second, .val (.int p5), .val (.long f1), .second, .val (.long l1), .second, .val (.int sf), .val (.int sl), .val (.long f2), .second, .val (.long l3), .second, .val (.int o1), .val (.int o2), .val (.ref b3), .val (.int (0 : Int32)), .val (.ref b5), .val (.int je)] [(.ref b3), (.ref b5)]))
        obtain ⟨cq8, kq8, q8a, q8b, q8c⟩ := isOf hZ e7 G6_E
        obtain ⟨_, _, ⟨T8, L8, k8, n8⟩, -, X8, ⟨Lc8, hQ8, l8, y8, z8⟩, st8⟩ := X7.virtualBack hx (y := (⟨"com/example/quorumhelm/quorumhelm/io/JournalSegment", "equals", "(Ljava/lang/Object;)Z"⟩ : MethodName)) (z := (⟨"com/example/quorumhelm/quorumhelm/io/JournalSegment", "equals", "(Ljava/lang/Object;)Z"⟩ : MethodName)) hown (mvT hZ (hw _ (List.mem_of_getElem? (i := 22) rfl))) (mvT hZ (hw _ (List.mem_of_getElem? (i := 23) rfl))) (notFace_of_selects (args := #[]) (mvT hZ (hw _ (List.mem_of_getElem? (i := 25) rfl)))) (mvT hZ (hw _ (List.mem_of_getElem? (i := 25) rfl))) (mvT hZ (hw _ (List.mem_of_getElem? (i := 24) rfl))) (by decide) (backOf (W := 0) (rm5 l Z a0 hw [] b5 b3 f2 l3 o2 f1 l1 o1 T6.heap n0 Z6 f6_2 G6_m_nFirstTxId G6_m_nLastTxId G6_m_bOpen f6_3 f6_4 f6_5) hZ (hw _ (List.mem_of_getElem? (i := 26) rfl)) (hw _ (List.mem_of_getElem? (i := 9) rfl)) (by decide) (by decide)) q8a q8c (g := (mkF m 265 #[.val (.long q1), .second, .val (.long q2), .second, .val (.long q3), .second, .val (.long q4), .second, .val (.int p5), .val (.long f1), .second, .val (.long l1), .second, .val (.int sf), .val (.int sl), .val (.long f2), .second, .val (.long l3), .second, .val (.int o1), .val (.int o2), .val (.ref b3), .val (.int (0 : Int32)), .val (.ref b5), .val (.int je)] [(.ref b3), (.ref b5)])) rfl (by rw [hml]; rfl) (Steps.refl _) (argsL := [(.ref b3)]) (rest := []) (lenOf pd_4 rfl) rfl (by show 2 * 0 + _ ≤ _; exact Nat.le_of_eq rfl) (hb hby at_265) (fun _ _ => ⟨rfl, e7, (by first | decide | exact Nat.le_of_ble_eq_true rfl), (by first | decide | exact Nat.le_of_ble_eq_true rfl)⟩)
        dsimp only [Pt.U, Pt.locs, Pt.cells, Pt.slots] at X8 l8 y8 z8 st8 hQ8
        subst l8 y8 z8
        obtain ⟨rfl, N8, e8⟩ := hQ8
        have NF8 := Fr.app NF7 N8
        refine own_go (fun _ k => st8.trans k) ?_
        show own_Gl p.tables e below F (T8.setTop (mkF m 268 #[.val (.long q1), .second, .val (.long q2), .second, .val (.long q3), .second, .val (.long q4), .second, .val (.int p5), .val (.long f1), .second, .val (.long l1), .second, .val (.int sf), .val (.int sl), .val (.long f2), .second, .val (.long l3), .second, .val (.int o1), .val (.int o2), .val (.ref b3), .val (.int (0 : Int32)), .val (.ref b5), .val (.int je)] [(.int (own_eq f2 l3 o2 f1 l1 o1))]))
        refine own_go (fun _ k => XS.iload X8.here hx rfl (hb hby at_268) rfl k) ?_
        show own_Gl p.tables e below F (T8.setTop (mkF m 270 #[.val (.long q1), .second, .val (.long q2), .second, .val (.long q3), .second, .val (.long q4), .second, .val (.int p5), .val (.long f1), .second, .val (.long l1), .second, .val (.int sf), .val (.int sl), .val (.long f2), .second, .val (.long l3), .second, .val (.int o1), .val (.int o2), .val (.ref b3), .val (.int (0 : Int32)), .val (.ref b5), .val (.int je)] [(.int je), (.int (own_eq f2 l3 o2 f1 l1 o1))]))
        refine own_go (fun _ k => XS.icmpNo X8.here hx rfl (hb hby at_270) rfl (XT.ii_ne_f ((own_eq_symm f1 l1 o1 f2 l3 o2).trans hj.symm)) k) ?_
        show own_Gl p.tables e below F (T8.setTop (mkF m 273 #[.val (.long q1), .second, .val (.long q2), .second, .val (.long q3), .second, .val (.long q4), .second, .val (.int p5), .val (.long f1), .second, .val (.long l1), .second, .val (.int sf), .val (.int sl), .val (.long f2), .second, .val (.long l3), .second, .val (.int o1), .val (.int o2), .val (.ref b3), .val (.int (0 : Int32)), .val (.ref b5), .val (.int je)] []))
        refine own_go (fun _ k => XS.iconst X8.here hx rfl (hb hby at_273) k) ?_
        show own_Gl p.tables e below F (T8.setTop (mkF m 274 #[.val (.long q1), .second, .val (.long q2), .second, .val (.long q3), .second, .val (.long q4), .second, .val (.int p5), .val (.long f1), .second, .val (.long l1), .second, .val (.int sf), .val (.int sl), .val (.long f2), .second, .val (.long l3), .second, .val (.int o1), .val (.int o2), .val (.ref b3), .val (.int (0 : Int32)), .val (.ref b5), .val (.int je)] [(.int (1 : Int32))]))
        refine own_go (fun _ k => XS.goto X8.here hx rfl (pc0 := 274) (pc' := 278) rfl (hb hby at_274) (by decide) (by decide) k) ?_
        show own_Gl p.tables e below F (T8.setTop (mkF m 278 #[.val (.long q1), .second, .val (.long q2), .second, .val (.long q3), .second, .val (.long q4), .second, .val (.int p5), .val (.long f1), .second, .val (.long l1), .second, .val (.int sf), .val (.int sl), .val (.long f2), .second, .val (.long l3), .second, .val (.int o1), .val (.int o2), .val (.ref b3), .val (.int (0 : Int32)), .val (.ref b5), .val (.int je)] [(.int (1 : Int32))]))
        obtain ⟨fs, hr, hrun, hended, hW, hsame⟩ := X8.leave (v := some (.int (1 : Int32))) (fun h => by rw [Bd.returns] at h; cases h)
        subst hF
        refine own_fin ?_ ⟨hrun, hended, _, _, rfl, ?_, ⟨_, rfl⟩, hW, hsame.mono (by first | decide | exact Nat.le_of_ble_eq_true rfl) (by first | decide | exact Nat.le_of_ble_eq_true rfl)⟩
        · exact own_retN X8 hx (t := .boolean) Bd.returns (by simp) rfl (hb hby at_278) hr
        · show Q_rm0 Z q1 q2 q3 q4 p5 ca cl h0 n0 _ T8.heap _
          rw [e8]
          exact ⟨rfl, NF8⟩
      show own_Gl p.tables e below F (T6.setTop (mkF m 224 #[.val (.long q1), .second, .val (.long q2), .second, .val (.long q3), .second, .val (.long q4), .second, .val (.int p5), .val (.long f1), .second, .val (.long l1), .second, .val (.int sf), .val (.int sl), .val (.long f2), .second, .val (.long l3), .second, .val (.int o1), .val (.int o2), .val (.ref b3), .val (.int (0 : Int32)), .val (.ref b5), .unset] [(.int (XT.cmpL f1 f2))]))
      by_cases h1 : f1 = f2
      · refine own_go (fun _ k => XS.ifNo X6.here hx rfl (hb hby at_224) rfl (XT.ll_ne_f (by assumption)) k) ?_
        show own_Gl p.tables e below F (T6.setTop (mkF m 227 #[.val (.long q1), .second, .val (.long q2), .second, .val (.long q3), .second, .val (.long q4), .second, .val (.int p5), .val (.long f1), .second, .val (.long l1), .second, .val (.int sf), .val (.int sl), .val (.long f2), .second, .val (.long l3), .second, .val (.int o1), .val (.int o2), .val (.ref b3), .val (.int (0 : Int32)), .val (.ref b5), .unset] []))
        refine own_go (fun _ k => XS.lload X6.here hx rfl (hb hby at_227) rfl k) ?_
        show own_Gl p.tables e below F (T6.setTop (mkF m 229 #[.val (.long q1), .second, .val (.long q2), .second, .val (.long q3), .second, .val (.long q4), .second, .val (.int p5), .val (.long f1), .second, .val (.long l1), .second, .val (.int sf), .val (.int sl), .val (.long f2), .second, .val (.long l3), .second, .val (.int o1), .val (.int o2), .val (.ref b3), .val (.int (0 : Int32)), .val (.ref b5), .unset] [(.long l1)]))
        refine own_go (fun _ k => XS.lload X6.here hx rfl (hb hby at_229) rfl k) ?_
        show own_Gl p.tables e below F (T6.setTop (mkF m 231 #[.val (.long q1), .second, .val (.long q2), .second, .val (.long q3), .second, .val (.long q4), .second, .val (.int p5), .val (.long f1), .second, .val (.long l1), .second, .val (.int sf), .val (.int sl), .val (.long f2), .second, .val (.long l3), .second, .val (.int o1), .val (.int o2), .val (.ref b3), .val (.int (0 : Int32)), .val (.ref b5), .unset] [(.long l3), (.long l1)]))
        refine own_go (fun _ k => XS.lcmp X6.here hx rfl (hb hby at_231) rfl k) ?_
        show own_Gl p.tables e below F (T6.setTop (mkF m 232 #[.val (.long q1), .second, .val (.long q2), .second, .val (.long q3), .second, .val (.long q4), .second, .val (.int p5), .val (.long f1), .second, .val (.long l1), .second, .val (.int sf), .val (.int sl), .val (.long f2), .second, .val (.long l3), .second, .val (.int o1), .val (.int o2), .val (.ref b3), .val (.int (0 : Int32)), .val (.ref b5), .unset] [(.int (XT.cmpL l1 l3))]))
        by_cases h2 : l1 = l3
        · refine own_go (fun _ k => XS.ifNo X6.here hx rfl (hb hby at_232) rfl (XT.ll_ne_f (by assumption)) k) ?_
          show own_Gl p.tables e below F (T6.setTop (mkF m 235 #[.val (.long q1), .second, .val (.long q2), .second, .val (.long q3), .second, .val (.long q4), .second, .val (.int p5), .val (.long f1), .second, .val (.long l1), .second, .val (.int sf), .val (.int sl), .val (.long f2), .second, .val (.long l3), .second, .val (.int o1), .val (.int o2), .val (.ref b3), .val (.int (0 : Int32)), .val (.ref b5), .unset] []))
          refine own_go (fun _ k => XS.iload X6.here hx rfl (hb hby at_235) rfl k) ?_
          show own_Gl p.tables e below F (T6.setTop (mkF m 237 #[.val (.long q1), .second, .val (.long q2), .second, .val (.long q3), .second, .val (.long q4), .second, .val (.int p5), .val (.long f1), .second, .val (.long l1), .second, .val (.int sf), .val (.int sl), .val (.long f2), .second, .val (.long l3), .second, .val (.int o1), .val (.int o2), .val (.ref b3), .val (.int (0 : Int32)), .val (.ref b5), .unset] [(.int o1)]))
          refine own_go (fun _ k => XS.iload X6.here hx rfl (hb hby at_237) rfl k) ?_
          show own_Gl p.tables e below F (T6.setTop (mkF m 239 #[.val (.long q1), .second, .val (.long q2), .second, .val (.long q3), .second, .val (.long q4), .second, .val (.int p5), .val (.long f1), .second, .val (.long l1), .second, .val (.int sf), .val (.int sl), .val (.long f2), .second, .val (.long l3), .second, .val (.int o1), .val (.int o2), .val (.ref b3), .val (.int (0 : Int32)), .val (.ref b5), .unset] [(.int o2), (.int o1)]))
          by_cases h3 : o1 = o2
          · refine own_go (fun _ k => XS.icmpNo X6.here hx rfl (hb hby at_239) rfl (XT.ii_ne_f (by assumption)) k) ?_
            show own_Gl p.tables e below F (T6.setTop (mkF m 242 #[.val (.long q1), .second, .val (.long q2), .second, .val (.long q3), .second, .val (.long q4), .second, .val (.int p5), .val (.long f1), .second, .val (.long l1), .second, .val (.int sf), .val (.int sl), .val (.long f2), .second, .val (.long l3), .second, .val (.int o1), .val (.int o2), .val (.ref b3), .val (.int (0 : Int32)), .val (.ref b5), .unset] []))
            refine own_go (fun _ k => XS.iconst X6.here hx rfl (hb hby at_242) k) ?_
            show own_Gl p.tables e below F (T6.setTop (mkF m 243 #[.val (.long q1), .second, .val (.long q2), .second, .val (.long q3), .second, .val (.long q4), .second, .val (.int p5), .val (.long f1), .second, .val (.long l1), .second, .val (.int sf), .val (.int sl), .val (.long f2), .second, .val (.long l3), .second, .val (.int o1), .val (.int o2), .val (.ref b3), .val (.int (0 : Int32)), .val (.ref b5), .unset] [(.int (1 : Int32))]))
            refine own_go (fun _ k => XS.goto X6.here hx rfl (pc0 := 243) (pc' := 247) rfl (hb hby at_243) (by decide) (by decide) k) ?_
            show own_Gl p.tables e below F (T6.setTop (mkF m 247 #[.val (.long q1), .second, .val (.long q2), .second, .val (.long q3), .second, .val (.long q4), .second, .val (.int p5), .val (.long f1), .second, .val (.long l1), .second, .val (.int sf), .val (.int sl), .val (.long f2), .second, .val (.long l3), .second, .val (.int o1), .val (.int o2), .val (.ref b3), .val (.int (0 : Int32)), .val (.ref b5), .unset] [(.int (1 : Int32))]))
            exact J247 _ (by rw [own_eq, if_pos h1, if_pos h2, if_pos h3])
          · refine own_go (fun _ k => XS.icmpYes X6.here hx rfl (pc0 := 239) (pc' := 246) rfl (hb hby at_239) rfl (XT.ii_ne_t (by assumption)) (by decide) (by decide) k) ?_
            show own_Gl p.tables e below F (T6.setTop (mkF m 246 #[.val (.long q1), .second, .val (.long q2), .second, .val (.long q3), .second, .val (.long q4), .second, .val (.int p5), .val (.long f1), .second, .val (.long l1), .second, .val (.int sf), .val (.int sl), .val (.long f2), .second, .val (.long l3), .second, .val (.int o1), .val (.int o2), .val (.ref b3), .val (.int (0 : Int32)), .val (.ref b5), .unset] []))
            refine own_go (fun _ k => XS.iconst X6.here hx rfl (hb hby at_246) k) ?_
            show own_Gl p.tables e below F (T6.setTop (mkF m 247 #[.val (.long q1), .second, .val (.long q2), .second, .val (.long q3), .second, .val (.long q4), .second, .val (.int p5), .val (.long f1), .second, .val (.long l1), .second, .val (.int sf), .val (.int sl), .val (.long f2), .second, .val (.long l3), .second, .val (.int o1), .val (.int o2), .val (.ref b3), .val (.int (0 : Int32)), .val (.ref b5), .unset] [(.int (0 : Int32))]))
            exact J247 _ (by rw [own_eq, if_pos h1, if_pos h2, if_neg h3])
        · refine own_go (fun _ k => XS.ifYes X6.here hx rfl (pc0 := 232) (pc' := 246) rfl (hb hby at_232) rfl (XT.ll_ne_t (by assumption)) (by decide) (by decide) k) ?_
          show own_Gl p.tables e below F (T6.setTop (mkF m 246 #[.val (.long q1), .second, .val (.long q2), .second, .val (.long q3), .second, .val (.long q4), .second, .val (.int p5), .val (.long f1), .second, .val (.long l1), .second, .val (.int sf), .val (.int sl), .val (.long f2), .second, .val (.long l3), .second, .val (.int o1), .val (.int o2), .val (.ref b3), .val (.int (0 : Int32)), .val (.ref b5), .unset] []))
          refine own_go (fun _ k => XS.iconst X6.here hx rfl (hb hby at_246) k) ?_
          show own_Gl p.tables e below F (T6.setTop (mkF m 247 #[.val (.long q1), .second, .val (.long q2), .second, .val (.long q3), .second, .val (.long q4), .second, .val (.int p5), .val (.long f1), .second, .val (.long l1), .second, .val (.int sf), .val (.int sl), .val (.long f2), .second, .val (.long l3), .second, .val (.int o1), .val (.int o2), .val (.ref b3), .val (.int (0 : Int32)), .val (.ref b5), .unset] [(.int (0 : Int32))]))
          exact J247 _ (by rw [own_eq, if_pos h1, if_neg h2])
      · refine own_go (fun _ k => XS.ifYes X6.here hx rfl (pc0 := 224) (pc' := 246) rfl (hb hby at_224) rfl (XT.ll_ne_t (by assumption)) (by decide) (by decide) k) ?_
        show own_Gl p.tables e below F (T6.setTop (mkF m 246 #[.val (.long q1), .second, .val (.long q2), .second, .val (.long q3), .second, .val (.long q4), .second, .val (.int p5), .val (.long f1), .second, .val (.long l1), .second, .val (.int sf), .val (.int sl), .val (.long f2), .second, .val (.long l3), .second, .val (.int o1), .val (.int o2), .val (.ref b3), .val (.int (0 : Int32)), .val (.ref b5), .unset] []))
        refine own_go (fun _ k => XS.iconst X6.here hx rfl (hb hby at_246) k) ?_
        show own_Gl p.tables e below F (T6.setTop (mkF m 247 #[.val (.long q1), .second, .val (.long q2), .second, .val (.long q3), .second, .val (.long q4), .second, .val (.int p5), .val (.long f1), .second, .val (.long l1), .second, .val (.int sf), .val (.int sl), .val (.long f2), .second, .val (.long l3), .second, .val (.int o1), .val (.int o2), .val (.ref b3), .val (.int (0 : Int32)), .val (.ref b5), .unset] [(.int (0 : Int32))]))
        exact J247 _ (by rw [own_eq, if_neg h1])
    · show own_Gl p.tables e below F (T4.setTop (mkF m 144 #[.val (.long q1), .second, .val (.long q2), .second, .val (.long q3), .second, .val (.long q4), .second, .val (.int p5), .val (.long f1), .second, .val (.long l1), .second, .val (.int sf), .val (.int sl), .val (.long f2), .second, .val (.long l3), .second, .val (.int o1), .val (.int o2), .val (.ref b3), .val (.int (1 : Int32)), .unset, .unset] []))
      refine own_go (fun _ k => XS.iload X4.here hx rfl (hb hby at_144) rfl k) ?_
      show own_Gl p.tables e below F (T4.setTop (mkF m 146 #[.val (.long q1), .second, .val (.long q2), .second, .val (.long q3), .second, .val (.long q4), .second, .val (.int p5), .val (.long f1), .second, .val (.long l1), .second, .val (.int sf), .val (.int sl), .val (.long f2), .second, .val (.long l3), .second, .val (.int o1), .val (.int o2), .val (.ref b3), .val (.int (1 : Int32)), .unset, .unset] [(.int (1 : Int32))]))
      refine own_go (fun _ k => XS.iconst X4.here hx rfl (hb hby at_146) k) ?_
      show own_Gl p.tables e below F (T4.setTop (mkF m 147 #[.val (.long q1), .second, .val (.long q2), .second, .val (.long q3), .second, .val (.long q4), .second, .val (.int p5), .val (.long f1), .second, .val (.long l1), .second, .val (.int sf), .val (.int sl), .val (.long f2), .second, .val (.long l3), .second, .val (.int o1), .val (.int o2), .val (.ref b3), .val (.int (1 : Int32)), .unset, .unset] [(.int (1 : Int32)), (.int (1 : Int32))]))
      refine own_go (fun _ k => XS.icmpNo X4.here hx rfl (hb hby at_147) rfl (XT.ii_ne_f rfl) k) ?_
      show own_Gl p.tables e below F (T4.setTop (mkF m 150 #[.val (.long q1), .second, .val (.long q2), .second, .val (.long q3), .second, .val (.long q4), .second, .val (.int p5), .val (.long f1), .second, .val (.long l1), .second, .val (.int sf), .val (.int sl), .val (.long f2), .second, .val (.long l3), .second, .val (.int o1), .val (.int o2), .val (.ref b3), .val (.int (1 : Int32)), .unset, .unset] []))
      refine own_go (fun _ k => XS.aload X4.here hx rfl (hb hby at_150) rfl rfl k) ?_
      show own_Gl p.tables e below F (T4.setTop (mkF m 152 #[.val (.long q1), .second, .val (.long q2), .second, .val (.long q3), .second, .val (.long q4), .second, .val (.int p5), .val (.long f1), .second, .val (.long l1), .second, .val (.int sf), .val (.int sl), .val (.long f2), .second, .val (.long l3), .second, .val (.int o1), .val (.int o2), .val (.ref b3), .val (.int (1 : Int32)), .unset, .unset] [(.ref b3)]))
      refine own_go (fun _ k => XS.aconstNull X4.here hx rfl (hb hby at_152) k) ?_
      show own_Gl p.tables e below F (T4.setTop (mkF m 153 #[.val (.long q1), .second, .val (.long q2), .second, .val (.long q3), .second, .val (.long q4), .second, .val (.int p5), .val (.long f1), .second, .val (.long l1), .second, .val (.int sf), .val (.int sl), .val (.long f2), .second, .val (.long l3), .second, .val (.int o1), .val (.int o2), .val (.ref b3), .val (.int (1 : Int32)), .unset, .unset] [.null, (.ref b3)]))
      obtain ⟨cq9, kq9, q9a, q9b, q9c⟩ := isOf hZ rfl G4_E
      obtain ⟨_, _, ⟨T9, L9, k9, n9⟩, -, X9, ⟨Lc9, hQ9, l9, y9, z9⟩, st9⟩ := X4.virtualBack hx (y := (⟨"com/example/quorumhelm/quorumhelm/io/JournalSegment", "equals", "(Ljava/lang/Object;)Z"⟩ : MethodName)) (z := (⟨"com/example/quorumhelm/quorumhelm/io/JournalSegment", "equals", "(Ljava/lang/Object;)Z"⟩ : MethodName)) hown (mvT hZ (hw _ (List.mem_of_getElem? (i := 22) rfl))) (mvT hZ (hw _ (List.mem_of_getElem? (i := 23) rfl))) (notFace_of_selects (args := #[]) (mvT hZ (hw _ (List.mem_of_getElem? (i := 25) rfl)))) (mvT hZ (hw _ (List.mem_of_getElem? (i := 25) rfl))) (mvT hZ (hw _ (List.mem_of_getElem? (i := 24) rfl))) (by decide) (backOf (W := 0) (rm5n l Z a0 hw [] b3  T4.heap n0 Z4 ) hZ (hw _ (List.mem_of_getElem? (i := 26) rfl)) (hw _ (List.mem_of_getElem? (i := 9) rfl)) (by decide) (by decide)) q9a q9c (g := (mkF m 153 #[.val (.long q1), .second, .val (.long q2), .second, .val (.long q3), .second, .val (.long q4), .second, .val (.int p5), .val (.long f1), .second, .val (.long l1), .second, .val (.int sf), .val (.int sl), .val (.long f2), .second, .val (.long l3), .second, .val (.int o1), .val (.int o2), .val (.ref b3), .val (.int (1 : Int32)), .unset, .unset] [.null, (.ref b3)])) rfl (by rw [hml]; rfl) (Steps.refl _) (argsL := [.null]) (rest := []) (lenOf pd_4 rfl) rfl (by show 2 * 0 + _ ≤ _; exact Nat.le_of_eq rfl) (hb hby at_153) (fun _ _ => ⟨rfl, rfl, (by first | decide | exact Nat.le_of_ble_eq_true rfl), (by first | decide | exact Nat.le_of_ble_eq_true rfl)⟩)
      dsimp only [Pt.U, Pt.locs, Pt.cells, Pt.slots] at X9 l9 y9 z9 st9 hQ9
      subst l9 y9 z9
      obtain ⟨rfl, N9, e9⟩ := hQ9
      have NF9 := Fr.app NF4 N9
      refine own_go (fun _ k => st9.trans k) ?_
      show own_Gl p.tables e below F (T9.setTop (mkF m 156 #[.val (.long q1), .second, .val (.long q2), .second, .val (.long q3), .second, .val (.long q4), .second, .val (.int p5), .val (.long f1), .second, .val (.long l1), .second, .val (.int sf), .val (.int sl), .val (.long f2), .second, .val (.long l3), .second, .val (.int o1), .val (.int o2), .val (.ref b3), .val (.int (1 : Int32)), .unset, .unset] [(.int (0 : Int32))]))
      refine own_go (fun _ k => XS.ifNo X9.here hx rfl (hb hby at_156) rfl (XT.i0_ne_f rfl) k) ?_
      show own_Gl p.tables e below F (T9.setTop (mkF m 159 #[.val (.long q1), .second, .val (.long q2), .second, .val (.long q3), .second, .val (.long q4), .second, .val (.int p5), .val (.long f1), .second, .val (.long l1), .second, .val (.int sf), .val (.int sl), .val (.long f2), .second, .val (.long l3), .second, .val (.int o1), .val (.int o2), .val (.ref b3), .val (.int (1 : Int32)), .unset, .unset] []))
      refine own_go (fun _ k => XS.iconst X9.here hx rfl (hb hby at_159) k) ?_
      show own_Gl p.tables e below F (T9.setTop (mkF m 160 #[.val (.long q1), .second, .val (.long q2), .second, .val (.long q3), .second, .val (.long q4), .second, .val (.int p5), .val (.long f1), .second, .val (.long l1), .second, .val (.int sf), .val (.int sl), .val (.long f2), .second, .val (.long l3), .second, .val (.int o1), .val (.int o2), .val (.ref b3), .val (.int (1 : Int32)), .unset, .unset] [(.int (1 : Int32))]))
      refine own_go (fun _ k => XS.goto X9.here hx rfl (pc0 := 160) (pc' := 164) rfl (hb hby at_160) (by decide) (by decide) k) ?_
      show own_Gl p.tables e below F (T9.setTop (mkF m 164 #[.val (.long q1), .second, .val (.long q2), .second, .val (.long q3), .second, .val (.long q4), .second, .val (.int p5), .val (.long f1), .second, .val (.long l1), .second, .val (.int sf), .val (.int sl), .val (.long f2), .second, .val (.long l3), .second, .val (.int o1), .val (.int o2), .val (.ref b3), .val (.int (1 : Int32)), .unset, .unset] [(.int (1 : Int32))]))
      obtain ⟨fs, hr, hrun, hended, hW, hsame⟩ := X9.leave (v := some (.int (1 : Int32))) (fun h => by rw [Bd.returns] at h; cases h)
      subst hF
      refine own_fin ?_ ⟨hrun, hended, _, _, rfl, ?_, ⟨_, rfl⟩, hW, hsame.mono (by first | decide | exact Nat.le_of_ble_eq_true rfl) (by first | decide | exact Nat.le_of_ble_eq_true rfl)⟩
      · exact own_retN X9 hx (t := .boolean) Bd.returns (by simp) rfl (hb hby at_164) hr
      · show Q_rm0 Z q1 q2 q3 q4 p5 ca cl h0 n0 _ T9.heap _
        rw [e9]
        exact ⟨rfl, NF9⟩
    · show own_Gl p.tables e below F (T4.setTop (mkF m 144 #[.val (.long q1), .second, .val (.long q2), .second, .val (.long q3), .second, .val (.long q4), .second, .val (.int p5), .val (.long f1), .second, .val (.long l1), .second, .val (.int sf), .val (.int sl), .val (.long f2), .second, .val (.long l3), .second, .val (.int o1), .val (.int o2), .val (.ref b3), .val (.int (2 : Int32)), .unset, .unset] []))
      refine own_go (fun _ k => XS.iload X4.here hx rfl (hb hby at_144) rfl k) ?_
      show own_Gl p.tables e below F (T4.setTop (mkF m 146 #[.val (.long q1), .second, .val (.long q2), .second, .val (.long q3), .second, .val (.long q4), .second, .val (.int p5), .val (.long f1), .second, .val (.long l1), .second, .val (.int sf), .val (.int sl), .val (.long f2), .second, .val (.long l3), .second, .val (.int o1), .val (.int o2), .val (.ref b3), .val (.int (2 : Int32)), .unset, .unset] [(.int (2 : Int32))]))
      refine own_go (fun _ k => XS.iconst X4.here hx rfl (hb hby at_146) k) ?_
      show own_Gl p.tables e below F (T4.setTop (mkF m 147 #[.val (.long q1), .second, .val (.long q2), .second, .val (.long q3), .second, .val (.long q4), .second, .val (.int p5), .val (.long f1), .second, .val (.long l1), .second, .val (.int sf), .val (.int sl), .val (.long f2), .second, .val (.long l3), .second, .val (.int o1), .val (.int o2), .val (.ref b3), .val (.int (2 : Int32)), .unset, .unset] [(.int (1 : Int32)), (.int (2 : Int32))]))
      refine own_go (fun _ k => XS.icmpYes X4.here hx rfl (pc0 := 147) (pc' := 165) rfl (hb hby at_147) rfl (XT.ii_ne_t (by decide)) (by decide) (by decide) k) ?_
      show own_Gl p.tables e below F (T4.setTop (mkF m 165 #[.val (.long q1), .second, .val (.long q2), .second, .val (.long q3), .second, .val (.long q4), .second, .val (.int p5), .val (.long f1), .second, .val (.long l1), .second, .val (.int sf), .val (.int sl), .val (.long f2), .second, .val (.long l3), .second, .val (.int o1), .val (.int o2), .val (.ref b3), .val (.int (2 : Int32)), .unset, .unset] []))
      refine own_go (fun _ k => XS.iload X4.here hx rfl (hb hby at_165) rfl k) ?_
      show own_Gl p.tables e below F (T4.setTop (mkF m 167 #[.val (.long q1), .second, .val (.long q2), .second, .val (.long q3), .second, .val (.long q4), .second, .val (.int p5), .val (.long f1), .second, .val (.long l1), .second, .val (.int sf), .val (.int sl), .val (.long f2), .second, .val (.long l3), .second, .val (.int o1), .val (.int o2), .val (.ref b3), .val (.int (2 : Int32)), .unset, .unset] [(.int (2 : Int32))]))
      refine own_go (fun _ k => XS.iconst X4.here hx rfl (hb hby at_167) k) ?_
      show own_Gl p.tables e below F (T4.setTop (mkF m 168 #[.val (.long q1), .second, .val (.long q2), .second, .val (.long q3), .second, .val (.long q4), .second, .val (.int p5), .val (.long f1), .second, .val (.long l1), .second, .val (.int sf), .val (.int sl), .val (.long f2), .second, .val (.long l3), .second, .val (.int o1), .val (.int o2), .val (.ref b3), .val (.int (2 : Int32)), .unset, .unset] [(.int (2 : Int32)), (.int (2 : Int32))]))
      refine own_go (fun _ k => XS.icmpNo X4.here hx rfl (hb hby at_168) rfl (XT.ii_ne_f rfl) k) ?_
      show own_Gl p.tables e below F (T4.setTop (mkF m 171 #[.val (.long q1), .second, .val (.long q2), .second, .val (.long q3), .second, .val (.long q4), .second, .val (.int p5), .val (.long f1), .second, .val (.long l1), .second, .val (.int sf), .val (.int sl), .val (.long f2), .second, .val (.long l3), .second, .val (.int o1), .val (.int o2), .val (.ref b3), .val (.int (2 : Int32)), .unset, .unset] []))
      refine own_go (fun _ k => XS.aload X4.here hx rfl (hb hby at_171) rfl rfl k) ?_
      show own_Gl p.tables e below F (T4.setTop (mkF m 173 #[.val (.long q1), .second, .val (.long q2), .second, .val (.long q3), .second, .val (.long q4), .second, .val (.int p5), .val (.long f1), .second, .val (.long l1), .second, .val (.int sf), .val (.int sl), .val (.long f2), .second, .val (.long l3), .second, .val (.int o1), .val (.int o2), .val (.ref b3), .val (.int (2 : Int32)), .unset, .unset] [(.ref b3)]))
      refine own_go (fun _ k => XS.lload X4.here hx rfl (hb hby at_173) rfl k) ?_
      show own_Gl p.tables e below F (T4.setTop (mkF m 175 #[.val (.long q1), .second, .val (.long q2), .second, .val (.long q3), .second, .val (.long q4), .second, .val (.int p5), .val (.long f1), .second, .val (.long l1), .second, .val (.int sf), .val (.int sl), .val (.long f2), .second, .val (.long l3), .second, .val (.int o1), .val (.int o2), .val (.ref b3), .val (.int (2 : Int32)), .unset, .unset] [(.long f1), (.ref b3)]))
      obtain ⟨_, _, ⟨T10, L10, k10, n10⟩, -, X10, ⟨Lc10, hQ10, l10, y10, z10⟩, st10⟩ := Jvm.LawKit.callS X4 hx (y := (⟨"java/lang/Long", "valueOf", "(J)Ljava/lang/Long;"⟩ : MethodName)) hown (mvT hZ (hw _ (List.mem_of_getElem? (i := 29) rfl))) (mvT hZ (hw _ (List.mem_of_getElem? (i := 30) rfl))) (mvT hZ (hw _ (List.mem_of_getElem? (i := 31) rfl))) (mvT hZ (hw _ (List.mem_of_getElem? (i := 32) rfl))) (by decide) (backOf (W := 1) (rm6 l Z a0 hw [] f1 ca cl T4.heap n0 Z4 f4_1 S0 B0) hZ (hw _ (List.mem_of_getElem? (i := 32) rfl)) (hw _ (List.mem_of_getElem? (i := 31) rfl)) (by decide) (by decide)) (g := (mkF m 175 #[.val (.long q1), .second, .val (.long q2), .second, .val (.long q3), .second, .val (.long q4), .second, .val (.int p5), .val (.long f1), .second, .val (.long l1), .second, .val (.int sf), .val (.int sl), .val (.long f2), .second, .val (.long l3), .second, .val (.int o1), .val (.int o2), .val (.ref b3), .val (.int (2 : Int32)), .unset, .unset] [(.long f1), (.ref b3)])) rfl (by rw [hml]; rfl) (argsL := [(.long f1)]) (rest := [(.ref b3)]) (lenOf pd_5 rfl) rfl (by show 2 * 0 + _ ≤ _; exact Nat.le_of_eq rfl) (hb hby at_175) (fun _ _ => ⟨rfl, rfl, (by first | decide | exact Nat.le_of_ble_eq_true rfl), (by first | decide | exact Nat.le_of_ble_eq_true rfl)⟩)
      dsimp only [Pt.U, Pt.locs, Pt.cells, Pt.slots] at X10 l10 y10 z10 st10 hQ10
      subst l10 y10 z10
      obtain ⟨bx10, rfl, N10, K10, EX10⟩ := hQ10
      have NF10 := Fr.app NF4 N10
      have f10_1 := f4_1.keep K10 (all0)
      have f10_2 := G4_E.keep K10
      have f10_3 := G4_m_nFirstTxId.keep K10 nin0
      have f10_4 := G4_m_nLastTxId.keep K10 nin0
      have f10_5 := G4_m_bOpen.keep K10 nin0
      have Z10 : n0 ≤ T10.heap.size := Nat.le_trans Z4 K10.1
      have KK10 := Keep.trans KK4 K10 (fun _ q => nomatch q)
      refine own_go st10 ?_
      show own_Gl p.tables e below F (T10.setTop (mkF m 178 #[.val (.long q1), .second, .val (.long q2), .second, .val (.long q3), .second, .val (.long q4), .second, .val (.int p5), .val (.long f1), .second, .val (.long l1), .second, .val (.int sf), .val (.int sl), .val (.long f2), .second, .val (.long l3), .second, .val (.int o1), .val (.int o2), .val (.ref b3), .val (.int (2 : Int32)), .unset, .unset] [(.ref bx10), (.ref b3)]))
      obtain ⟨cq11, kq11, q11a, q11b, q11c⟩ := isOf hZ rfl f10_2
      obtain ⟨_, _, ⟨T11, L11, k11, n11⟩, -, X11, ⟨Lc11, hQ11, l11, y11, z11⟩, st11⟩ := X10.virtualBack hx (y := (⟨"com/example/quorumhelm/quorumhelm/io/JournalSegment", "equals", "(Ljava/lang/Object;)Z"⟩ : MethodName)) (z := (⟨"com/example/quorumhelm/quorumhelm/io/JournalSegment", "equals", "(Ljava/lang/Object;)Z"⟩ : MethodName)) hown (mvT hZ (hw _ (List.mem_of_getElem? (i := 22) rfl))) (mvT hZ (hw _ (List.mem_of_getElem? (i := 23) rfl))) (notFace_of_selects (args := #[]) (mvT hZ (hw _ (List.mem_of_getElem? (i := 25) rfl)))) (mvT hZ (hw _ (List.mem_of_getElem? (i := 25) rfl))) (mvT hZ (hw _ (List.mem_of_getElem? (i := 24) rfl))) (by decide) (backOf (W := 0) (rm5o l Z a0 hw [] b3 bx10  T10.heap n0 Z10 EX10) hZ (hw _ (List.mem_of_getElem? (i := 26) rfl)) (hw _ (List.mem_of_getElem? (i := 9) rfl)) (by decide) (by decide)) q11a q11c (g := (mkF m 178 #[.val (.long q1), .second, .val (.long q2), .second, .val (.long q3), .second, .val (.long q4), .second, .val (.int p5), .val (.long f1), .second, .val (.long l1), .second, .val (.int sf), .val (.int sl), .val (.long f2), .second, .val (.long l3), .second, .val (.int o1), .val (.int o2), .val (.ref b3), .val (.int (2 : Int32)), .unset, .unset] [(.ref bx10), (.ref b3)])) rfl (by rw [hml]; rfl) (Steps.refl _) (argsL := [(.ref bx10)]) (rest := []) (lenOf pd_4 rfl) rfl (by show 2 * 0 + _ ≤ _; exact Nat.le_of_eq rfl) (hb hby at_178) (fun _ _ => ⟨rfl, rfl, (by first | decide | exact Nat.le_of_ble_eq_true rfl), (by first | decide | exact Nat.le_of_ble_eq_true rfl)⟩)
      dsimp only [Pt.U, Pt.locs, Pt.cells, Pt.slots] at X11 l11 y11 z11 st11 hQ11
      subst l11 y11 z11
      obtain ⟨rfl, N11, e11⟩ := hQ11
      have NF11 := Fr.app NF10 N11
      refine own_go (fun _ k => st11.trans k) ?_
      show own_Gl p.tables e below F (T11.setTop (mkF m 181 #[.val (.long q1), .second, .val (.long q2), .second, .val (.long q3), .second, .val (.long q4), .second, .val (.int p5), .val (.long f1), .second, .val (.long l1), .second, .val (.int sf), .val (.int sl), .val (.long f2), .second, .val (.long l3), .second, .val (.int o1), .val (.int o2), .val (.ref b3), .val (.int (2 : Int32)), .unset, .unset] [(.int (0 : Int32))]))
      refine own_go (fun _ k => XS.ifNo X11.here hx rfl (hb hby at_181) rfl (XT.i0_ne_f rfl) k) ?_
      show own_Gl p.tables e below F (T11.setTop (mkF m 184 #[.val (.long q1), .second, .val (.long q2), .second, .val (.long q3), .second, .val (.long q4), .second, .val (.int p5), .val (.long f1), .second, .val (.long l1), .second, .val (.int sf), .val (.int sl), .val (.long f2), .second, .val (.long l3), .second, .val (.int o1), .val (.int o2), .val (.ref b3), .val (.int (2 : Int32)), .unset, .unset] []))
      refine own_go (fun _ k => XS.iconst X11.here hx rfl (hb hby at_184) k) ?_
      show own_Gl p.tables e below F (T11.setTop (mkF m 185 #[.val (.long q1), .second, .val (.long q2), .second, .val (.long q3), .second, .val (.long q4), .second, .val (.int p5), .val (.long f1), .second, .val (.long l1), .second, .val (.int sf), .val (.int sl), .val (.long f2), .second, .val (.long l3), .second, .val (.int o1), .val (.int o2), .val (.ref b3), .val (.int (2 : Int32)), .unset, .unset] [(.int (1 : Int32))]))
      refine own_go (fun _ k => XS.goto X11.here hx rfl (pc0 := 185) (pc' := 189) rfl (hb hby at_185) (by decide) (by decide) k) ?_
      show own_Gl p.tables e below F (T11.setTop (mkF m 189 #[.val (.long q1), .second, .val (.long q2), .second, .val (.long q3), .second, .val (.long q4), .second, .val (.int p5), .val (.long f1), .second, .val (.long l1), .second, .val (.int sf), .val (.int sl), .val (.long f2), .second, .val (.long l3), .second, .val (.int o1), .val (.int o2), .val (.ref b3), .val (.int (2 : Int32)), .unset, .unset] [(.int (1 : Int32))]))
      obtain ⟨fs, hr, hrun, hended, hW, hsame⟩ := X11.leave (v := some (.int (1 : Int32))) (fun h => by rw [Bd.returns] at h; cases h)
      subst hF
      refine own_fin ?_ ⟨hrun, hended, _, _, rfl, ?_, ⟨_, rfl⟩, hW, hsame.mono (by first | decide | exact Nat.le_of_ble_eq_true rfl) (by first | decide | exact Nat.le_of_ble_eq_true rfl)⟩
      · exact own_retN X11 hx (t := .boolean) Bd.returns (by simp) rfl (hb hby at_189) hr
      · show Q_rm0 Z q1 q2 q3 q4 p5 ca cl h0 n0 _ T11.heap _
        rw [e11]
        exact ⟨rfl, NF11⟩
    · show own_Gl p.tables e below F (T4.setTop (mkF m 144 #[.val (.long q1), .second, .val (.long q2), .second, .val (.long q3), .second, .val (.long q4), .second, .val (.int p5), .val (.long f1), .second, .val (.long l1), .second, .val (.int sf), .val (.int sl), .val (.long f2), .second, .val (.long l3), .second, .val (.int o1), .val (.int o2), .val (.ref b3), .val (.int (3 : Int32)), .unset, .unset] []))
      refine own_go (fun _ k => XS.iload X4.here hx rfl (hb hby at_144) rfl k) ?_
      show own_Gl p.tables e below F (T4.setTop (mkF m 146 #[.val (.long q1), .second, .val (.long q2), .second, .val (.long q3), .second, .val (.long q4), .second, .val (.int p5), .val (.long f1), .second, .val (.long l1), .second, .val (.int sf), .val (.int sl), .val (.long f2), .second, .val (.long l3), .second, .val (.int o1), .val (.int o2), .val (.ref b3), .val (.int (3 : Int32)), .unset, .unset] [(.int (3 : Int32))]))
      refine own_go (fun _ k => XS.iconst X4.here hx rfl (hb hby at_146) k) ?_
      show own_Gl p.tables e below F (T4.setTop (mkF m 147 #[.val (.long q1), .second, .val (.long q2), .second, .val (.long q3), .second, .val (.long q4), .second, .val (.int p5), .val (.long f1), .second, .val (.long l1), .second, .val (.int sf), .val (.int sl), .val (.long f2), .second, .val (.long l3), .second, .val (.int o1), .val (.int o2), .val (.ref b3), .val (.int (3 : Int32)), .unset, .unset] [(.int (1 : Int32)), (.int (3 : Int32))]))
      refine own_go (fun _ k => XS.icmpYes X4.here hx rfl (pc0 := 147) (pc' := 165) rfl (hb hby at_147) rfl (XT.ii_ne_t (by decide)) (by decide) (by decide) k) ?_
      show own_Gl p.tables e below F (T4.setTop (mkF m 165 #[.val (.long q1), .second, .val (.long q2), .second, .val (.long q3), .second, .val (.long q4), .second, .val (.int p5), .val (.long f1), .second, .val (.long l1), .second, .val (.int sf), .val (.int sl), .val (.long f2), .second, .val (.long l3), .second, .val (.int o1), .val (.int o2), .val (.ref b3), .val (.int (3 : Int32)), .unset, .unset] []))
      refine own_go (fun _ k => XS.iload X4.here hx rfl (hb hby at_165) rfl k) ?_
      show own_Gl p.tables e below F (T4.setTop (mkF m 167 #[.val (.long q1), .second, .val (.long q2), .second, .val (.long q3), .second, .val (.long q4), .second, .val (.int p5), .val (.long f1), .second, .val (.long l1), .second, .val (.int sf), .val (.int sl), .val (.long f2), .second, .val (.long l3), .second, .val (.int o1), .val (.int o2), .val (.ref b3), .val (.int (3 : Int32)), .unset, .unset] [(.int (3 : Int32))]))
      refine own_go (fun _ k => XS.iconst X4.here hx rfl (hb hby at_167) k) ?_
      show own_Gl p.tables e below F (T4.setTop (mkF m 168 #[.val (.long q1), .second, .val (.long q2), .second, .val (.long q3), .second, .val (.long q4), .second, .val (.int p5), .val (.long f1), .second, .val (.long l1), .second, .val (.int sf), .val (.int sl), .val (.long f2), .second, .val (.long l3), .second, .val (.int o1), .val (.int o2), .val (.ref b3), .val (.int (3 : Int32)), .unset, .unset] [(.int (2 : Int32)), (.int (3 : Int32))]))
      refine own_go (fun _ k => XS.icmpYes X4.here hx rfl (pc0 := 168) (pc' := 190) rfl (hb hby at_168) rfl (XT.ii_ne_t (by decide)) (by decide) (by decide) k) ?_
      show own_Gl p.tables e below F (T4.setTop (mkF m 190 #[.val (.long q1), .second, .val (.long q2), .second, .val (.long q3), .second, .val (.long q4), .second, .val (.int p5), .val (.long f1), .second, .val (.long l1), .second, .val (.int sf), .val (.int sl), .val (.long f2), .second, .val (.long l3), .second, .val (.int o1), .val (.int o2), .val (.ref b3), .val (.int (3 : Int32)), .unset, .unset] []))
      refine own_go (fun _ k => XS.iload X4.here hx rfl (hb hby at_190) rfl k) ?_
      show own_Gl p.tables e below F (T4.setTop (mkF m 192 #[.val (.long q1), .second, .val (.long q2), .second, .val (.long q3), .second, .val (.long q4), .second, .val (.int p5), .val (.long f1), .second, .val (.long l1), .second, .val (.int sf), .val (.int sl), .val (.long f2), .second, .val (.long l3), .second, .val (.int o1), .val (.int o2), .val (.ref b3), .val (.int (3 : Int32)), .unset, .unset] [(.int (3 : Int32))]))
      refine own_go (fun _ k => XS.iconst X4.here hx rfl (hb hby at_192) k) ?_
      show own_Gl p.tables e below F (T4.setTop (mkF m 193 #[.val (.long q1), .second, .val (.long q2), .second, .val (.long q3), .second, .val (.long q4), .second, .val (.int p5), .val (.long f1), .second, .val (.long l1), .second, .val (.int sf), .val (.int sl), .val (.long f2), .second, .val (.long l3), .second, .val (.int o1), .val (.int o2), .val (.ref b3), .val (.int (3 : Int32)), .unset, .unset] [(.int (3 : Int32)), (.int (3 : Int32))]))
      refine own_go (fun _ k => XS.icmpNo X4.here hx rfl (hb hby at_193) rfl (XT.ii_ne_f rfl) k) ?_
      show own_Gl p.tables e below F (T4.setTop (mkF m 196 #[.val (.long q1), .second, .val (.long q2), .second, .val (.long q3), .second, .val (.long q4), .second, .val (.int p5), .val (.long f1), .second, .val (.long l1), .second, .val (.int sf), .val (.int sl), .val (.long f2), .second, .val (.long l3), .second, .val (.int o1), .val (.int o2), .val (.ref b3), .val (.int (3 : Int32)), .unset, .unset] []))
      refine own_go (fun _ k => XS.aload X4.here hx rfl (hb hby at_196) rfl rfl k) ?_
      show own_Gl p.tables e below F (T4.setTop (mkF m 198 #[.val (.long q1), .second, .val (.long q2), .second, .val (.long q3), .second, .val (.long q4), .second, .val (.int p5), .val (.long f1), .second, .val (.long l1), .second, .val (.int sf), .val (.int sl), .val (.long f2), .second, .val (.long l3), .second, .val (.int o1), .val (.int o2), .val (.ref b3), .val (.int (3 : Int32)), .unset, .unset] [(.ref b3)]))
      refine own_go (fun _ k => XS.aload X4.here hx rfl (hb hby at_198) rfl rfl k) ?_
      show own_Gl p.tables e below F (T4.setTop (mkF m 200 #[.val (.long q1), .second, .val (.long q2), .second, .val (.long q3), .second, .val (.long q4), .second, .val (.int p5), .val (.long f1), .second, .val (.long l1), .second, .val (.int sf), .val (.int sl), .val (.long f2), .second, .val (.long l3), .second, .val (.int o1), .val (.int o2), .val (.ref b3), .val (.int (3 : Int32)), .unset, .unset] [(.ref b3), (.ref b3)]))
      obtain ⟨cq12, kq12, q12a, q12b, q12c⟩ := isOf hZ rfl G4_E
      obtain ⟨_, _, ⟨T12, L12, k12, n12⟩, -, X12, ⟨Lc12, hQ12, l12, y12, z12⟩, st12⟩ := X4.virtualBack hx (y := (⟨"com/example/quorumhelm/quorumhelm/io/JournalSegment", "equals", "(Ljava/lang/Object;)Z"⟩ : MethodName)) (z := (⟨"com/example/quorumhelm/quorumhelm/io/JournalSegment", "equals", "(Ljava/lang/Object;)Z"⟩ : MethodName)) hown (mvT hZ (hw _ (List.mem_of_getElem? (i := 22) rfl))) (mvT hZ (hw _ (List.mem_of_getElem? (i := 23) rfl))) (notFace_of_selects (args := #[]) (mvT hZ (hw _ (List.mem_of_getElem? (i := 25) rfl)))) (mvT hZ (hw _ (List.mem_of_getElem? (i := 25) rfl))) (mvT hZ (hw _ (List.mem_of_getElem? (i := 24) rfl))) (by decide) (backOf (W := 0) (rm5 l Z a0 hw [] b3 b3 f1 l1 o1 f1 l1 o1 T4.heap n0 Z4 G4_E G4_m_nFirstTxId G4_m_nLastTxId G4_m_bOpen G4_m_nFirstTxId G4_m_nLastTxId G4_m_bOpen) hZ (hw _ (List.mem_of_getElem? (i := 26) rfl)) (hw _ (List.mem_of_getElem? (i := 9) rfl)) (by decide) (by decide)) q12a q12c (g := (mkF m 200 #[.val (.long q1), .second, .val (.long q2), .second, .val (.long q3), .second, .val (.long q4), .second, .val (.int p5), .val (.long f1), .second, .val (.long l1), .second, .val (.int sf), .val (.int sl), .val (.long f2), .second, .val (.long l3), .second, .val (.int o1), .val (.int o2), .val (.ref b3), .val (.int (3 : Int32)), .unset, .unset] [(.ref b3), (.ref b3)])) rfl (by rw [hml]; rfl) (Steps.refl _) (argsL := [(.ref b3)]) (rest := []) (lenOf pd_4 rfl) rfl (by show 2 * 0 + _ ≤ _; exact Nat.le_of_eq rfl) (hb hby at_200) (fun _ _ => ⟨rfl, rfl, (by first | decide | exact Nat.le_of_ble_eq_true rfl), (by first | decide | exact Nat.le_of_ble_eq_true rfl)⟩)
      dsimp only [Pt.U, Pt.locs, Pt.cells, Pt.slots] at X12 l12 y12 z12 st12 hQ12
      subst l12 y12 z12
      obtain ⟨rfl, N12, e12⟩ := hQ12
      have NF12 := Fr.app NF4 N12
      refine own_go (fun _ k => st12.trans k) ?_
      show own_Gl p.tables e below F (T12.setTop (mkF m 203 #[.val (.long q1), .second, .val (.long q2), .second, .val (.long q3), .second, .val (.long q4), .second, .val (.int p5), .val (.long f1), .second, .val (.long l1), .second, .val (.int sf), .val (.int sl), .val (.long f2), .second, .val (.long l3), .second, .val (.int o1), .val (.int o2), .val (.ref b3), .val (.int (3 : Int32)), .unset, .unset] [(.int (own_eq f1 l1 o1 f1 l1 o1))]))
      rw [own_eq_self]
      show own_Gl p.tables e below F (T12.setTop (mkF m 203 #[.val (.long q1), .second, .val (.long q2), .second, .val (.long q3), .second, .val (.long q4), .second, .val (.int p5), .val (.long f1), .second, .val (.long l1), .second, .val (.int sf), .val (.int sl), .val (.long f2), .second, .val (.long l3), .second, .val (.int o1), .val (.int o2), .val (.ref b3), .val (.int (3 : Int32)), .unset, .unset] [(.int (1 : Int32))]))
      obtain ⟨fs, hr, hrun, hended, hW, hsame⟩ := X12.leave (v := some (.int (1 : Int32))) (fun h => by rw [Bd.returns] at h; cases h)
      subst hF
      refine own_fin ?_ ⟨hrun, hended, _, _, rfl, ?_, ⟨_, rfl⟩, hW, hsame.mono (by first | decide | exact Nat.le_of_ble_eq_true rfl) (by first | decide | exact Nat.le_of_ble_eq_true rfl)⟩
      · exact own_retN X12 hx (t := .boolean) Bd.returns (by simp) rfl (hb hby at_203) hr
      · show Q_rm0 Z q1 q2 q3 q4 p5 ca cl h0 n0 _ T12.heap _
        rw [e12]
        exact ⟨rfl, NF12⟩
  show own_Gl p.tables e below F (T2.setTop (mkF m 43 #[.val (.long q1), .second, .val (.long q2), .second, .val (.long q3), .second, .val (.long q4), .second, .val (.int p5), .val (.long f1), .second, .val (.long l1), .second, .val (.int sf), .val (.int sl), .unset, .unset, .unset, .unset, .unset, .unset, .unset, .unset, .unset, .unset] []))
  have J60 : ∀ (TJ60 : State) (lJ60 : List Loc) (XJ60 : Stand p l e room_1 s m #[(.long q1), (.long q2), (.long q3), (.long q4), (.int p5)] below meth c TJ60 lJ60 0 0) (eJ60 : TJ60.heap = h0) (NJ60 : Fr n0 lJ60) (f2 : Int64), True → own_Gl p.tables e below F (TJ60.setTop (mkF m 60 #[.val (.long q1), .second, .val (.long q2), .second, .val (.long q3), .second, .val (.long q4), .second, .val (.int p5), .val (.long f1), .second, .val (.long l1), .second, .val (.int sf), .val (.int sl), .unset, .unset, .unset, .unset, .unset, .unset, .unset, .unset, .unset, .unset] [(.long f2)])) := by
    intro TJ60 lJ60 XJ60 eJ60 NJ60 f2 hj
    show own_Gl p.tables e below F (TJ60.setTop (mkF m 60 #[.val (.long q1), .second, .val (.long q2), .second, .val (.long q3), .second, .val (.long q4), .second, .val (.int p5), .val (.long f1), .second, .val (.long l1), .second, .val (.int sf), .val (.int sl), .unset, .unset, .unset, .unset, .unset, .unset, .unset, .unset, .unset, .unset] [(.long f2)]))
    refine own_go (fun _ k => XS.lstore XJ60.here hx rfl (hb hby at_60) rfl (l' := #[.val (.long q1), .second, .val (.long q2), .second, .val (.long q3), .second, .val (.long q4), .second, .val (.int p5), .val (.long f1), .second, .val (.long l1), .second, .val (.int sf), .val (.int sl), .val (.long f2), .second, .unset, .unset, .unset, .unset, .unset, .unset, .unset, .unset]) rfl k) ?_
    show own_Gl p.tables e below F (TJ60.setTop (mkF m 62 #[.val (.long q1), .second, .val (.long q2), .second, .val (.long q3), .second, .val (.long q4), .second, .val (.int p5), .val (.long f1), .second, .val (.long l1), .second, .val (.int sf), .val (.int sl), .val (.long f2), .second, .unset, .unset, .unset, .unset, .unset, .unset, .unset, .unset] []))
    refine own_go (fun _ k => XS.iload XJ60.here hx rfl (hb hby at_62) rfl k) ?_
    show own_Gl p.tables e below F (TJ60.setTop (mkF m 64 #[.val (.long q1), .second, .val (.long q2), .second, .val (.long q3), .second, .val (.long q4), .second, .val (.int p5), .val (.long f1), .second, .val (.long l1), .second, .val (.int sf), .val (.int sl), .val (.long f2), .second, .unset, .unset, .unset, .unset, .unset, .unset, .unset, .unset] [(.int sl)]))
    by_cases hc : sl = 0
    · refine own_go (fun _ k => XS.ifYes XJ60.here hx rfl (pc0 := 64) (pc' := 72) rfl (hb hby at_64) rfl (XT.i0_eq_t (by assumption)) (by decide) (by decide) k) ?_
      show own_Gl p.tables e below F (TJ60.setTop (mkF m 72 #[.val (.long q1), .second, .val (.long q2), .second, .val (.long q3), .second, .val (.long q4), .second, .val (.int p5), .val (.long f1), .second, .val (.long l1), .second, .val (.int sf), .val (.int sl), .val (.long f2), .second, .unset, .unset, .unset, .unset, .unset, .unset, .unset, .unset] []))
      refine own_go (fun _ k => XS.lload XJ60.here hx rfl (hb hby at_72) rfl k) ?_
      show own_Gl p.tables e below F (TJ60.setTop (mkF m 74 #[.val (.long q1), .second, .val (.long q2), .second, .val (.long q3), .second, .val (.long q4), .second, .val (.int p5), .val (.long f1), .second, .val (.long l1), .second, .val (.int sf), .val (.int sl), .val (.long f2), .second, .unset, .unset, .unset, .unset, .unset, .unset, .unset, .unset] [(.long q3)]))
      refine own_go (fun _ k => XS.lload XJ60.here hx rfl (hb hby at_74) rfl k) ?_
      show own_Gl p.tables e below F (TJ60.setTop (mkF m 76 #[.val (.long q1), .second, .val (.long q2), .second, .val (.long q3), .second, .val (.long q4), .second, .val (.int p5), .val (.long f1), .second, .val (.long l1), .second, .val (.int sf), .val (.int sl), .val (.long f2), .second, .unset, .unset, .unset, .unset, .unset, .unset, .unset, .unset] [(.long q4), (.long q3)]))
      obtain ⟨_, _, ⟨T13, L13, k13, n13⟩, -, X13, ⟨Lc13, hQ13, l13, y13, z13⟩, st13⟩ := Jvm.LawKit.callS XJ60 hx (y := (⟨"java/lang/Math", "max", "(JJ)J"⟩ : MethodName)) hown (mvT hZ (hw _ (List.mem_of_getElem? (i := 4) rfl))) (mvT hZ (hw _ (List.mem_of_getElem? (i := 5) rfl))) (mvT hZ (hw _ (List.mem_of_getElem? (i := 2) rfl))) (mvT hZ (hw _ (List.mem_of_getElem? (i := 6) rfl))) (by decide) (backOf (W := 0) (rm2 l Z a0 hw [] q3 q4  h0 n0 Z0 ) hZ (hw _ (List.mem_of_getElem? (i := 6) rfl)) (hw _ (List.mem_of_getElem? (i := 2) rfl)) (by decide) (by decide)) (g := (mkF m 76 #[.val (.long q1), .second, .val (.long q2), .second, .val (.long q3), .second, .val (.long q4), .second, .val (.int p5), .val (.long f1), .second, .val (.long l1), .second, .val (.int sf), .val (.int sl), .val (.long f2), .second, .unset, .unset, .unset, .unset, .unset, .unset, .unset, .unset] [(.long q4), (.long q3)])) rfl (by rw [hml]; rfl) (argsL := [(.long q3), (.long q4)]) (rest := []) (lenOf pd_2 rfl) rfl (by show 2 * 0 + _ ≤ _; exact Nat.le_of_eq rfl) (hb hby at_76) (fun _ _ => ⟨rfl, eJ60, (by first | decide | exact Nat.le_of_ble_eq_true rfl), (by first | decide | exact Nat.le_of_ble_eq_true rfl)⟩)
      dsimp only [Pt.U, Pt.locs, Pt.cells, Pt.slots] at X13 l13 y13 z13 st13 hQ13
      subst l13 y13 z13
      obtain ⟨rfl, N13, e13⟩ := hQ13
      have NF13 := Fr.app NJ60 N13
      refine own_go st13 ?_
      show own_Gl p.tables e below F (T13.setTop (mkF m 79 #[.val (.long q1), .second, .val (.long q2), .second, .val (.long q3), .second, .val (.long q4), .second, .val (.int p5), .val (.long f1), .second, .val (.long l1), .second, .val (.int sf), .val (.int sl), .val (.long f2), .second, .unset, .unset, .unset, .unset, .unset, .unset, .unset, .unset] [(.long (own_max q3 q4))]))
      exact J79 _ _ X13 e13 NF13 f2 (own_max q3 q4) trivial
    · refine own_go (fun _ k => XS.ifNo XJ60.here hx rfl (hb hby at_64) rfl (XT.i0_eq_f (by assumption)) k) ?_
      show own_Gl p.tables e below F (TJ60.setTop (mkF m 67 #[.val (.long q1), .second, .val (.long q2), .second, .val (.long q3), .second, .val (.long q4), .second, .val (.int p5), .val (.long f1), .second, .val (.long l1), .second, .val (.int sf), .val (.int sl), .val (.long f2), .second, .unset, .unset, .unset, .unset, .unset, .unset, .unset, .unset] []))
      refine own_go (fun _ k => XS.lload XJ60.here hx rfl (hb hby at_67) rfl k) ?_
      show own_Gl p.tables e below F (TJ60.setTop (mkF m 69 #[.val (.long q1), .second, .val (.long q2), .second, .val (.long q3), .second, .val (.long q4), .second, .val (.int p5), .val (.long f1), .second, .val (.long l1), .second, .val (.int sf), .val (.int sl), .val (.long f2), .second, .unset, .unset, .unset, .unset, .unset, .unset, .unset, .unset] [(.long l1)]))
      refine own_go (fun _ k => XS.goto XJ60.here hx rfl (pc0 := 69) (pc' := 79) rfl (hb hby at_69) (by decide) (by decide) k) ?_
      show own_Gl p.tables e below F (TJ60.setTop (mkF m 79 #[.val (.long q1), .second, .val (.long q2), .second, .val (.long q3), .second, .val (.long q4), .second, .val (.int p5), .val (.long f1), .second, .val (.long l1), .second, .val (.int sf), .val (.int sl), .val (.long f2), .second, .unset, .unset, .unset, .unset, .unset, .unset, .unset, .unset] [(.long l1)]))
      exact J79 _ _ XJ60 eJ60 NJ60 f2 l1 trivial
  show own_Gl p.tables e below F (T2.setTop (mkF m 43 #[.val (.long q1), .second, .val (.long q2), .second, .val (.long q3), .second, .val (.long q4), .second, .val (.int p5), .val (.long f1), .second, .val (.long l1), .second, .val (.int sf), .val (.int sl), .unset, .unset, .unset, .unset, .unset, .unset, .unset, .unset, .unset, .unset] []))
  refine own_go (fun _ k => XS.iload X2.here hx rfl (hb hby at_43) rfl k) ?_
  show own_Gl p.tables e below F (T2.setTop (mkF m 45 #[.val (.long q1), .second, .val (.long q2), .second, .val (.long q3), .second, .val (.long q4), .second, .val (.int p5), .val (.long f1), .second, .val (.long l1), .second, .val (.int sf), .val (.int sl), .unset, .unset, .unset, .unset, .unset, .unset, .unset, .unset, .unset, .unset] [(.int sf)]))
  by_cases hc : sf = 0
  · refine own_go (fun _ k => XS.ifYes X2.here hx rfl (pc0 := 45) (pc' := 53) rfl (hb hby at_45) rfl (XT.i0_eq_t (by assumption)) (by decide) (by decide) k) ?_
    show own_Gl p.tables e below F (T2.setTop (mkF m 53 #[.val (.long q1), .second, .val (.long q2), .second, .val (.long q3), .second, .val (.long q4), .second, .val (.int p5), .val (.long f1), .second, .val (.long l1), .second, .val (.int sf), .val (.int sl), .unset, .unset, .unset, .unset, .unset, .unset, .unset, .unset, .unset, .unset] []))
    refine own_go (fun _ k => XS.lload X2.here hx rfl (hb hby at_53) rfl k) ?_
    show own_Gl p.tables e below F (T2.setTop (mkF m 55 #[.val (.long q1), .second, .val (.long q2), .second, .val (.long q3), .second, .val (.long q4), .second, .val (.int p5), .val (.long f1), .second, .val (.long l1), .second, .val (.int sf), .val (.int sl), .unset, .unset, .unset, .unset, .unset, .unset, .unset, .unset, .unset, .unset] [(.long q3)]))
    refine own_go (fun _ k => XS.lload X2.here hx rfl (hb hby at_55) rfl k) ?_
    show own_Gl p.tables e below F (T2.setTop (mkF m 57 #[.val (.long q1), .second, .val (.long q2), .second, .val (.long q3), .second, .val (.long q4), .second, .val (.int p5), .val (.long f1), .second, .val (.long l1), .second, .val (.int sf), .val (.int sl), .unset, .unset, .unset, .unset, .unset, .unset, .unset, .unset, .unset, .unset] [(.long q4), (.long q3)]))
    obtain ⟨_, _, ⟨T14, L14, k14, n14⟩, -, X14, ⟨Lc14, hQ14, l14, y14, z14⟩, st14⟩ := Jvm.LawKit.callS X2 hx (y := (⟨"java/lang/Math", "min", "(JJ)J"⟩ : MethodName)) hown (mvT hZ (hw _ (List.mem_of_getElem? (i := 0) rfl))) (mvT hZ (hw _ (List.mem_of_getElem? (i := 1) rfl))) (mvT hZ (hw _ (List.mem_of_getElem? (i := 2) rfl))) (mvT hZ (hw _ (List.mem_of_getElem? (i := 3) rfl))) (by decide) (backOf (W := 0) (rm1 l Z a0 hw [] q3 q4  h0 n0 Z0 ) hZ (hw _ (List.mem_of_getElem? (i := 3) rfl)) (hw _ (List.mem_of_getElem? (i := 2) rfl)) (by decide) (by decide)) (g := (mkF m 57 #[.val (.long q1), .second, .val (.long q2), .second, .val (.long q3), .second, .val (.long q4), .second, .val (.int p5), .val (.long f1), .second, .val (.long l1), .second, .val (.int sf), .val (.int sl), .unset, .unset, .unset, .unset, .unset, .unset, .unset, .unset, .unset, .unset] [(.long q4), (.long q3)])) rfl (by rw [hml]; rfl) (argsL := [(.long q3), (.long q4)]) (rest := []) (lenOf pd_2 rfl) rfl (by show 2 * 0 + _ ≤ _; exact Nat.le_of_eq rfl) (hb hby at_57) (fun _ _ => ⟨rfl, e2, (by first | decide | exact Nat.le_of_ble_eq_true rfl), (by first | decide | exact Nat.le_of_ble_eq_true rfl)⟩)
    dsimp only [Pt.U, Pt.locs, Pt.cells, Pt.slots] at X14 l14 y14 z14 st14 hQ14
    subst l14 y14 z14
    obtain ⟨rfl, N14, e14⟩ := hQ14
    have NF14 := Fr.app NF2 N14
    refine own_go st14 ?_
    show own_Gl p.tables e below F (T14.setTop (mkF m 60 #[.val (.long q1), .second, .val (.long q2), .second, .val (.long q3), .second, .val (.long q4), .second, .val (.int p5), .val (.long f1), .second, .val (.long l1), .second, .val (.int sf), .val (.int sl), .unset, .unset, .unset, .unset, .unset, .unset, .unset, .unset, .unset, .unset] [(.long (own_min q3 q4))]))
    exact J60 _ _ X14 e14 NF14 (own_min q3 q4) trivial
  · refine own_go (fun _ k => XS.ifNo X2.here hx rfl (hb hby at_45) rfl (XT.i0_eq_f (by assumption)) k) ?_
    show own_Gl p.tables e below F (T2.setTop (mkF m 48 #[.val (.long q1), .second, .val (.long q2), .second, .val (.long q3), .second, .val (.long q4), .second, .val (.int p5), .val (.long f1), .second, .val (.long l1), .second, .val (.int sf), .val (.int sl), .unset, .unset, .unset, .unset, .unset, .unset, .unset, .unset, .unset, .unset] []))
    refine own_go (fun _ k => XS.lload X2.here hx rfl (hb hby at_48) rfl k) ?_
    show own_Gl p.tables e below F (T2.setTop (mkF m 50 #[.val (.long q1), .second, .val (.long q2), .second, .val (.long q3), .second, .val (.long q4), .second, .val (.int p5), .val (.long f1), .second, .val (.long l1), .second, .val (.int sf), .val (.int sl), .unset, .unset, .unset, .unset, .unset, .unset, .unset, .unset, .unset, .unset] [(.long f1)]))
    refine own_go (fun _ k => XS.goto X2.here hx rfl (pc0 := 50) (pc' := 60) rfl (hb hby at_50) (by decide) (by decide) k) ?_
    show own_Gl p.tables e below F (T2.setTop (mkF m 60 #[.val (.long q1), .second, .val (.long q2), .second, .val (.long q3), .second, .val (.long q4), .second, .val (.int p5), .val (.long f1), .second, .val (.long l1), .second, .val (.int sf), .val (.int sl), .unset, .unset, .unset, .unset, .unset, .unset, .unset, .unset, .unset, .unset] [(.long f1)]))
    exact J60 _ _ X2 e2 NF2 f1 trivial
set_option maxRecDepth 65536 in
set_option maxHeartbeats 40000000 in
theorem comes_1 {Post : Tables → Env → Array Value → State → Outcome → State → Prop} (hpost : ∀ tb e args s v u, (limb_1_1.after args s (.returned v) u = true ∧ limb_1_2.after args s (.returned v) u = true ∧ True) → FrameEnd s (.returned v) u (Jvm.fieldLocs frame_1_writes args s ++ Jvm.arrayLocs frame_1_arrays args s ++ Jvm.staticLocs frame_1_statics s) 16 128 → Post tb e args s (.returned v) u) :
    ArmFor flags0 classFile x code maxLocals ret World_1 tables_1 room_1 Calls_1 rest_1 Pre_1 Post := by
  intro l hfl _ _ p e ha hc hk s m args below hf hA hF happ hP
  obtain ⟨hcalls, hrest, hpre⟩ := hP
  obtain ⟨-, -, -, hnamed, -, -, -, hat⟩ := (Spec.applies_iff hf).mp happ
  obtain ⟨hg, hn⟩ := and_e (Cond.before_iff.mp (show (Jvm.Cond.and given_1 narrow_1).before args s = true from hpre))
  obtain ⟨gv1, gv2⟩ := and_e hg
  obtain ⟨gv3, gv4⟩ := and_e gv2
  obtain ⟨gv5, gv6⟩ := and_e gv4
  obtain ⟨gv7, gv8⟩ := and_e gv6
  obtain ⟨gv9, gv10⟩ := and_e gv8
  obtain ⟨w0, w1, w2, w3, w4, rfl⟩ : ∃ w0 w1 w2 w3 w4 : Value, args = #[w0, w1, w2, w3, w4] := by
    have hs : args.size = 5 := by simpa [Cond.value, given_1] using gv1
    obtain ⟨L⟩ := args
    match L, hs with
    | [w0, w1, w2, w3, w4], _ => exact ⟨w0, w1, w2, w3, w4, rfl⟩
  have hw := fun d (hd : d ∈ tables_1) => atoms_spec (ws := Jvm.Cond.code x code maxLocals ret :: tables_1) hat d (List.mem_cons_of_mem _ hd)
  have hfit : Fit s := fun {y c} hc i hi => by
    obtain ⟨ha, rfl⟩ := Array.getElem?_eq_some_iff.mp hc
    have q := List.all_eq_true.mp ((Array.all_eq_true_iff_forall_mem.mp hF) _ (Array.getElem_mem ha)) i (List.mem_range.mpr hi)
    simpa [Array.getElem?_eq_getElem hi] using q
  obtain ⟨hsets, hown0⟩ := atoms_of _ (rest_1_c_eq ▸ (show rest_1_c.before _ s = true from hrest))
  have hr0 := Cond.before_iff.mp hown0
  obtain ⟨i0, ei0⟩ := isL_v gv3
  obtain rfl : w0 = (.long i0) := Option.some.inj ei0
  obtain ⟨i1, ei1⟩ := isL_v gv5
  obtain rfl : w1 = (.long i1) := Option.some.inj ei1
  obtain ⟨i2, ei2⟩ := isL_v gv7
  obtain rfl : w2 = (.long i2) := Option.some.inj ei2
  obtain ⟨i3, ei3⟩ := isL_v gv9
  obtain rfl : w3 = (.long i3) := Option.some.inj ei3
  obtain ⟨i4, ei4⟩ := is_v gv10
  obtain rfl : w4 = (.int i4) := Option.some.inj ei4
  have ha2 := Cond.before_iff.mp (hsets _ (List.mem_of_getElem? (i := 2) rfl))
  have ha4 := Cond.before_iff.mp (hsets _ (List.mem_of_getElem? (i := 4) rfl))
  have ha5 := Cond.before_iff.mp (hsets _ (List.mem_of_getElem? (i := 5) rfl))
  obtain ⟨ca, ev⟩ := arr_v ha2
  obtain ⟨cl, A0⟩ := Arr.start ev ha2
  have S0 := Sta.start ev (Or.inl (hsets _ (List.mem_of_getElem? (i := 1) rfl)))
  have hl := own_len ev (A0.fin (Vm.Alike.refl _)) (eqv_i (Term.int_eval (256 : Int32)) ha4)
  have B0 : Bxs s ca cl "java/lang/Long" "J" 256 (fun j => .long (j - 128).toInt64) := Bxs.start (fun _ => ev) A0 hl.1 hl.2 (by decide) ha5 (fun X j hj h => eqv_l (i2l_at (Term.sub_int (idx_at hj) (Term.int_eval (128 : Int32)))) h)
  obtain ⟨n, o, h1, h2, h3, _, L, rfl, ⟨rfl, N⟩, hq⟩ := rm0 l s _ hw tables_1 i0 i1 i2 i3 i4 ca cl s.heap s.heap.size (Nat.le_refl _) (Old.start s) S0 B0 p e ha hc hk s m _ below hf ((Spec.applies_iff_loose hf).mp happ).1 ⟨rfl, State.Warmed39.refl s, rfl⟩ trivial
  refine ⟨n, _, h1, h2, h3, hpost _ _ _ _ _ _ ⟨Cond.after_iff.mpr rfl, Cond.after_iff.mpr (eq_i res_at (Term.int_eval (1)) rfl), trivial⟩ ⟨hq.1, hq.2.1, (hq.2.2.sift fun y hy => Or.inr (N y hy)).mono (by decide) (by decide)⟩⟩
theorem main_1_1 : Claimed_1_1 := comes_1 fun _ _ _ _ _ _ h hF => ⟨h.1, hF⟩
theorem main_1_2 : Claimed_1_2 := comes_1 fun _ _ _ _ _ _ h hF => ⟨h.2.1, hF⟩
end Jvm.Pilot.@@N@@
namespace Jvm.Pilot.@@N@@
open Jvm Jvm.ClassFile Sem Op Lib Jvm.Free Jvm.Stand Jvm.Pilot.@@N@@.Jvm.D
/-! MADE BY PROGRAM (witnessworld.py) out of the Statement's table words and the real class files: 17 classes; the members and pool entries that the words name. The judged class is class 1, her method 1. -/
namespace start1
open Jvm.ClassFile
def u (s : String) : CpInfo := .utf8 (stringToUtf16 s)
/-- a pool by its gaps: so many unusable entries, then the entry; so many at the end -/
def gap : Nat → List CpInfo → List CpInfo
  | 0, r => r
  | n + 1, r => .unusable :: gap n r
def poolList (es : List (Nat × CpInfo)) (last : Nat) : List CpInfo := es.foldr (fun e r => gap e.1 (e.2 :: r)) (gap last [])
def pool (es : List (Nat × CpInfo)) (last : Nat) : Array CpInfo := ⟨poolList es last⟩
def fileOf (pool : Array CpInfo) (this : Nat) (attrs : Array Attribute := #[]) (ms : Array MethodInfo := #[]) (fl : Nat := 33) (sup : Nat := 0) (ifs : Array Nat := #[]) (fds : Array FieldInfo := #[]) : ClassFile where
  minorVersion := 0
  majorVersion := 65
  constantPool := pool
  accessFlags := fl
  thisClass := this
  superClass := sup
  interfaces := ifs
  fields := fds
  methods := ms
  attributes := attrs
def plain (name : String) (sup : Option ClassId) : Class where
  name := name
  kind := .ordinary
  loader := none
  accessFlags := 33
  super := sup
  interfaces := #[]
  cf := none
  fields := #[]
  methods := #[]
  instanceTypes := #[]
  staticTypes := #[]
  resolved := #[]
  callSites := []
  init := .initialized
  statics := none
  mirror := none

def pool0 : Array CpInfo := pool [(5, u "<init>"), (0, u "()V"), (1, .class_ 10), (1, u "java/lang/Object")] 113

def k0c0 : Code := { maxStack := 0, maxLocals := 1, code := object_method_1_code, exceptionTable := #[], attributes := #[] }
def k0m0 : Method := { name := "<init>", desc := "()V", sig := { parameters := [], returnType := none }, accessFlags := 1, code := some k0c0 }
/-- java/lang/Object -/
def k0 : Class := { plain "java/lang/Object" none with
  accessFlags := 33
  interfaces := #[]
  cf := some (fileOf pool0 8 #[] #[{ accessFlags := 1, nameIndex := 5, descriptorIndex := 6, attributes := #[] }] 33 0 #[] #[])
  fields := #[]
  methods := #[k0m0]
  instanceTypes := #[]
  staticTypes := #[]
  resolved := Array.replicate 124 none
  statics := none }

def pool1 : Array CpInfo := pool [(2, .class_ 4), (1, u "java/lang/Object"), (0, u "<init>"), (0, u "()V"), (0, .methodref 8 9), (0, .class_ 10), (0, .nameAndType 11 12), (0, u "java/lang/Math"), (0, u "min"), (0, u "(JJ)J"), (0, .methodref 8 14), (0, .nameAndType 15 12), (0, u "max"), (0, .class_ 17), (0, u "com/example/quorumhelm/quorumhelm/io/JournalSegment"), (0, .methodref 16 19), (0, .nameAndType 5 20), (0, u "(JJZ)V"), (0, .methodref 16 22), (0, .nameAndType 23 24), (0, u "equals"), (0, u "(Ljava/lang/Object;)Z"), (0, .methodref 26 27), (0, .class_ 28), (0, .nameAndType 29 30), (0, u "java/lang/Long"), (0, u "valueOf"), (0, u "(J)Ljava/lang/Long;"), (0, .class_ 32), (0, u "com/example/quorumhelm/quorumhelm/io/JournalSegmentEqualsPinLaw"), (2, u "law"), (0, u "(JJJJI)Z")] 3

def k1m0 : Method := { name := "<init>", desc := "()V", sig := { parameters := [], returnType := none }, accessFlags := 1, code := none }
def k1c1 : Code := { maxStack := 7, maxLocals := 25, code := code, exceptionTable := #[], attributes := #[] }
def k1m1 : Method := { name := "law", desc := "(JJJJI)Z", sig := { parameters := [.long, .long, .long, .long, .int], returnType := some .boolean }, accessFlags := 9, code := some k1c1 }
/-- com/example/quorumhelm/quorumhelm/io/JournalSegmentEqualsPinLaw -/
def k1 : Class := { plain "com/example/quorumhelm/quorumhelm/io/JournalSegmentEqualsPinLaw" (some 0) with
  accessFlags := 49
  interfaces := #[]
  cf := some (fileOf pool1 31 #[] #[{ accessFlags := 1, nameIndex := 5, descriptorIndex := 6, attributes := #[] }, { accessFlags := 9, nameIndex := 35, descriptorIndex := 36, attributes := #[] }] 49 2 #[] #[])
  fields := #[]
  methods := #[k1m0, k1m1]
  instanceTypes := #[]
  staticTypes := #[]
  resolved := Array.replicate 40 none
  statics := none }

def pool2 : Array CpInfo := pool [(1, .class_ 2), (0, u "java/lang/Math"), (1, .class_ 6), (1, u "java/lang/Object"), (0, u "<init>"), (0, u "()V"), (89, .class_ 100), (1, u "java/lang/Math$RandomNumberGeneratorHolder"), (20, u "(JJ)J"), (50, u "negativeZeroFloatBits"), (0, u "J"), (2, u "negativeZeroDoubleBits"), (21, u "max"), (2, u "min"), (43, u "$assertionsDisabled"), (0, u "Z"), (91, u "twoToTheDoubleScaleDown"), (0, u "D"), (4, u "twoToTheDoubleScaleUp"), (9, u "E"), (3, u "PI"), (2, u "TAU"), (2, u "DEGREES_TO_RADIANS"), (0, u "RADIANS_TO_DEGREES")] 94

def k2m0 : Method := { name := "<init>", desc := "()V", sig := { parameters := [], returnType := none }, accessFlags := 2, code := none }
def k2c1 : Code := { maxStack := 4, maxLocals := 4, code := jdk_29_method_66_code, exceptionTable := #[], attributes := #[] }
def k2m1 : Method := { name := "max", desc := "(JJ)J", sig := { parameters := [.long, .long], returnType := some .long }, accessFlags := 9, code := some k2c1 }
def k2c2 : Code := { maxStack := 4, maxLocals := 4, code := jdk_29_method_70_code, exceptionTable := #[], attributes := #[] }
def k2m2 : Method := { name := "min", desc := "(JJ)J", sig := { parameters := [.long, .long], returnType := some .long }, accessFlags := 9, code := some k2c2 }
/-- java/lang/Math -/
def k2 : Class := { plain "java/lang/Math" (some 0) with
  accessFlags := 49
  interfaces := #[]
  cf := some (fileOf pool2 1 #[.nestMembers #[98]] #[{ accessFlags := 2, nameIndex := 7, descriptorIndex := 8, attributes := #[] }, { accessFlags := 9, nameIndex := 198, descriptorIndex := 121, attributes := #[] }, { accessFlags := 9, nameIndex := 201, descriptorIndex := 121, attributes := #[] }] 49 4 #[] #[{ accessFlags := 25, nameIndex := 354, descriptorIndex := 339, attributes := #[] }, { accessFlags := 25, nameIndex := 358, descriptorIndex := 339, attributes := #[] }, { accessFlags := 25, nameIndex := 361, descriptorIndex := 339, attributes := #[] }, { accessFlags := 26, nameIndex := 364, descriptorIndex := 339, attributes := #[] }, { accessFlags := 26, nameIndex := 365, descriptorIndex := 339, attributes := #[] }, { accessFlags := 26, nameIndex := 172, descriptorIndex := 173, attributes := #[] }, { accessFlags := 26, nameIndex := 176, descriptorIndex := 173, attributes := #[] }, { accessFlags := 8, nameIndex := 344, descriptorIndex := 339, attributes := #[] }, { accessFlags := 8, nameIndex := 338, descriptorIndex := 339, attributes := #[] }, { accessFlags := 4120, nameIndex := 245, descriptorIndex := 246, attributes := #[] }])
  fields := #[{ name := "E", type := .double, accessFlags := 25, slot := 0, constantValue := 0 }, { name := "PI", type := .double, accessFlags := 25, slot := 1, constantValue := 0 }, { name := "TAU", type := .double, accessFlags := 25, slot := 2, constantValue := 0 }, { name := "DEGREES_TO_RADIANS", type := .double, accessFlags := 26, slot := 3, constantValue := 0 }, { name := "RADIANS_TO_DEGREES", type := .double, accessFlags := 26, slot := 4, constantValue := 0 }, { name := "negativeZeroFloatBits", type := .long, accessFlags := 26, slot := 5, constantValue := 0 }, { name := "negativeZeroDoubleBits", type := .long, accessFlags := 26, slot := 6, constantValue := 0 }, { name := "twoToTheDoubleScaleUp", type := .double, accessFlags := 8, slot := 7, constantValue := 0 }, { name := "twoToTheDoubleScaleDown", type := .double, accessFlags := 8, slot := 8, constantValue := 0 }, { name := "$assertionsDisabled", type := .boolean, accessFlags := 4120, slot := 9, constantValue := 0 }]
  methods := #[k2m0, k2m1, k2m2]
  instanceTypes := #[]
  staticTypes := #[.double, .double, .double, .double, .double, .long, .long, .double, .double, .boolean]
  resolved := Array.replicate 460 none
  statics := none }

def pool3 : Array CpInfo := pool [(1, .methodref 2 3), (0, .class_ 4), (0, .nameAndType 5 6), (0, u "java/lang/Object"), (0, u "<init>"), (0, u "()V"), (0, .fieldref 8 9), (0, .class_ 10), (0, .nameAndType 11 12), (0, u "com/example/quorumhelm/quorumhelm/io/JournalSegment"), (0, u "m_nFirstTxId"), (0, u "J"), (0, .fieldref 8 14), (0, .nameAndType 15 12), (0, u "m_nLastTxId"), (0, .fieldref 8 17), (0, .nameAndType 18 19), (0, u "m_bOpen"), (0, u "Z"), (19, u "(JJZ)V"), (7, u "equals"), (0, u "(Ljava/lang/Object;)Z")] 23

def k3c0 : Code := { maxStack := 3, maxLocals := 6, code := prog_34_method_1_code, exceptionTable := #[], attributes := #[] }
def k3m0 : Method := { name := "<init>", desc := "(JJZ)V", sig := { parameters := [.long, .long, .boolean], returnType := none }, accessFlags := 1, code := some k3c0 }
def k3c1 : Code := { maxStack := 4, maxLocals := 3, code := prog_34_method_5_code, exceptionTable := #[], attributes := #[] }
def k3m1 : Method := { name := "equals", desc := "(Ljava/lang/Object;)Z", sig := { parameters := [(.object "java/lang/Object")], returnType := some .boolean }, accessFlags := 1, code := some k3c1 }
/-- com/example/quorumhelm/quorumhelm/io/JournalSegment -/
def k3 : Class := { plain "com/example/quorumhelm/quorumhelm/io/JournalSegment" (some 0) with
  accessFlags := 49
  interfaces := #[]
  cf := some (fileOf pool3 8 #[] #[{ accessFlags := 1, nameIndex := 5, descriptorIndex := 39, attributes := #[] }, { accessFlags := 1, nameIndex := 47, descriptorIndex := 48, attributes := #[] }] 49 2 #[] #[{ accessFlags := 18, nameIndex := 11, descriptorIndex := 12, attributes := #[] }, { accessFlags := 18, nameIndex := 15, descriptorIndex := 12, attributes := #[] }, { accessFlags := 18, nameIndex := 18, descriptorIndex := 19, attributes := #[] }])
  fields := #[{ name := "m_nFirstTxId", type := .long, accessFlags := 18, slot := 0, constantValue := 0 }, { name := "m_nLastTxId", type := .long, accessFlags := 18, slot := 1, constantValue := 0 }, { name := "m_bOpen", type := .boolean, accessFlags := 18, slot := 2, constantValue := 0 }]
  methods := #[k3m0, k3m1]
  instanceTypes := #[.long, .long, .boolean]
  staticTypes := #[]
  resolved := Array.replicate 72 none
  statics := none }

def pool4 : Array CpInfo := pool [(1, .class_ 2), (0, u "java/io/Serializable"), (0, .class_ 4), (0, u "java/lang/Object")] 2

/-- java/io/Serializable -/
def k4 : Class := { plain "java/io/Serializable" (some 0) with
  accessFlags := 1537
  interfaces := #[]
  cf := some (fileOf pool4 1 #[] #[] 1537 3 #[] #[])
  fields := #[]
  methods := #[]
  instanceTypes := #[]
  staticTypes := #[]
  resolved := Array.replicate 7 none
  statics := none }

def pool5 : Array CpInfo := pool [(1, .methodref 2 3), (0, .class_ 4), (0, .nameAndType 5 6), (0, u "java/lang/Object"), (0, u "<init>"), (0, u "()V"), (1, .class_ 10), (1, u "java/lang/Number"), (2, .class_ 14), (0, u "java/io/Serializable"), (0, u "serialVersionUID"), (0, u "J")] 20

def k5c0 : Code := { maxStack := 1, maxLocals := 1, code := jdk_18_method_1_code, exceptionTable := #[], attributes := #[] }
def k5m0 : Method := { name := "<init>", desc := "()V", sig := { parameters := [], returnType := none }, accessFlags := 1, code := some k5c0 }
/-- java/lang/Number -/
def k5 : Class := { plain "java/lang/Number" (some 0) with
  accessFlags := 1057
  interfaces := #[4]
  cf := some (fileOf pool5 8 #[] #[{ accessFlags := 1, nameIndex := 5, descriptorIndex := 6, attributes := #[] }] 1057 2 #[13] #[{ accessFlags := 26, nameIndex := 15, descriptorIndex := 16, attributes := #[] }])
  fields := #[{ name := "serialVersionUID", type := .long, accessFlags := 26, slot := 0, constantValue := 0 }]
  methods := #[k5m0]
  instanceTypes := #[]
  staticTypes := #[.long]
  resolved := Array.replicate 37 none
  statics := none }

def pool6 : Array CpInfo := pool [(1, .class_ 2), (0, u "java/lang/Comparable"), (0, .class_ 4), (0, u "java/lang/Object")] 7

/-- java/lang/Comparable -/
def k6 : Class := { plain "java/lang/Comparable" (some 0) with
  accessFlags := 1537
  interfaces := #[]
  cf := some (fileOf pool6 1 #[] #[] 1537 3 #[] #[])
  fields := #[]
  methods := #[]
  instanceTypes := #[]
  staticTypes := #[]
  resolved := Array.replicate 12 none
  statics := none }

def pool7 : Array CpInfo := pool [(1, .class_ 2), (0, u "java/lang/constant/Constable"), (0, .class_ 4), (0, u "java/lang/Object")] 6

/-- java/lang/constant/Constable -/
def k7 : Class := { plain "java/lang/constant/Constable" (some 0) with
  accessFlags := 1537
  interfaces := #[]
  cf := some (fileOf pool7 1 #[] #[] 1537 3 #[] #[])
  fields := #[]
  methods := #[]
  instanceTypes := #[]
  staticTypes := #[]
  resolved := Array.replicate 11 none
  statics := none }

def pool8 : Array CpInfo := pool [(1, .class_ 2), (0, u "java/lang/constant/ConstantDesc"), (0, .class_ 4), (0, u "java/lang/Object")] 32

/-- java/lang/constant/ConstantDesc -/
def k8 : Class := { plain "java/lang/constant/ConstantDesc" (some 0) with
  accessFlags := 1537
  interfaces := #[]
  cf := some (fileOf pool8 1 #[] #[] 1537 3 #[] #[])
  fields := #[]
  methods := #[]
  instanceTypes := #[]
  staticTypes := #[]
  resolved := Array.replicate 37 none
  statics := none }

def pool9 : Array CpInfo := pool [(1, .class_ 2), (0, u "java/lang/Long"), (55, .nameAndType 59 60), (0, u "<init>"), (0, u "()V"), (24, u "valueOf"), (143, u "(J)Ljava/lang/Long;"), (0, .long 18446744073709551488), (1, .long 127), (1, .fieldref 235 236), (0, .class_ 237), (0, .nameAndType 238 239), (0, u "java/lang/Long$LongCache"), (0, u "cache"), (0, u "[Ljava/lang/Long;"), (0, .methodref 1 241), (0, .nameAndType 59 242), (0, u "(J)V"), (27, .methodref 271 58), (0, .class_ 272), (0, u "java/lang/Number"), (0, .fieldref 1 274), (0, .nameAndType 275 276), (0, u "value"), (0, u "J"), (84, u "TYPE"), (0, u "Ljava/lang/Class;"), (0, .class_ 364), (0, u "java/lang/Comparable"), (0, .class_ 366), (0, u "java/lang/constant/Constable"), (0, .class_ 368), (0, u "java/lang/constant/ConstantDesc"), (0, u "MIN_VALUE"), (1, u "MAX_VALUE"), (4, u "SIZE"), (0, u "I"), (1, u "BYTES"), (1, u "serialVersionUID")] 142

def k9c0 : Code := { maxStack := 4, maxLocals := 3, code := jdk_35_method_24_code, exceptionTable := #[], attributes := #[] }
def k9m0 : Method := { name := "valueOf", desc := "(J)Ljava/lang/Long;", sig := { parameters := [.long], returnType := some (.object "java/lang/Long") }, accessFlags := 9, code := some k9c0 }
def k9c1 : Code := { maxStack := 3, maxLocals := 3, code := jdk_35_method_26_code, exceptionTable := #[], attributes := #[] }
def k9m1 : Method := { name := "<init>", desc := "(J)V", sig := { parameters := [.long], returnType := none }, accessFlags := 1, code := some k9c1 }
/-- java/lang/Long -/
def k9 : Class := { plain "java/lang/Long" (some 5) with
  accessFlags := 49
  interfaces := #[6, 7, 8]
  cf := some (fileOf pool9 1 #[.nestMembers #[235]] #[{ accessFlags := 9, nameIndex := 85, descriptorIndex := 229, attributes := #[] }, { accessFlags := 1, nameIndex := 59, descriptorIndex := 242, attributes := #[] }] 49 271 #[363, 365, 367] #[{ accessFlags := 25, nameIndex := 369, descriptorIndex := 276, attributes := #[] }, { accessFlags := 25, nameIndex := 371, descriptorIndex := 276, attributes := #[] }, { accessFlags := 25, nameIndex := 361, descriptorIndex := 362, attributes := #[] }, { accessFlags := 18, nameIndex := 275, descriptorIndex := 276, attributes := #[] }, { accessFlags := 25, nameIndex := 376, descriptorIndex := 377, attributes := #[] }, { accessFlags := 25, nameIndex := 379, descriptorIndex := 377, attributes := #[] }, { accessFlags := 26, nameIndex := 381, descriptorIndex := 276, attributes := #[] }])
  fields := #[{ name := "MIN_VALUE", type := .long, accessFlags := 25, slot := 0, constantValue := 0 }, { name := "MAX_VALUE", type := .long, accessFlags := 25, slot := 1, constantValue := 0 }, { name := "TYPE", type := (.object "java/lang/Class"), accessFlags := 25, slot := 2, constantValue := 0 }, { name := "value", type := .long, accessFlags := 18, slot := 0, constantValue := 0 }, { name := "SIZE", type := .int, accessFlags := 25, slot := 3, constantValue := 0 }, { name := "BYTES", type := .int, accessFlags := 25, slot := 4, constantValue := 0 }, { name := "serialVersionUID", type := .long, accessFlags := 26, slot := 5, constantValue := 0 }]
  methods := #[k9m0, k9m1]
  instanceTypes := #[.long]
  staticTypes := #[.long, .long, (.object "java/lang/Class"), .int, .int, .long]
  resolved := Array.replicate 524 none
  statics := none }

def pool10 : Array CpInfo := pool [(2, .class_ 4), (1, u "java/lang/Object"), (0, u "<init>"), (0, u "()V"), (0, .class_ 8), (0, u "java/lang/Long"), (7, .class_ 18), (1, u "java/lang/Long$LongCache"), (0, u "$assertionsDisabled"), (0, u "Z"), (8, u "archivedCache"), (0, u "[Ljava/lang/Long;"), (7, u "cache")] 24

def k10m0 : Method := { name := "<init>", desc := "()V", sig := { parameters := [], returnType := none }, accessFlags := 2, code := none }
/-- java/lang/Long$LongCache -/
def k10 : Class := { plain "java/lang/Long$LongCache" (some 0) with
  accessFlags := 48
  interfaces := #[]
  cf := some (fileOf pool10 16 #[.nestHost 7] #[{ accessFlags := 2, nameIndex := 5, descriptorIndex := 6, attributes := #[] }] 48 2 #[] #[{ accessFlags := 24, nameIndex := 38, descriptorIndex := 30, attributes := #[] }, { accessFlags := 8, nameIndex := 29, descriptorIndex := 30, attributes := #[] }, { accessFlags := 4120, nameIndex := 19, descriptorIndex := 20, attributes := #[] }])
  fields := #[{ name := "cache", type := (.array (.object "java/lang/Long")), accessFlags := 24, slot := 0, constantValue := 0 }, { name := "archivedCache", type := (.array (.object "java/lang/Long")), accessFlags := 8, slot := 1, constantValue := 0 }, { name := "$assertionsDisabled", type := .boolean, accessFlags := 4120, slot := 2, constantValue := 0 }]
  methods := #[k10m0]
  instanceTypes := #[]
  staticTypes := #[(.array (.object "java/lang/Long")), (.array (.object "java/lang/Long")), .boolean]
  resolved := Array.replicate 63 none
  statics := some 0 }

def pool11 : Array CpInfo := pool [(1, u "java/lang/Cloneable"), (0, .class_ 1), (0, u "java/lang/Object"), (0, .class_ 3)] 3

/-- java/lang/Cloneable -/
def k11 : Class := { plain "java/lang/Cloneable" (some 0) with
  accessFlags := 1537
  interfaces := #[]
  cf := some (fileOf pool11 2 #[] #[] 1537 4 #[] #[])
  fields := #[]
  methods := #[]
  instanceTypes := #[]
  staticTypes := #[]
  resolved := Array.replicate 8 none
  statics := none }

/-- the primitive byte -/
def k12 : Class := { plain "byte" none with kind := .primitive 'B', accessFlags := 0x411 }
/-- [B -/
def k13 : Class := { plain "[B" (some 0) with kind := .array 12 .byte, interfaces := #[11, 4], accessFlags := 1041 }

/-- the primitive int -/
def k14 : Class := { plain "int" none with kind := .primitive 'I', accessFlags := 0x411 }
/-- [I -/
def k15 : Class := { plain "[I" (some 0) with kind := .array 14 .int, interfaces := #[11, 4], accessFlags := 1041 }

/-- [Ljava/lang/Long; -/
def k16 : Class := { plain "[Ljava/lang/Long;" (some 0) with kind := .array 9 (.object "java/lang/Long"), interfaces := #[11, 4], accessFlags := 1041
  }

def heap : Heap := #[{ cls := 10, slots := #[.ref 1, .null, .int 0], vm := .statics 10 },
  { cls := 16, slots := #[.ref 2, .ref 3, .ref 4, .ref 5, .ref 6, .ref 7, .ref 8, .ref 9, .ref 10, .ref 11, .ref 12, .ref 13, .ref 14, .ref 15, .ref 16, .ref 17, .ref 18, .ref 19, .ref 20, .ref 21, .ref 22, .ref 23, .ref 24, .ref 25, .ref 26, .ref 27, .ref 28, .ref 29, .ref 30, .ref 31, .ref 32, .ref 33, .ref 34, .ref 35, .ref 36, .ref 37, .ref 38, .ref 39, .ref 40, .ref 41, .ref 42, .ref 43, .ref 44, .ref 45, .ref 46, .ref 47, .ref 48, .ref 49, .ref 50, .ref 51, .ref 52, .ref 53, .ref 54, .ref 55, .ref 56, .ref 57, .ref 58, .ref 59, .ref 60, .ref 61, .ref 62, .ref 63, .ref 64, .ref 65, .ref 66, .ref 67, .ref 68, .ref 69, .ref 70, .ref 71, .ref 72, .ref 73, .ref 74, .ref 75, .ref 76, .ref 77, .ref 78, .ref 79, .ref 80, .ref 81, .ref 82, .ref 83, .ref 84, .ref 85, .ref 86, .ref 87, .ref 88, .ref 89, .ref 90, .ref 91, .ref 92, .ref 93, .ref 94, .ref 95, .ref 96, .ref 97, .ref 98, .ref 99, .ref 100, .ref 101, .ref 102, .ref 103, .ref 104, .ref 105, .ref 106, .ref 107, .ref 108, .ref 109, .ref 110, .ref 111, .ref 112, .ref 113, .ref 114, .ref 115, .ref 116, .ref 117, .ref 118, .ref 119, .ref 120, .ref 121, .ref 122, .ref 123, .ref 124, .ref 125, .ref 126, .ref 127, .ref 128, .ref 129, .ref 130, .ref 131, .ref 132, .ref 133, .ref 134, .ref 135, .ref 136, .ref 137, .ref 138, .ref 139, .ref 140, .ref 141, .ref 142, .ref 143, .ref 144, .ref 145, .ref 146, .ref 147, .ref 148, .ref 149, .ref 150, .ref 151, .ref 152, .ref 153, .ref 154, .ref 155, .ref 156, .ref 157, .ref 158, .ref 159, .ref 160, .ref 161, .ref 162, .ref 163, .ref 164, .ref 165, .ref 166, .ref 167, .ref 168, .ref 169, .ref 170, .ref 171, .ref 172, .ref 173, .ref 174, .ref 175, .ref 176, .ref 177, .ref 178, .ref 179, .ref 180, .ref 181, .ref 182, .ref 183, .ref 184, .ref 185, .ref 186, .ref 187, .ref 188, .ref 189, .ref 190, .ref 191, .ref 192, .ref 193, .ref 194, .ref 195, .ref 196, .ref 197, .ref 198, .ref 199, .ref 200, .ref 201, .ref 202, .ref 203, .ref 204, .ref 205, .ref 206, .ref 207, .ref 208, .ref 209, .ref 210, .ref 211, .ref 212, .ref 213, .ref 214, .ref 215, .ref 216, .ref 217, .ref 218, .ref 219, .ref 220, .ref 221, .ref 222, .ref 223, .ref 224, .ref 225, .ref 226, .ref 227, .ref 228, .ref 229, .ref 230, .ref 231, .ref 232, .ref 233, .ref 234, .ref 235, .ref 236, .ref 237, .ref 238, .ref 239, .ref 240, .ref 241, .ref 242, .ref 243, .ref 244, .ref 245, .ref 246, .ref 247, .ref 248, .ref 249, .ref 250, .ref 251, .ref 252, .ref 253, .ref 254, .ref 255, .ref 256, .ref 257], vm := .none },
  { cls := 9, slots := #[.long (-128)], vm := .none },
  { cls := 9, slots := #[.long (-127)], vm := .none },
  { cls := 9, slots := #[.long (-126)], vm := .none },
  { cls := 9, slots := #[.long (-125)], vm := .none },
  { cls := 9, slots := #[.long (-124)], vm := .none },
  { cls := 9, slots := #[.long (-123)], vm := .none },
  { cls := 9, slots := #[.long (-122)], vm := .none },
  { cls := 9, slots := #[.long (-121)], vm := .none },
  { cls := 9, slots := #[.long (-120)], vm := .none },
  { cls := 9, slots := #[.long (-119)], vm := .none },
  { cls := 9, slots := #[.long (-118)], vm := .none },
  { cls := 9, slots := #[.long (-117)], vm := .none },
  { cls := 9, slots := #[.long (-116)], vm := .none },
  { cls := 9, slots := #[.long (-115)], vm := .none },
  { cls := 9, slots := #[.long (-114)], vm := .none },
  { cls := 9, slots := #[.long (-113)], vm := .none },
  { cls := 9, slots := #[.long (-112)], vm := .none },
  { cls := 9, slots := #[.long (-111)], vm := .none },
  { cls := 9, slots := #[.long (-110)], vm := .none },
  { cls := 9, slots := #[.long (-109)], vm := .none },
  { cls := 9, slots := #[.long (-108)], vm := .none },
  { cls := 9, slots := #[.long (-107)], vm := .none },
  { cls := 9, slots := #[.long (-106)], vm := .none },
  { cls := 9, slots := #[.long (-105)], vm := .none },
  { cls := 9, slots := #[.long (-104)], vm := .none },
  { cls := 9, slots := #[.long (-103)], vm := .none },
  { cls := 9, slots := #[.long (-102)], vm := .none },
  { cls := 9, slots := #[.long (-101)], vm := .none },
  { cls := 9, slots := #[.long (-100)], vm := .none },
  { cls := 9, slots := #[.long (-99)], vm := .none },
  { cls := 9, slots := #[.long (-98)], vm := .none },
  { cls := 9, slots := #[.long (-97)], vm := .none },
  { cls := 9, slots := #[.long (-96)], vm := .none },
  { cls := 9, slots := #[.long (-95)], vm := .none },
  { cls := 9, slots := #[.long (-94)], vm := .none },
  { cls := 9, slots := #[.long (-93)], vm := .none },
  { cls := 9, slots := #[.long (-92)], vm := .none },
  { cls := 9, slots := #[.long (-91)], vm := .none },
  { cls := 9, slots := #[.long (-90)], vm := .none },
  { cls := 9, slots := #[.long (-89)], vm := .none },
  { cls := 9, slots := #[.long (-88)], vm := .none },
  { cls := 9, slots := #[.long (-87)], vm := .none },
  { cls := 9, slots := #[.long (-86)], vm := .none },
  { cls := 9, slots := #[.long (-85)], vm := .none },
  { cls := 9, slots := #[.long (-84)], vm := .none },
  { cls := 9, slots := #[.long (-83)], vm := .none },
  { cls := 9, slots := #[.long (-82)], vm := .none },
  { cls := 9, slots := #[.long (-81)], vm := .none },
  { cls := 9, slots := #[.long (-80)], vm := .none },
  { cls := 9, slots := #[.long (-79)], vm := .none },
  { cls := 9, slots := #[.long (-78)], vm := .none },
  { cls := 9, slots := #[.long (-77)], vm := .none },
  { cls := 9, slots := #[.long (-76)], vm := .none },
  { cls := 9, slots := #[.long (-75)], vm := .none },
  { cls := 9, slots := #[.long (-74)], vm := .none },
  { cls := 9, slots := #[.long (-73)], vm := .none },
  { cls := 9, slots := #[.long (-72)], vm := .none },
  { cls := 9, slots := #[.long (-71)], vm := .none },
  { cls := 9, slots := #[.long (-70)], vm := .none },
  { cls := 9, slots := #[.long (-69)], vm := .none },
  { cls := 9, slots := #[.long (-68)], vm := .none },
  { cls := 9, slots := #[.long (-67)], vm := .none },
  { cls := 9, slots := #[.long (-66)], vm := .none },
  { cls := 9, slots := #[.long (-65)], vm := .none },
  { cls := 9, slots := #[.long (-64)], vm := .none },
  { cls := 9, slots := #[.long (-63)], vm := .none },
  { cls := 9, slots := #[.long (-62)], vm := .none },
  { cls := 9, slots := #[.long (-61)], vm := .none },
  { cls := 9, slots := #[.long (-60)], vm := .none },
  { cls := 9, slots := #[.long (-59)], vm := .none },
  { cls := 9, slots := #[.long (-58)], vm := .none },
  { cls := 9, slots := #[.long (-57)], vm := .none },
  { cls := 9, slots := #[.long (-56)], vm := .none },
  { cls := 9, slots := #[.long (-55)], vm := .none },
  { cls := 9, slots := #[.long (-54)], vm := .none },
  { cls := 9, slots := #[.long (-53)], vm := .none },
  { cls := 9, slots := #[.long (-52)], vm := .none },
  { cls := 9, slots := #[.long (-51)], vm := .none },
  { cls := 9, slots := #[.long (-50)], vm := .none },
  { cls := 9, slots := #[.long (-49)], vm := .none },
  { cls := 9, slots := #[.long (-48)], vm := .none },
  { cls := 9, slots := #[.long (-47)], vm := .none },
  { cls := 9, slots := #[.long (-46)], vm := .none },
  { cls := 9, slots := #[.long (-45)], vm := .none },
  { cls := 9, slots := #[.long (-44)], vm := .none },
  { cls := 9, slots := #[.long (-43)], vm := .none },
  { cls := 9, slots := #[.long (-42)], vm := .none },
  { cls := 9, slots := #[.long (-41)], vm := .none },
  { cls := 9, slots := #[.long (-40)], vm := .none },
  { cls := 9, slots := #[.long (-39)], vm := .none },
  { cls := 9, slots := #[.long (-38)], vm := .none },
  { cls := 9, slots := #[.long (-37)], vm := .none },
  { cls := 9, slots := #[.long (-36)], vm := .none },
  { cls := 9, slots := #[.long (-35)], vm := .none },
  { cls := 9, slots := #[.long (-34)], vm := .none },
  { cls := 9, slots := #[.long (-33)], vm := .none },
  { cls := 9, slots := #[.long (-32)], vm := .none },
  { cls := 9, slots := #[.long (-31)], vm := .none },
  { cls := 9, slots := #[.long (-30)], vm := .none },
  { cls := 9, slots := #[.long (-29)], vm := .none },
  { cls := 9, slots := #[.long (-28)], vm := .none },
  { cls := 9, slots := #[.long (-27)], vm := .none },
  { cls := 9, slots := #[.long (-26)], vm := .none },
  { cls := 9, slots := #[.long (-25)], vm := .none },
  { cls := 9, slots := #[.long (-24)], vm := .none },
  { cls := 9, slots := #[.long (-23)], vm := .none },
  { cls := 9, slots := #[.long (-22)], vm := .none },
  { cls := 9, slots := #[.long (-21)], vm := .none },
  { cls := 9, slots := #[.long (-20)], vm := .none },
  { cls := 9, slots := #[.long (-19)], vm := .none },
  { cls := 9, slots := #[.long (-18)], vm := .none },
  { cls := 9, slots := #[.long (-17)], vm := .none },
  { cls := 9, slots := #[.long (-16)], vm := .none },
  { cls := 9, slots := #[.long (-15)], vm := .none },
  { cls := 9, slots := #[.long (-14)], vm := .none },
  { cls := 9, slots := #[.long (-13)], vm := .none },
  { cls := 9, slots := #[.long (-12)], vm := .none },
  { cls := 9, slots := #[.long (-11)], vm := .none },
  { cls := 9, slots := #[.long (-10)], vm := .none },
  { cls := 9, slots := #[.long (-9)], vm := .none },
  { cls := 9, slots := #[.long (-8)], vm := .none },
  { cls := 9, slots := #[.long (-7)], vm := .none },
  { cls := 9, slots := #[.long (-6)], vm := .none },
  { cls := 9, slots := #[.long (-5)], vm := .none },
  { cls := 9, slots := #[.long (-4)], vm := .none },
  { cls := 9, slots := #[.long (-3)], vm := .none },
  { cls := 9, slots := #[.long (-2)], vm := .none },
  { cls := 9, slots := #[.long (-1)], vm := .none },
  { cls := 9, slots := #[.long 0], vm := .none },
  { cls := 9, slots := #[.long 1], vm := .none },
  { cls := 9, slots := #[.long 2], vm := .none },
  { cls := 9, slots := #[.long 3], vm := .none },
  { cls := 9, slots := #[.long 4], vm := .none },
  { cls := 9, slots := #[.long 5], vm := .none },
  { cls := 9, slots := #[.long 6], vm := .none },
  { cls := 9, slots := #[.long 7], vm := .none },
  { cls := 9, slots := #[.long 8], vm := .none },
  { cls := 9, slots := #[.long 9], vm := .none },
  { cls := 9, slots := #[.long 10], vm := .none },
  { cls := 9, slots := #[.long 11], vm := .none },
  { cls := 9, slots := #[.long 12], vm := .none },
  { cls := 9, slots := #[.long 13], vm := .none },
  { cls := 9, slots := #[.long 14], vm := .none },
  { cls := 9, slots := #[.long 15], vm := .none },
  { cls := 9, slots := #[.long 16], vm := .none },
  { cls := 9, slots := #[.long 17], vm := .none },
  { cls := 9, slots := #[.long 18], vm := .none },
  { cls := 9, slots := #[.long 19], vm := .none },
  { cls := 9, slots := #[.long 20], vm := .none },
  { cls := 9, slots := #[.long 21], vm := .none },
  { cls := 9, slots := #[.long 22], vm := .none },
  { cls := 9, slots := #[.long 23], vm := .none },
  { cls := 9, slots := #[.long 24], vm := .none },
  { cls := 9, slots := #[.long 25], vm := .none },
  { cls := 9, slots := #[.long 26], vm := .none },
  { cls := 9, slots := #[.long 27], vm := .none },
  { cls := 9, slots := #[.long 28], vm := .none },
  { cls := 9, slots := #[.long 29], vm := .none },
  { cls := 9, slots := #[.long 30], vm := .none },
  { cls := 9, slots := #[.long 31], vm := .none },
  { cls := 9, slots := #[.long 32], vm := .none },
  { cls := 9, slots := #[.long 33], vm := .none },
  { cls := 9, slots := #[.long 34], vm := .none },
  { cls := 9, slots := #[.long 35], vm := .none },
  { cls := 9, slots := #[.long 36], vm := .none },
  { cls := 9, slots := #[.long 37], vm := .none },
  { cls := 9, slots := #[.long 38], vm := .none },
  { cls := 9, slots := #[.long 39], vm := .none },
  { cls := 9, slots := #[.long 40], vm := .none },
  { cls := 9, slots := #[.long 41], vm := .none },
  { cls := 9, slots := #[.long 42], vm := .none },
  { cls := 9, slots := #[.long 43], vm := .none },
  { cls := 9, slots := #[.long 44], vm := .none },
  { cls := 9, slots := #[.long 45], vm := .none },
  { cls := 9, slots := #[.long 46], vm := .none },
  { cls := 9, slots := #[.long 47], vm := .none },
  { cls := 9, slots := #[.long 48], vm := .none },
  { cls := 9, slots := #[.long 49], vm := .none },
  { cls := 9, slots := #[.long 50], vm := .none },
  { cls := 9, slots := #[.long 51], vm := .none },
  { cls := 9, slots := #[.long 52], vm := .none },
  { cls := 9, slots := #[.long 53], vm := .none },
  { cls := 9, slots := #[.long 54], vm := .none },
  { cls := 9, slots := #[.long 55], vm := .none },
  { cls := 9, slots := #[.long 56], vm := .none },
  { cls := 9, slots := #[.long 57], vm := .none },
  { cls := 9, slots := #[.long 58], vm := .none },
  { cls := 9, slots := #[.long 59], vm := .none },
  { cls := 9, slots := #[.long 60], vm := .none },
  { cls := 9, slots := #[.long 61], vm := .none },
  { cls := 9, slots := #[.long 62], vm := .none },
  { cls := 9, slots := #[.long 63], vm := .none },
  { cls := 9, slots := #[.long 64], vm := .none },
  { cls := 9, slots := #[.long 65], vm := .none },
  { cls := 9, slots := #[.long 66], vm := .none },
  { cls := 9, slots := #[.long 67], vm := .none },
  { cls := 9, slots := #[.long 68], vm := .none },
  { cls := 9, slots := #[.long 69], vm := .none },
  { cls := 9, slots := #[.long 70], vm := .none },
  { cls := 9, slots := #[.long 71], vm := .none },
  { cls := 9, slots := #[.long 72], vm := .none },
  { cls := 9, slots := #[.long 73], vm := .none },
  { cls := 9, slots := #[.long 74], vm := .none },
  { cls := 9, slots := #[.long 75], vm := .none },
  { cls := 9, slots := #[.long 76], vm := .none },
  { cls := 9, slots := #[.long 77], vm := .none },
  { cls := 9, slots := #[.long 78], vm := .none },
  { cls := 9, slots := #[.long 79], vm := .none },
  { cls := 9, slots := #[.long 80], vm := .none },
  { cls := 9, slots := #[.long 81], vm := .none },
  { cls := 9, slots := #[.long 82], vm := .none },
  { cls := 9, slots := #[.long 83], vm := .none },
  { cls := 9, slots := #[.long 84], vm := .none },
  { cls := 9, slots := #[.long 85], vm := .none },
  { cls := 9, slots := #[.long 86], vm := .none },
  { cls := 9, slots := #[.long 87], vm := .none },
  { cls := 9, slots := #[.long 88], vm := .none },
  { cls := 9, slots := #[.long 89], vm := .none },
  { cls := 9, slots := #[.long 90], vm := .none },
  { cls := 9, slots := #[.long 91], vm := .none },
  { cls := 9, slots := #[.long 92], vm := .none },
  { cls := 9, slots := #[.long 93], vm := .none },
  { cls := 9, slots := #[.long 94], vm := .none },
  { cls := 9, slots := #[.long 95], vm := .none },
  { cls := 9, slots := #[.long 96], vm := .none },
  { cls := 9, slots := #[.long 97], vm := .none },
  { cls := 9, slots := #[.long 98], vm := .none },
  { cls := 9, slots := #[.long 99], vm := .none },
  { cls := 9, slots := #[.long 100], vm := .none },
  { cls := 9, slots := #[.long 101], vm := .none },
  { cls := 9, slots := #[.long 102], vm := .none },
  { cls := 9, slots := #[.long 103], vm := .none },
  { cls := 9, slots := #[.long 104], vm := .none },
  { cls := 9, slots := #[.long 105], vm := .none },
  { cls := 9, slots := #[.long 106], vm := .none },
  { cls := 9, slots := #[.long 107], vm := .none },
  { cls := 9, slots := #[.long 108], vm := .none },
  { cls := 9, slots := #[.long 109], vm := .none },
  { cls := 9, slots := #[.long 110], vm := .none },
  { cls := 9, slots := #[.long 111], vm := .none },
  { cls := 9, slots := #[.long 112], vm := .none },
  { cls := 9, slots := #[.long 113], vm := .none },
  { cls := 9, slots := #[.long 114], vm := .none },
  { cls := 9, slots := #[.long 115], vm := .none },
  { cls := 9, slots := #[.long 116], vm := .none },
  { cls := 9, slots := #[.long 117], vm := .none },
  { cls := 9, slots := #[.long 118], vm := .none },
  { cls := 9, slots := #[.long 119], vm := .none },
  { cls := 9, slots := #[.long 120], vm := .none },
  { cls := 9, slots := #[.long 121], vm := .none },
  { cls := 9, slots := #[.long 122], vm := .none },
  { cls := 9, slots := #[.long 123], vm := .none },
  { cls := 9, slots := #[.long 124], vm := .none },
  { cls := 9, slots := #[.long 125], vm := .none },
  { cls := 9, slots := #[.long 126], vm := .none },
  { cls := 9, slots := #[.long 127], vm := .none }]
def classes : Array Class := #[k0, k1, k2, k3, k4, k5, k6, k7, k8, k9, k10, k11, k12, k13, k14, k15, k16]
def interned : List (Array UInt16 × Addr) := []
def slotsUsed : Nat := 515
def theMethod : MethodId := ⟨1, 1⟩
def args0 : Array Value := #[.long 5, .long 9, .long 2, .long 3, .int 0]
def aboutOver (below : List Frame) : State where
  vm := { classes := classes, interned := interned.toArray }
  heap := heap
  slotsUsed := slotsUsed
  threads := #[{ frames := .invoking theMethod args0 :: below }]
def below0 : List Frame := [.native { method := ⟨0, 0⟩, args := #[] }]
def about1 : State := aboutOver below0
def p0 : Program := .bare "" "" ""
def e0 : Env := launch0.env 0 0 0
theorem w_frames : about1.frames = Frame.invoking theMethod args0 :: below0 := rfl
set_option maxRecDepth 65536 in
theorem w_args : argsFit about1.vm theMethod args0 = true := by decide +kernel
set_option maxRecDepth 65536 in
theorem w_heap : heapFits about1 = true := by decide +kernel
set_option maxRecDepth 65536 in
theorem w_runnable : about1.curStatus? = some .runnable := by decide +kernel
set_option maxRecDepth 65536 in
theorem w_alone : about1.alone = true := by decide +kernel
set_option maxRecDepth 65536 in
theorem w_named : about1.methodNamed? x = some theMethod := by decide +kernel
set_option maxRecDepth 65536 in
theorem w_hears : about1.hears theMethod below0 = true := by decide +kernel
set_option maxRecDepth 65536 in
theorem w_ripe : about1.ripe theMethod args0 below0 = true := by decide +kernel
theorem w_running : about1.status = .running := rfl
set_option maxRecDepth 65536 in
theorem w_room : about1.hasRoom e0.platform room_1 = true :=
  launch0.hasRoom_least _ room_1 (by decide +kernel) (by decide +kernel) (by decide +kernel) (by decide +kernel) (by decide +kernel) (by decide +kernel)
theorem allAtoms_all (ts : List Jvm.Cond) (a : Array Jvm.Value) (st : Jvm.State) : (allAtoms ts).before a st = ts.all (fun c => c.before a st) := by
  induction ts with
  | nil => rfl
  | cons c t ih =>
    show (Jvm.Cond.and c (allAtoms t)).before a st = _
    rw [Jvm.Cond.before_and, ih, List.all_cons]
def words1 : List Jvm.Cond := Jvm.Cond.code x code maxLocals ret :: tables_1
/-- a 'code' word, met by the world's own term for the bytes: nothing is compared byte by byte -/
theorem code_word {y : MethodName} {bytes : ByteArray} {mx : Nat} {rt : Option FieldType} {a : Array Value} {s : State} {m : MethodId} {meth : Method} {c : Code} (h1 : s.methodNamed? y = some m) (h2 : s.vm.method? m = some meth) (h3 : meth.code = some c) (h4 : c.code = bytes)
    (h5 : (c.maxLocals == mx && c.exceptionTable.isEmpty && decide (c.maxStack ≤ mostOperands) && decide (meth.sig.returnType = rt) && !meth.locks && decide (parseMethodDescriptor y.desc = some meth.sig)) = true) : (Jvm.Cond.code y bytes mx rt).before a s = true := by
  simp only [Bool.and_eq_true, beq_iff_eq, Bool.not_eq_true', decide_eq_true_eq] at h5
  obtain ⟨⟨⟨⟨⟨g1, g2⟩, g3⟩, g4⟩, g5⟩, g6⟩ := h5
  simp [Cond.before, Cond.holds, Cond.value, h1, h2, h3, h4, g1, g2, g3, g4, g5, g6]
def isCode : Jvm.Cond → Bool
  | .code _ _ _ _ => true
  | _ => false
theorem all_split {L : List Jvm.Cond} {P : Jvm.Cond → Bool} (h1 : L.all (fun c => isCode c || P c) = true) (h2 : ∀ c ∈ L.filter isCode, P c = true) : L.all P = true := by
  refine List.all_eq_true.mpr fun c hc => ?_
  have h := List.all_eq_true.mp h1 c hc
  rcases Bool.eq_false_or_eq_true (isCode c) with hi | hi
  · exact h2 c (List.mem_filter.mpr ⟨hc, hi⟩)
  · simpa [hi] using h
set_option maxRecDepth 65536 in
theorem w_c0 : (Jvm.Cond.code x code maxLocals ret).before args0 about1 = true := code_word (m := ⟨1, 1⟩) (meth := k1m1) (c := k1c1) (by decide +kernel) rfl rfl rfl (by decide +kernel)
set_option maxRecDepth 65536 in
theorem w_c1 : (Jvm.Cond.code ({ cls := "java/lang/Math", name := "min", desc := "(JJ)J" } : Jvm.MethodName) jdk_29_method_70_code (4 : Nat) (Option.some Jvm.ClassFile.FieldType.long)).before args0 about1 = true := code_word (m := ⟨2, 2⟩) (meth := k2m2) (c := k2c2) (by decide +kernel) rfl rfl rfl (by decide +kernel)
set_option maxRecDepth 65536 in
theorem w_c2 : (Jvm.Cond.code ({ cls := "java/lang/Math", name := "max", desc := "(JJ)J" } : Jvm.MethodName) jdk_29_method_66_code (4 : Nat) (Option.some Jvm.ClassFile.FieldType.long)).before args0 about1 = true := code_word (m := ⟨2, 1⟩) (meth := k2m1) (c := k2c1) (by decide +kernel) rfl rfl rfl (by decide +kernel)
set_option maxRecDepth 65536 in
theorem w_c3 : (Jvm.Cond.code ({ cls := "com/example/quorumhelm/quorumhelm/io/JournalSegment", name := "<init>", desc := "(JJZ)V" } : Jvm.MethodName) prog_34_method_1_code (6 : Nat) (Option.none : Option Jvm.ClassFile.FieldType)).before args0 about1 = true := code_word (m := ⟨3, 0⟩) (meth := k3m0) (c := k3c0) (by decide +kernel) rfl rfl rfl (by decide +kernel)
set_option maxRecDepth 65536 in
theorem w_c4 : (Jvm.Cond.code ({ cls := "java/lang/Object", name := "<init>", desc := "()V" } : Jvm.MethodName) object_method_1_code (1 : Nat) (Option.none : Option Jvm.ClassFile.FieldType)).before args0 about1 = true := code_word (m := ⟨0, 0⟩) (meth := k0m0) (c := k0c0) (by decide +kernel) rfl rfl rfl (by decide +kernel)
set_option maxRecDepth 65536 in
theorem w_c5 : (Jvm.Cond.code ({ cls := "com/example/quorumhelm/quorumhelm/io/JournalSegment", name := "equals", desc := "(Ljava/lang/Object;)Z" } : Jvm.MethodName) prog_34_method_5_code (3 : Nat) (Option.some Jvm.ClassFile.FieldType.boolean)).before args0 about1 = true := code_word (m := ⟨3, 1⟩) (meth := k3m1) (c := k3c1) (by decide +kernel) rfl rfl rfl (by decide +kernel)
set_option maxRecDepth 65536 in
theorem w_c6 : (Jvm.Cond.code ({ cls := "java/lang/Long", name := "valueOf", desc := "(J)Ljava/lang/Long;" } : Jvm.MethodName) jdk_35_method_24_code (3 : Nat) (Option.some (Jvm.ClassFile.FieldType.object "java/lang/Long"))).before args0 about1 = true := code_word (m := ⟨9, 0⟩) (meth := k9m0) (c := k9c0) (by decide +kernel) rfl rfl rfl (by decide +kernel)
set_option maxRecDepth 65536 in
theorem w_c7 : (Jvm.Cond.code ({ cls := "java/lang/Long", name := "<init>", desc := "(J)V" } : Jvm.MethodName) jdk_35_method_26_code (3 : Nat) (Option.none : Option Jvm.ClassFile.FieldType)).before args0 about1 = true := code_word (m := ⟨9, 1⟩) (meth := k9m1) (c := k9c1) (by decide +kernel) rfl rfl rfl (by decide +kernel)
set_option maxRecDepth 65536 in
theorem w_c8 : (Jvm.Cond.code ({ cls := "java/lang/Number", name := "<init>", desc := "()V" } : Jvm.MethodName) jdk_18_method_1_code (1 : Nat) (Option.none : Option Jvm.ClassFile.FieldType)).before args0 about1 = true := code_word (m := ⟨5, 0⟩) (meth := k5m0) (c := k5c0) (by decide +kernel) rfl rfl rfl (by decide +kernel)
def codes1 : List Jvm.Cond := [Jvm.Cond.code x code maxLocals ret, Jvm.Cond.code ({ cls := "java/lang/Math", name := "min", desc := "(JJ)J" } : Jvm.MethodName) jdk_29_method_70_code (4 : Nat) (Option.some Jvm.ClassFile.FieldType.long), Jvm.Cond.code ({ cls := "java/lang/Math", name := "max", desc := "(JJ)J" } : Jvm.MethodName) jdk_29_method_66_code (4 : Nat) (Option.some Jvm.ClassFile.FieldType.long), Jvm.Cond.code ({ cls := "com/example/quorumhelm/quorumhelm/io/JournalSegment", name := "<init>", desc := "(JJZ)V" } : Jvm.MethodName) prog_34_method_1_code (6 : Nat) (Option.none : Option Jvm.ClassFile.FieldType), Jvm.Cond.code ({ cls := "java/lang/Object", name := "<init>", desc := "()V" } : Jvm.MethodName) object_method_1_code (1 : Nat) (Option.none : Option Jvm.ClassFile.FieldType), Jvm.Cond.code ({ cls := "com/example/quorumhelm/quorumhelm/io/JournalSegment", name := "equals", desc := "(Ljava/lang/Object;)Z" } : Jvm.MethodName) prog_34_method_5_code (3 : Nat) (Option.some Jvm.ClassFile.FieldType.boolean), Jvm.Cond.code ({ cls := "java/lang/Long", name := "valueOf", desc := "(J)Ljava/lang/Long;" } : Jvm.MethodName) jdk_35_method_24_code (3 : Nat) (Option.some (Jvm.ClassFile.FieldType.object "java/lang/Long")), Jvm.Cond.code ({ cls := "java/lang/Long", name := "<init>", desc := "(J)V" } : Jvm.MethodName) jdk_35_method_26_code (3 : Nat) (Option.none : Option Jvm.ClassFile.FieldType), Jvm.Cond.code ({ cls := "java/lang/Number", name := "<init>", desc := "()V" } : Jvm.MethodName) jdk_18_method_1_code (1 : Nat) (Option.none : Option Jvm.ClassFile.FieldType)]
set_option maxRecDepth 65536 in
theorem codes_eq : words1.filter isCode = codes1 := rfl
theorem w_codes : ∀ c ∈ words1.filter isCode, c.before args0 about1 = true := by
  rw [codes_eq]
  intro c hc
  simp only [codes1, List.mem_cons, List.not_mem_nil, or_false] at hc
  rcases hc with rfl | rfl | rfl | rfl | rfl | rfl | rfl | rfl | rfl
  · exact w_c0
  · exact w_c1
  · exact w_c2
  · exact w_c3
  · exact w_c4
  · exact w_c5
  · exact w_c6
  · exact w_c7
  · exact w_c8
set_option maxRecDepth 65536 in
theorem w_t1 : (words1.take 24).all (fun c => isCode c || c.before args0 about1) = true := by decide +kernel
set_option maxRecDepth 65536 in
theorem w_t2 : ((words1.drop 24).take 24).all (fun c => isCode c || c.before args0 about1) = true := by decide +kernel
set_option maxRecDepth 65536 in
theorem w_t3 : ((words1.drop 24).drop 24).all (fun c => isCode c || c.before args0 about1) = true := by decide +kernel
theorem w_tables : (allAtoms (Jvm.Cond.code x code maxLocals ret :: tables_1)).before args0 about1 = true := by
  rw [allAtoms_all]
  show words1.all (fun c => c.before args0 about1) = true
  refine all_split ?_ w_codes
  rw [← List.take_append_drop 24 words1, List.all_append, w_t1, ← List.take_append_drop 24 (words1.drop 24), List.all_append, w_t2, w_t3]
  rfl
set_option maxRecDepth 65536 in
theorem w_rest : rest_1_c.before args0 about1 = true := by decide +kernel
set_option maxRecDepth 65536 in
theorem w_case : (Jvm.Cond.and given_1 narrow_1).before args0 about1 = true := by decide +kernel
theorem w_applies : (headSpec (Jvm.Cond.code x code maxLocals ret :: tables_1) room_1).applies x e0.platform about1 = true :=
  (Spec.applies_iff w_frames).mpr ⟨w_running, w_runnable, w_alone, w_named, w_hears, w_ripe, w_room, w_tables⟩
theorem atStart : AtStart classFile x code maxLocals ret World_1 tables_1 room_1 Calls_1 rest_1 Pre_1 launch0 p0 e0 about1 theMethod args0 below0 :=
  ⟨lists_1, trivial, launch0.admits_env _ _ _, launch0.least_env, fairChoices_fair.cas, fairChoices_fair.clock, w_frames, w_args, w_heap, w_applies, trivial, w_rest, w_case⟩
end start1
theorem witness_1 : WitnessClaimed_1 := ⟨start1.p0, start1.e0, start1.about1, start1.theMethod, start1.args0, start1.below0, start1.atStart⟩
end Jvm.Pilot.@@N@@
