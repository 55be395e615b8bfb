import JvmDerived
import JvmDerived.Pilot.@@N@@Statement
import JvmDerived.Pilot.@@N@@Code
set_option linter.unusedVariables false
set_option linter.unusedSimpArgs false
namespace Jvm.RoadKit
open Sem ClassFile Op Lib Jvm.Stand Jvm.Free Jvm.LawKit
section New
variable {p : Program} {l : Launch} {e : Env} {R : Room} {s : State} {m : MethodId} {args : Array Value} {below : List Frame} {meth : Method} {c : Code} {T : State} {locs : List Loc} {cells slots : Nat}
theorem retI (X : Stand p l e R s m args below meth c T locs cells slots) (hx : p.tables.exec = Jvm.exec) {pc : Nat} {Ls : Array Slot} {z : Int32} {rest : List Value} (hret : meth.sig.returnType = some .int) (hd : decode c.code pc = .ok (.ireturn, 1)) {fs : List Frame}
    (hl : ∀ (f : JFrame) (acts : List Action), f.method = m → f.locked = none → f.entered = [] → (doReturn e (T.setTop f) acts (some (.int z))).1 = T.setFrames fs) : Steps p.tables e below (T.setTop (mkF m pc Ls (.int z :: rest))) (T.setFrames fs) := by
  have hm' : T.vm.method? m = some meth := X.method'
  have hn : narrow .int (.int z) = .int z := rfl
  show Steps p.tables e below (T.setTop { method := m, pc := pc, locals := Ls, stack := _ :: rest, locked := none }) _
  jvm_step X.here [X.here.top, hx, hd, hm', hret, hn]
  first | (intro acts; rw [hl _ acts rfl rfl rfl]) | rw [hl _ _ rfl rfl rfl]
  exact Steps.refl _
theorem own_retJ (X : Stand p l e R s m args below meth c T locs cells slots) (hx : p.tables.exec = Jvm.exec) {pc : Nat} {Ls : Array Slot} {z : Int64} {rest : List Value} (hret : meth.sig.returnType = some .long) (hd : decode c.code pc = .ok (.lreturn, 1)) {fs : List Frame}
    (hl : ∀ (f : JFrame) (acts : List Action), f.method = m → f.locked = none → f.entered = [] → (doReturn e (T.setTop f) acts (some (.long z))).1 = T.setFrames fs) : Steps p.tables e below (T.setTop (mkF m pc Ls (.long z :: rest))) (T.setFrames fs) :=
  retOut X hx hret rfl (Or.inr (Or.inl ⟨rfl, rfl, z, rfl⟩)) hd hl
theorem own_retA (X : Stand p l e R s m args below meth c T locs cells slots) (hx : p.tables.exec = Jvm.exec) {pc : Nat} {Ls : Array Slot} {w : Value} {t : FieldType} {rest : List Value} (hret : meth.sig.returnType = some t) (ht : t.isReference = true) (hw : w.isRef = true) (hd : decode c.code pc = .ok (.areturn, 1)) {fs : List Frame}
    (hl : ∀ (f : JFrame) (acts : List Action), f.method = m → f.locked = none → f.entered = [] → (doReturn e (T.setTop f) acts (some w)).1 = T.setFrames fs) : Steps p.tables e below (T.setTop (mkF m pc Ls (w :: rest))) (T.setFrames fs) :=
  retOut X hx hret (by rcases ref_cases hw with rfl | ⟨a, rfl⟩ <;> cases t <;> first | rfl | (simp [FieldType.isReference] at ht)) (Or.inr (Or.inr (Or.inr (Or.inr ⟨rfl, ht, hw⟩)))) hd hl
theorem own_retN (X : Stand p l e R s m args below meth c T locs cells slots) (hx : p.tables.exec = Jvm.exec) {pc : Nat} {Ls : Array Slot} {z z' : Int32} {t : FieldType} {rest : List Value} (hret : meth.sig.returnType = some t) (ht : t = .boolean ∨ t = .byte ∨ t = .char ∨ t = .short) (hz : nar t z = z')
    (hd : decode c.code pc = .ok (.ireturn, 1)) {fs : List Frame} (hl : ∀ (f : JFrame) (acts : List Action), f.method = m → f.locked = none → f.entered = [] → (doReturn e (T.setTop f) acts (some (.int z'))).1 = T.setFrames fs) :
    Steps p.tables e below (T.setTop (mkF m pc Ls (.int z :: rest))) (T.setFrames fs) := by subst hz; exact retN X hx hret ht hd hl
/-- from a state, some run leads to an end that F takes -/
def own_Gl (tb : Tables) (e : Env) (below : List Frame) (F : State → Outcome → Prop) (st : State) : Prop := ∃ s₂ o, Steps tb e below st s₂ ∧ F s₂ o
theorem own_go {tb : Tables} {F : State → Outcome → Prop} {st st' : State} (h : ∀ t, Steps tb e below st' t → Steps tb e below st t) (g : own_Gl tb e below F st') : own_Gl tb e below F st := by
  obtain ⟨t, o, k, r⟩ := g; exact ⟨t, o, h t k, r⟩
theorem own_fin {tb : Tables} {F : State → Outcome → Prop} {st t : State} {o : Outcome} (h : Steps tb e below st t) (r : F t o) : own_Gl tb e below F st := ⟨t, o, h, r⟩
theorem own_start {tb : Tables} {G : State → Outcome → Prop} {g g' : JFrame} (q : g = g') (k : ∀ F, F = G → own_Gl tb e below F (T.setTop g')) : ∃ s₂ o, Steps tb e below (T.setTop g) s₂ ∧ G s₂ o := by subst q; exact k G rfl
end New
/-- an array of length z whose place j holds g j -/
def own_A (Z : State) (h : Heap) (a : Addr) (ty : FieldType) (z : Int32) (g : Nat → Value) : Prop := ∃ c : Cell, Arr Z h a c ty ∧ c.slots.size = z.toNatClampNeg ∧ ¬ z < 0 ∧ ∀ j, j < c.slots.size → c.slots[j]? = some (g j)
section OwnA
variable {Z : State} {h h' : Heap} {a b : Addr} {ty : FieldType} {z : Int32} {g : Nat → Value} {sl : Nat} {v : Value} {ws : List Addr}
theorem own_A.lt (F : own_A Z h a ty z g) : a < h.size := by obtain ⟨c, A, -⟩ := F; exact A.lt
theorem own_A.ext (F : own_A Z h a ty z g) (E : Ext h h') : own_A Z h' a ty z g := by obtain ⟨c, A, r⟩ := F; exact ⟨c, A.ext E, r⟩
theorem own_A.other (F : own_A Z h b ty z g) (W : Wr h h' a sl v) (q : b ≠ a) : own_A Z h' b ty z g := by obtain ⟨c, A, r⟩ := F; exact ⟨c, A.other W q, r⟩
theorem own_A.keep (F : own_A Z h a ty z g) (K : Keep h h' ws) (q : a ∉ ws) : own_A Z h' a ty z g := by obtain ⟨c, A, r⟩ := F; exact ⟨c, ⟨K.2.1 a c A.1 q, A.2⟩, r⟩
theorem own_A.set (F : own_A Z h a ty z g) {i : Nat} (W : Wr h h' a i v) : own_A Z h' a ty z (fun k => if k = i then v else g k) := by
  obtain ⟨c, A, S, N, H⟩ := F
  refine ⟨_, A.same W, by rw [sz_set]; exact S, N, fun j hj => ?_⟩
  rw [sz_set] at hj
  by_cases u : j = i
  · subst u; simp [Cell.setSlot, hj]
  · show _ = some (if j = i then v else g j)
    rw [if_neg u]; simp only [Cell.setSlot]; rw [Array.getElem?_setIfInBounds_ne (fun q => u q.symm)]; exact H j hj
theorem own_A.new {k : ClassId} (A : Arr Z h a (newA k ty z) ty) (q : ¬ z < 0) : own_A Z h a ty z (fun _ => defaultValue ty) := by
  obtain ⟨c, A', -, S, N, H, -⟩ := Arv.new A q
  exact ⟨c, A', S, N, fun j hj => H j hj⟩
theorem own_A.of (F : own_A Z h a ty z g) {g' : Nat → Value} (q : ∀ j, j < z.toNatClampNeg → g j = g' j) : own_A Z h a ty z g' := by
  obtain ⟨c, A, S, N, H⟩ := F; exact ⟨c, A, S, N, fun j hj => by rw [← q j (S ▸ hj)]; exact H j hj⟩
end OwnA
end Jvm.RoadKit
namespace Jvm.Pilot.@@N@@
open Jvm Jvm.ClassFile Sem Op Lib Jvm.Free Jvm.Stand Jvm.LawKit Jvm.RoadKit Bundle Jvm.Pilot.@@N@@.Jvm.D

def own_p (x : Int32) : Int32 := if 0 < x then 1 else 0
theorem own_r (x : Int32) : 0 ≤ ((x &&& 2147483647) % 5).toInt ∧ ((x &&& 2147483647) % 5).toInt ≤ 4 := by
  have h1 : 0 ≤ (x &&& 2147483647).toInt := by
    have : ¬ ((x &&& 2147483647) < 0) := by rw [Jvm.Free.XT.and_neg32]; intro h; exact absurd h.2 (by decide)
    rw [Int32.lt_iff_toInt_lt] at this
    have e0 : (0 : Int32).toInt = 0 := rfl
    omega
  rw [Int32.toInt_mod, Int.tmod_eq_emod_of_nonneg h1]
  have e : (5 : Int32).toInt = 5 := rfl
  rw [e]
  generalize (x &&& 2147483647).toInt = n at *
  omega
theorem own_five {r : Int32} (h : 0 ≤ r.toInt ∧ r.toInt ≤ 4) : r = 0 ∨ r = 1 ∨ r = 2 ∨ r = 3 ∨ r = 4 := by
  simp only [← Int32.toInt_inj]
  have e0 : (0 : Int32).toInt = 0 := rfl
  have e1 : (1 : Int32).toInt = 1 := rfl
  have e2 : (2 : Int32).toInt = 2 := rfl
  have e3 : (3 : Int32).toInt = 3 := rfl
  have e4 : (4 : Int32).toInt = 4 := rfl
  omega
theorem own_fi {args : Array Value} {s : State} {t : Term} {C n d : String} {k : Int32} {x : Addr} (h : (Jvm.Cond.eq (.field t C n d) (.int k)).value args s none s [] = some true) (ht : t.eval args s none [] s = some (.ref x)) : Fld s s.heap x C n d (.int k) := by
  apply Fld.start
  simp only [Cond.value, fld_at ht, Term.int_eval] at h
  cases hf : s.fieldOf? x C n d with
  | none => simp [hf] at h
  | some v => cases v <;> simp [hf] at h ⊢; exact h
theorem ef_rm1 (m : MethodId) (x0 : Addr) : entryFrame m #[(.ref x0)] 1 = mkF m 0 #[.val (.ref x0)] [] := by first | (simp [entryFrame, mkF, argsToLocals, Value.category]; done) | rfl
theorem pn_0 : plainName "com/example/bordero/bordero/core/Field$Format" = true := by first | (simp [plainName, overriddenIn]; done) | decide +kernel
theorem d1_0 : decode prog_15_method_5_code 0 = .ok (.aload_n 0, 1) := by decide +kernel
theorem d1_1 : decode prog_15_method_5_code 1 = .ok (.getfield 42, 3) := by decide +kernel
theorem d1_4 : decode prog_15_method_5_code 4 = .ok (.ifCond .le 7, 3) := by decide +kernel
theorem d1_7 : decode prog_15_method_5_code 7 = .ok (.iconst 1, 1) := by decide +kernel
theorem d1_8 : decode prog_15_method_5_code 8 = .ok (.goto 4, 3) := by decide +kernel
theorem d1_12 : decode prog_15_method_5_code 12 = .ok (.ireturn, 1) := by decide +kernel
theorem d1_11 : decode prog_15_method_5_code 11 = .ok (.iconst 0, 1) := by decide +kernel
def Q_rm1 (Z : State) (a : Addr) (d0 : Int32) (h0 : Heap) (n0 : Nat) (v : Option Value) (h : Heap) (L : List Loc) : Prop := v = some (.int (own_p d0)) ∧ Fr n0 L ∧ h = h0
set_option maxRecDepth 65536 in
set_option maxHeartbeats 40000000 in
theorem rm1 (l : Launch) (Z : State) (a0 : Array Value) (hw : ∀ d ∈ tables_1, d.before a0 Z = true) (ws : List Jvm.Cond) (a : Addr) (d0 : Int32) (h0 : Heap) (n0 : Nat) (Z0 : n0 ≤ h0.size) (F1 : Fld Z h0 a "com/example/bordero/bordero/core/Field$Format" "dateDigits" "I" (.int d0)) :
    MetFree l (⟨"com/example/bordero/bordero/core/Field$Format", "isDate", "()Z"⟩ : MethodName) (head1 (Jvm.Cond.code (⟨"com/example/bordero/bordero/core/Field$Format", "isDate", "()Z"⟩ : MethodName) prog_15_method_5_code 1 (some .boolean) :: ws) ({ frames := 0, cells := 0, slots := 0, locals := 0 } : Room)) (fun ag U => ag = #[(.ref a)] ∧ Z.Warmed39 U.vm ∧ U.heap = h0) (fun _ _ _ _ _ => True) (fun _ U o U' => ∃ v L, o = .returned v ∧ Q_rm1 Z a d0 h0 n0 v U'.heap L ∧ FrameEnd U o U' L ({ frames := 0, cells := 0, slots := 0, locals := 0 } : Room).cells ({ frames := 0, cells := 0, slots := 0, locals := 0 } : Room).slots) := by
  refine MetFree.of_bodySF (plainFor_of_name pn_0) hisR ?_
  intro p e s m args below meth c s₁ Bd hml0 hP hK
  obtain ⟨rfl, hZ, hh⟩ := hP
  have hx := Bd.exec
  have hby := Bd.bytes
  have hml : c.maxLocals = 1 := hml0
  have hown : s.vm.findClass "com/example/bordero/bordero/core/Field$Format" = some m.cls := findClass_of_methodNamed Bd.named
  have hnm := (name_of_methodNamed Bd.named Bd.method).1
  have X0 : Stand p l e ({ frames := 0, cells := 0, slots := 0, locals := 0 } : Room) s m #[(.ref a)] below meth c s₁ [] 0 0 := Stand.of_body Bd
  have e0 : s₁.heap = h0 := by rw [← hh, Bd.state]; rfl
  have N0 := Fr.nil n0
  refine own_start (ef_rm1 m a) ?_
  intro F hF
  show own_Gl p.tables e below F (s₁.setTop (mkF m 0 #[.val (.ref a)] []))
  refine own_go (fun _ k => XS.aloadN X0.here hx rfl (hb hby d1_0) rfl rfl k) ?_
  show own_Gl p.tables e below F (s₁.setTop (mkF m 1 #[.val (.ref a)] [(.ref a)]))
  obtain ⟨T1, X1, e1, st1⟩ := getF X0 hx hZ hown (host := "") (Or.inl (hw _ (List.mem_of_getElem? (i := 20) rfl))) Via.refl e0 F1 (g := (mkF m 1 #[.val (.ref a)] [(.ref a)])) rfl rfl (hb hby d1_1)
  refine own_go st1 ?_
  show own_Gl p.tables e below F (T1.setTop (mkF m 4 #[.val (.ref a)] [(.int d0)]))
  by_cases h1 : 0 < d0
  · refine own_go (fun _ k => XS.ifNo X1.here hx rfl (hb hby d1_4) rfl (XT.i0_le_f (by assumption)) k) ?_
    show own_Gl p.tables e below F (T1.setTop (mkF m 7 #[.val (.ref a)] []))
    refine own_go (fun _ k => XS.iconst X1.here hx rfl (hb hby d1_7) k) ?_
    show own_Gl p.tables e below F (T1.setTop (mkF m 8 #[.val (.ref a)] [(.int (1 : Int32))]))
    refine own_go (fun _ k => XS.goto X1.here hx rfl (pc0 := 8) (pc' := 12) rfl (hb hby d1_8) (by decide) (by decide) k) ?_
    show own_Gl p.tables e below F (T1.setTop (mkF m 12 #[.val (.ref a)] [(.int (1 : Int32))]))
    obtain ⟨fs, hr, hrun, hended, hW, hsame⟩ := X1.leave (v := some (.int (1 : Int32))) (fun h => by rw [Bd.returns] at h; cases h)
    subst hF
    refine own_fin ?_ ⟨hrun, hended, _, _, rfl, ?_, ⟨_, rfl⟩, hW, hsame.mono (by first | decide | exact Nat.le_of_ble_eq_true rfl) (by first | decide | exact Nat.le_of_ble_eq_true rfl)⟩
    · exact own_retN X1 hx (t := .boolean) Bd.returns (by simp) rfl (hb hby d1_12) hr
    · show Q_rm1 Z a d0 h0 n0 _ T1.heap _
      rw [e1]
      exact ⟨by rw [own_p, if_pos h1], N0, rfl⟩
  · refine own_go (fun _ k => XS.ifYes X1.here hx rfl (pc0 := 4) (pc' := 11) rfl (hb hby d1_4) rfl (XT.i0_le_t (by assumption)) (by decide) (by decide) k) ?_
    show own_Gl p.tables e below F (T1.setTop (mkF m 11 #[.val (.ref a)] []))
    refine own_go (fun _ k => XS.iconst X1.here hx rfl (hb hby d1_11) k) ?_
    show own_Gl p.tables e below F (T1.setTop (mkF m 12 #[.val (.ref a)] [(.int (0 : Int32))]))
    obtain ⟨fs, hr, hrun, hended, hW, hsame⟩ := X1.leave (v := some (.int (0 : Int32))) (fun h => by rw [Bd.returns] at h; cases h)
    subst hF
    refine own_fin ?_ ⟨hrun, hended, _, _, rfl, ?_, ⟨_, rfl⟩, hW, hsame.mono (by first | decide | exact Nat.le_of_ble_eq_true rfl) (by first | decide | exact Nat.le_of_ble_eq_true rfl)⟩
    · exact own_retN X1 hx (t := .boolean) Bd.returns (by simp) rfl (hb hby d1_12) hr
    · show Q_rm1 Z a d0 h0 n0 _ T1.heap _
      rw [e1]
      exact ⟨by rw [own_p, if_neg h1], N0, rfl⟩
theorem ef_rm0 (m : MethodId) (x0 : Int32) : entryFrame m #[(.int x0)] maxLocals = mkF m 0 #[.val (.int x0), .unset, .unset, .unset, .unset] [] := by first | (simp [entryFrame, mkF, argsToLocals, Value.category, maxLocals]; done) | rfl
theorem pn_1 : plainName "com/example/bordero/bordero/core/FormatIsDatePinLaw" = true := by first | (simp [plainName, overriddenIn]; done) | decide +kernel
theorem pd_0 : parseMethodDescriptor "()Z" = some ⟨[], some .boolean⟩ := by decide +kernel
def Q_rm0 (Z : State) (p1 : Int32) (o0 o1 o2 o3 o4 : Addr) (h0 : Heap) (n0 : Nat) (v : Option Value) (h : Heap) (L : List Loc) : Prop := v = some (.int 1) ∧ Fr n0 L
set_option maxRecDepth 65536 in
set_option maxHeartbeats 40000000 in
theorem rm0 (l : Launch) (Z : State) (a0 : Array Value) (hw : ∀ d ∈ tables_1, d.before a0 Z = true) (ws : List Jvm.Cond) (p1 : Int32) (o0 o1 o2 o3 o4 : Addr) (h0 : Heap) (n0 : Nat) (Z0 : n0 ≤ h0.size) (S0 : Sta Z h0 "com/example/bordero/bordero/core/Field$Format" "NONE" "Lcom/example/bordero/bordero/core/Field$Format;" (.ref o0)) (S1 : Sta Z h0 "com/example/bordero/bordero/core/Field$Format" "V2" "Lcom/example/bordero/bordero/core/Field$Format;" (.ref o1)) (S2 : Sta Z h0 "com/example/bordero/bordero/core/Field$Format" "V5" "Lcom/example/bordero/bordero/core/Field$Format;" (.ref o2)) (S3 : Sta Z h0 "com/example/bordero/bordero/core/Field$Format" "DDMMAAAA" "Lcom/example/bordero/bordero/core/Field$Format;" (.ref o3)) (S4 : Sta Z h0 "com/example/bordero/bordero/core/Field$Format" "DDMMAA" "Lcom/example/bordero/bordero/core/Field$Format;" (.ref o4)) (E_0 : Exa Z h0 o0 "com/example/bordero/bordero/core/Field$Format") (E_1 : Exa Z h0 o1 "com/example/bordero/bordero/core/Field$Format") (E_2 : Exa Z h0 o2 "com/example/bordero/bordero/core/Field$Format") (E_3 : Exa Z h0 o3 "com/example/bordero/bordero/core/Field$Format") (E_4 : Exa Z h0 o4 "com/example/bordero/bordero/core/Field$Format") (D_0 : Fld Z h0 o0 "com/example/bordero/bordero/core/Field$Format" "dateDigits" "I" (.int 0)) (D_1 : Fld Z h0 o1 "com/example/bordero/bordero/core/Field$Format" "dateDigits" "I" (.int 0)) (D_2 : Fld Z h0 o2 "com/example/bordero/bordero/core/Field$Format" "dateDigits" "I" (.int 0)) (D_3 : Fld Z h0 o3 "com/example/bordero/bordero/core/Field$Format" "dateDigits" "I" (.int 8)) (D_4 : Fld Z h0 o4 "com/example/bordero/bordero/core/Field$Format" "dateDigits" "I" (.int 6)) :
    MetFree l x (head1 (Jvm.Cond.code x code maxLocals ret :: ws) room_1) (fun ag U => ag = #[(.int p1)] ∧ Z.Warmed39 U.vm ∧ U.heap = h0) (fun _ _ _ _ _ => True) (fun _ U o U' => ∃ v L, o = .returned v ∧ Q_rm0 Z p1 o0 o1 o2 o3 o4 h0 n0 v U'.heap L ∧ FrameEnd U o U' L room_1.cells room_1.slots) := by
  refine MetFree.of_bodySF (plainFor_of_name pn_1) hisR ?_
  intro p e s m args below meth c s₁ Bd hml0 hP hK
  obtain ⟨rfl, hZ, hh⟩ := hP
  have hx := Bd.exec
  have hby := Bd.bytes
  have hml : c.maxLocals = 5 := hml0
  have hown : s.vm.findClass "com/example/bordero/bordero/core/FormatIsDatePinLaw" = some m.cls := findClass_of_methodNamed Bd.named
  have hnm := (name_of_methodNamed Bd.named Bd.method).1
  have X0 : Stand p l e room_1 s m #[(.int p1)] below meth c s₁ [] 0 0 := Stand.of_body Bd
  have e0 : s₁.heap = h0 := by rw [← hh, Bd.state]; rfl
  have N0 := Fr.nil n0
  refine own_start (ef_rm0 m p1) ?_
  intro F hF
  show own_Gl p.tables e below F (s₁.setTop (mkF m 0 #[.val (.int p1), .unset, .unset, .unset, .unset] []))
  refine own_go (fun _ k => XS.iconst X0.here hx rfl (hb hby at_0) k) ?_
  show own_Gl p.tables e below F (s₁.setTop (mkF m 1 #[.val (.int p1), .unset, .unset, .unset, .unset] [(.int (5 : Int32))]))
  obtain ⟨T1, h1, k1, X1, e1, E1, A1, O1, st1⟩ := newR X0 hx hZ hown (hw _ (List.mem_of_getElem? (i := 0) rfl)) (hw _ (List.mem_of_getElem? (i := 1) rfl)) e0 (g := (mkF m 1 #[.val (.int p1), .unset, .unset, .unset, .unset] [(.int (5 : Int32))])) rfl (hb hby at_1) rfl (by decide) (cap := 5) (by decide) (by decide) (by decide) (by decide)
  obtain ⟨b1, g1⟩ : ∃ z, z = h0.size := ⟨_, rfl⟩
  rw [← g1] at A1 st1
  have ne_o0_b1 : o0 ≠ b1 := Nat.ne_of_lt (Nat.lt_of_lt_of_le E_0.lt (Nat.le_of_eq g1.symm))
  have ne_o1_b1 : o1 ≠ b1 := Nat.ne_of_lt (Nat.lt_of_lt_of_le E_1.lt (Nat.le_of_eq g1.symm))
  have ne_o2_b1 : o2 ≠ b1 := Nat.ne_of_lt (Nat.lt_of_lt_of_le E_2.lt (Nat.le_of_eq g1.symm))
  have ne_o3_b1 : o3 ≠ b1 := Nat.ne_of_lt (Nat.lt_of_lt_of_le E_3.lt (Nat.le_of_eq g1.symm))
  have ne_o4_b1 : o4 ≠ b1 := Nat.ne_of_lt (Nat.lt_of_lt_of_le E_4.lt (Nat.le_of_eq g1.symm))
  have ge_b1 : n0 ≤ b1 := Nat.le_trans Z0 (Nat.le_of_eq g1.symm)
  have sz_b1 : h0.size ≤ b1 := Nat.le_trans ((Keep.refl h0 [])).1 (Nat.le_of_eq g1.symm)
  have f1_0 := S0.ext E1
  have f1_1 := E_0.ext E1
  have f1_2 := D_0.ext E1
  have f1_3 := S1.ext E1
  have f1_4 := E_1.ext E1
  have f1_5 := D_1.ext E1
  have f1_6 := S2.ext E1
  have f1_7 := E_2.ext E1
  have f1_8 := D_2.ext E1
  have f1_9 := S3.ext E1
  have f1_10 := E_3.ext E1
  have f1_11 := D_3.ext E1
  have f1_12 := S4.ext E1
  have f1_13 := E_4.ext E1
  have f1_14 := D_4.ext E1
  have Z1 : n0 ≤ h1.size := Nat.le_trans Z0 E1.1
  have K1 := Keep.ext (Keep.refl h0 []) E1
  have V1 : Arv Z h1 b1 k1 (.object "com/example/bordero/bordero/core/Field$Format") (5 : Int32) [.null, .null, .null, .null, .null] .null := (Arv.new A1 (by decide)).pad (pad_rep [] .null 5)
  refine own_go st1 ?_
  show own_Gl p.tables e below F (T1.setTop (mkF m 4 #[.val (.int p1), .unset, .unset, .unset, .unset] [(.ref b1)]))
  refine own_go (fun _ k => XS.dup X1.here hx rfl (hb hby at_4) rfl rfl k) ?_
  show own_Gl p.tables e below F (T1.setTop (mkF m 5 #[.val (.int p1), .unset, .unset, .unset, .unset] [(.ref b1), (.ref b1)]))
  refine own_go (fun _ k => XS.iconst X1.here hx rfl (hb hby at_5) k) ?_
  show own_Gl p.tables e below F (T1.setTop (mkF m 6 #[.val (.int p1), .unset, .unset, .unset, .unset] [(.int (0 : Int32)), (.ref b1), (.ref b1)]))
  obtain ⟨T2, X2, e2, st2⟩ := getS2 X1 hx hZ hown (host := "") (Or.inl (hw _ (List.mem_of_getElem? (i := 2) rfl))) Via.refl e1 f1_0 (g := (mkF m 6 #[.val (.int p1), .unset, .unset, .unset, .unset] [(.int (0 : Int32)), (.ref b1), (.ref b1)])) rfl (hb hby at_6)
  refine own_go st2 ?_
  show own_Gl p.tables e below F (T2.setTop (mkF m 9 #[.val (.int p1), .unset, .unset, .unset, .unset] [(.ref o0), (.int (0 : Int32)), (.ref b1), (.ref b1)]))
  obtain ⟨cl3, Ar3, ak3, aS3, aN3, aH3, aG3⟩ := V1
  have hin3 : ¬ ((0 : Int32) < 0 ∨ cl3.slots.size ≤ ((0 : Int32)).toNatClampNeg) := inb_of aS3 ⟨by decide, by decide⟩
  obtain ⟨T3, h3, X3, e3, W3, st3⟩ := stR X2 hx hZ e2 Ar3 (j := (0 : Int32)) hin3 rfl (Sto.ofV Ar3 ak3 O1 (Ins.self f1_1)) (g := (mkF m 9 #[.val (.int p1), .unset, .unset, .unset, .unset] [(.ref o0), (.int (0 : Int32)), (.ref b1), (.ref b1)])) rfl rfl (hb hby at_9)
  have V3 : Arv Z h3 b1 k1 (.object "com/example/bordero/bordero/core/Field$Format") (5 : Int32) [(.ref o0), .null, .null, .null, .null] .null := Arv.set Ar3 ak3 aS3 aN3 aH3 aG3 rfl W3 0 rfl (by first | decide | exact Nat.le_of_ble_eq_true rfl | simp)
  have f3_1 := f1_0.wr W3
  have f3_2 := f1_1.wr W3
  have f3_3 := f1_2.other W3 (Or.inl ne_o0_b1)
  have f3_4 := f1_3.wr W3
  have f3_5 := f1_4.wr W3
  have f3_6 := f1_5.other W3 (Or.inl ne_o1_b1)
  have f3_7 := f1_6.wr W3
  have f3_8 := f1_7.wr W3
  have f3_9 := f1_8.other W3 (Or.inl ne_o2_b1)
  have f3_10 := f1_9.wr W3
  have f3_11 := f1_10.wr W3
  have f3_12 := f1_11.other W3 (Or.inl ne_o3_b1)
  have f3_13 := f1_12.wr W3
  have f3_14 := f1_13.wr W3
  have f3_15 := f1_14.other W3 (Or.inl ne_o4_b1)
  have Z3 : n0 ≤ h3.size := by rw [W3.size]; exact Z1
  have K3 := Keep.wr K1 W3 (Or.inr sz_b1)
  have N3 := Fr.snoc X3 N0 ge_b1
  refine own_go st3 ?_
  show own_Gl p.tables e below F (T3.setTop (mkF m 10 #[.val (.int p1), .unset, .unset, .unset, .unset] [(.ref b1)]))
  refine own_go (fun _ k => XS.dup X3.here hx rfl (hb hby at_10) rfl rfl k) ?_
  show own_Gl p.tables e below F (T3.setTop (mkF m 11 #[.val (.int p1), .unset, .unset, .unset, .unset] [(.ref b1), (.ref b1)]))
  refine own_go (fun _ k => XS.iconst X3.here hx rfl (hb hby at_11) k) ?_
  show own_Gl p.tables e below F (T3.setTop (mkF m 12 #[.val (.int p1), .unset, .unset, .unset, .unset] [(.int (1 : Int32)), (.ref b1), (.ref b1)]))
  obtain ⟨T4, X4, e4, st4⟩ := getS2 X3 hx hZ hown (host := "") (Or.inl (hw _ (List.mem_of_getElem? (i := 6) rfl))) Via.refl e3 f3_4 (g := (mkF m 12 #[.val (.int p1), .unset, .unset, .unset, .unset] [(.int (1 : Int32)), (.ref b1), (.ref b1)])) rfl (hb hby at_12)
  refine own_go st4 ?_
  show own_Gl p.tables e below F (T4.setTop (mkF m 15 #[.val (.int p1), .unset, .unset, .unset, .unset] [(.ref o1), (.int (1 : Int32)), (.ref b1), (.ref b1)]))
  obtain ⟨cl5, Ar5, ak5, aS5, aN5, aH5, aG5⟩ := V3
  have hin5 : ¬ ((1 : Int32) < 0 ∨ cl5.slots.size ≤ ((1 : Int32)).toNatClampNeg) := inb_of aS5 ⟨by decide, by decide⟩
  obtain ⟨T5, h5, X5, e5, W5, st5⟩ := stR X4 hx hZ e4 Ar5 (j := (1 : Int32)) hin5 rfl (Sto.ofV Ar5 ak5 O1 (Ins.self f3_5)) (g := (mkF m 15 #[.val (.int p1), .unset, .unset, .unset, .unset] [(.ref o1), (.int (1 : Int32)), (.ref b1), (.ref b1)])) rfl rfl (hb hby at_15)
  have V5 : Arv Z h5 b1 k1 (.object "com/example/bordero/bordero/core/Field$Format") (5 : Int32) [(.ref o0), (.ref o1), .null, .null, .null] .null := Arv.set Ar5 ak5 aS5 aN5 aH5 aG5 rfl W5 1 rfl (by first | decide | exact Nat.le_of_ble_eq_true rfl | simp)
  have f5_1 := f3_1.wr W5
  have f5_2 := f3_2.wr W5
  have f5_3 := f3_3.other W5 (Or.inl ne_o0_b1)
  have f5_4 := f3_4.wr W5
  have f5_5 := f3_5.wr W5
  have f5_6 := f3_6.other W5 (Or.inl ne_o1_b1)
  have f5_7 := f3_7.wr W5
  have f5_8 := f3_8.wr W5
  have f5_9 := f3_9.other W5 (Or.inl ne_o2_b1)
  have f5_10 := f3_10.wr W5
  have f5_11 := f3_11.wr W5
  have f5_12 := f3_12.other W5 (Or.inl ne_o3_b1)
  have f5_13 := f3_13.wr W5
  have f5_14 := f3_14.wr W5
  have f5_15 := f3_15.other W5 (Or.inl ne_o4_b1)
  have Z5 : n0 ≤ h5.size := by rw [W5.size]; exact Z3
  have K5 := Keep.wr K3 W5 (Or.inr sz_b1)
  have N5 := Fr.snoc X5 N3 ge_b1
  refine own_go st5 ?_
  show own_Gl p.tables e below F (T5.setTop (mkF m 16 #[.val (.int p1), .unset, .unset, .unset, .unset] [(.ref b1)]))
  refine own_go (fun _ k => XS.dup X5.here hx rfl (hb hby at_16) rfl rfl k) ?_
  show own_Gl p.tables e below F (T5.setTop (mkF m 17 #[.val (.int p1), .unset, .unset, .unset, .unset] [(.ref b1), (.ref b1)]))
  refine own_go (fun _ k => XS.iconst X5.here hx rfl (hb hby at_17) k) ?_
  show own_Gl p.tables e below F (T5.setTop (mkF m 18 #[.val (.int p1), .unset, .unset, .unset, .unset] [(.int (2 : Int32)), (.ref b1), (.ref b1)]))
  obtain ⟨T6, X6, e6, st6⟩ := getS2 X5 hx hZ hown (host := "") (Or.inl (hw _ (List.mem_of_getElem? (i := 8) rfl))) Via.refl e5 f5_7 (g := (mkF m 18 #[.val (.int p1), .unset, .unset, .unset, .unset] [(.int (2 : Int32)), (.ref b1), (.ref b1)])) rfl (hb hby at_18)
  refine own_go st6 ?_
  show own_Gl p.tables e below F (T6.setTop (mkF m 21 #[.val (.int p1), .unset, .unset, .unset, .unset] [(.ref o2), (.int (2 : Int32)), (.ref b1), (.ref b1)]))
  obtain ⟨cl7, Ar7, ak7, aS7, aN7, aH7, aG7⟩ := V5
  have hin7 : ¬ ((2 : Int32) < 0 ∨ cl7.slots.size ≤ ((2 : Int32)).toNatClampNeg) := inb_of aS7 ⟨by decide, by decide⟩
  obtain ⟨T7, h7, X7, e7, W7, st7⟩ := stR X6 hx hZ e6 Ar7 (j := (2 : Int32)) hin7 rfl (Sto.ofV Ar7 ak7 O1 (Ins.self f5_8)) (g := (mkF m 21 #[.val (.int p1), .unset, .unset, .unset, .unset] [(.ref o2), (.int (2 : Int32)), (.ref b1), (.ref b1)])) rfl rfl (hb hby at_21)
  have V7 : Arv Z h7 b1 k1 (.object "com/example/bordero/bordero/core/Field$Format") (5 : Int32) [(.ref o0), (.ref o1), (.ref o2), .null, .null] .null := Arv.set Ar7 ak7 aS7 aN7 aH7 aG7 rfl W7 2 rfl (by first | decide | exact Nat.le_of_ble_eq_true rfl | simp)
  have f7_1 := f5_1.wr W7
  have f7_2 := f5_2.wr W7
  have f7_3 := f5_3.other W7 (Or.inl ne_o0_b1)
  have f7_4 := f5_4.wr W7
  have f7_5 := f5_5.wr W7
  have f7_6 := f5_6.other W7 (Or.inl ne_o1_b1)
  have f7_7 := f5_7.wr W7
  have f7_8 := f5_8.wr W7
  have f7_9 := f5_9.other W7 (Or.inl ne_o2_b1)
  have f7_10 := f5_10.wr W7
  have f7_11 := f5_11.wr W7
  have f7_12 := f5_12.other W7 (Or.inl ne_o3_b1)
  have f7_13 := f5_13.wr W7
  have f7_14 := f5_14.wr W7
  have f7_15 := f5_15.other W7 (Or.inl ne_o4_b1)
  have Z7 : n0 ≤ h7.size := by rw [W7.size]; exact Z5
  have K7 := Keep.wr K5 W7 (Or.inr sz_b1)
  have N7 := Fr.snoc X7 N5 ge_b1
  refine own_go st7 ?_
  show own_Gl p.tables e below F (T7.setTop (mkF m 22 #[.val (.int p1), .unset, .unset, .unset, .unset] [(.ref b1)]))
  refine own_go (fun _ k => XS.dup X7.here hx rfl (hb hby at_22) rfl rfl k) ?_
  show own_Gl p.tables e below F (T7.setTop (mkF m 23 #[.val (.int p1), .unset, .unset, .unset, .unset] [(.ref b1), (.ref b1)]))
  refine own_go (fun _ k => XS.iconst X7.here hx rfl (hb hby at_23) k) ?_
  show own_Gl p.tables e below F (T7.setTop (mkF m 24 #[.val (.int p1), .unset, .unset, .unset, .unset] [(.int (3 : Int32)), (.ref b1), (.ref b1)]))
  obtain ⟨T8, X8, e8, st8⟩ := getS2 X7 hx hZ hown (host := "") (Or.inl (hw _ (List.mem_of_getElem? (i := 10) rfl))) Via.refl e7 f7_10 (g := (mkF m 24 #[.val (.int p1), .unset, .unset, .unset, .unset] [(.int (3 : Int32)), (.ref b1), (.ref b1)])) rfl (hb hby at_24)
  refine own_go st8 ?_
  show own_Gl p.tables e below F (T8.setTop (mkF m 27 #[.val (.int p1), .unset, .unset, .unset, .unset] [(.ref o3), (.int (3 : Int32)), (.ref b1), (.ref b1)]))
  obtain ⟨cl9, Ar9, ak9, aS9, aN9, aH9, aG9⟩ := V7
  have hin9 : ¬ ((3 : Int32) < 0 ∨ cl9.slots.size ≤ ((3 : Int32)).toNatClampNeg) := inb_of aS9 ⟨by decide, by decide⟩
  obtain ⟨T9, h9, X9, e9, W9, st9⟩ := stR X8 hx hZ e8 Ar9 (j := (3 : Int32)) hin9 rfl (Sto.ofV Ar9 ak9 O1 (Ins.self f7_11)) (g := (mkF m 27 #[.val (.int p1), .unset, .unset, .unset, .unset] [(.ref o3), (.int (3 : Int32)), (.ref b1), (.ref b1)])) rfl rfl (hb hby at_27)
  have V9 : Arv Z h9 b1 k1 (.object "com/example/bordero/bordero/core/Field$Format") (5 : Int32) [(.ref o0), (.ref o1), (.ref o2), (.ref o3), .null] .null := Arv.set Ar9 ak9 aS9 aN9 aH9 aG9 rfl W9 3 rfl (by first | decide | exact Nat.le_of_ble_eq_true rfl | simp)
  have f9_1 := f7_1.wr W9
  have f9_2 := f7_2.wr W9
  have f9_3 := f7_3.other W9 (Or.inl ne_o0_b1)
  have f9_4 := f7_4.wr W9
  have f9_5 := f7_5.wr W9
  have f9_6 := f7_6.other W9 (Or.inl ne_o1_b1)
  have f9_7 := f7_7.wr W9
  have f9_8 := f7_8.wr W9
  have f9_9 := f7_9.other W9 (Or.inl ne_o2_b1)
  have f9_10 := f7_10.wr W9
  have f9_11 := f7_11.wr W9
  have f9_12 := f7_12.other W9 (Or.inl ne_o3_b1)
  have f9_13 := f7_13.wr W9
  have f9_14 := f7_14.wr W9
  have f9_15 := f7_15.other W9 (Or.inl ne_o4_b1)
  have Z9 : n0 ≤ h9.size := by rw [W9.size]; exact Z7
  have K9 := Keep.wr K7 W9 (Or.inr sz_b1)
  have N9 := Fr.snoc X9 N7 ge_b1
  refine own_go st9 ?_
  show own_Gl p.tables e below F (T9.setTop (mkF m 28 #[.val (.int p1), .unset, .unset, .unset, .unset] [(.ref b1)]))
  refine own_go (fun _ k => XS.dup X9.here hx rfl (hb hby at_28) rfl rfl k) ?_
  show own_Gl p.tables e below F (T9.setTop (mkF m 29 #[.val (.int p1), .unset, .unset, .unset, .unset] [(.ref b1), (.ref b1)]))
  refine own_go (fun _ k => XS.iconst X9.here hx rfl (hb hby at_29) k) ?_
  show own_Gl p.tables e below F (T9.setTop (mkF m 30 #[.val (.int p1), .unset, .unset, .unset, .unset] [(.int (4 : Int32)), (.ref b1), (.ref b1)]))
  obtain ⟨T10, X10, e10, st10⟩ := getS2 X9 hx hZ hown (host := "") (Or.inl (hw _ (List.mem_of_getElem? (i := 12) rfl))) Via.refl e9 f9_13 (g := (mkF m 30 #[.val (.int p1), .unset, .unset, .unset, .unset] [(.int (4 : Int32)), (.ref b1), (.ref b1)])) rfl (hb hby at_30)
  refine own_go st10 ?_
  show own_Gl p.tables e below F (T10.setTop (mkF m 33 #[.val (.int p1), .unset, .unset, .unset, .unset] [(.ref o4), (.int (4 : Int32)), (.ref b1), (.ref b1)]))
  obtain ⟨cl11, Ar11, ak11, aS11, aN11, aH11, aG11⟩ := V9
  have hin11 : ¬ ((4 : Int32) < 0 ∨ cl11.slots.size ≤ ((4 : Int32)).toNatClampNeg) := inb_of aS11 ⟨by decide, by decide⟩
  obtain ⟨T11, h11, X11, e11, W11, st11⟩ := stR X10 hx hZ e10 Ar11 (j := (4 : Int32)) hin11 rfl (Sto.ofV Ar11 ak11 O1 (Ins.self f9_14)) (g := (mkF m 33 #[.val (.int p1), .unset, .unset, .unset, .unset] [(.ref o4), (.int (4 : Int32)), (.ref b1), (.ref b1)])) rfl rfl (hb hby at_33)
  have V11 : Arv Z h11 b1 k1 (.object "com/example/bordero/bordero/core/Field$Format") (5 : Int32) [(.ref o0), (.ref o1), (.ref o2), (.ref o3), (.ref o4)] .null := Arv.set Ar11 ak11 aS11 aN11 aH11 aG11 rfl W11 4 rfl (by first | decide | exact Nat.le_of_ble_eq_true rfl | simp)
  have f11_1 := f9_1.wr W11
  have f11_2 := f9_2.wr W11
  have f11_3 := f9_3.other W11 (Or.inl ne_o0_b1)
  have f11_4 := f9_4.wr W11
  have f11_5 := f9_5.wr W11
  have f11_6 := f9_6.other W11 (Or.inl ne_o1_b1)
  have f11_7 := f9_7.wr W11
  have f11_8 := f9_8.wr W11
  have f11_9 := f9_9.other W11 (Or.inl ne_o2_b1)
  have f11_10 := f9_10.wr W11
  have f11_11 := f9_11.wr W11
  have f11_12 := f9_12.other W11 (Or.inl ne_o3_b1)
  have f11_13 := f9_13.wr W11
  have f11_14 := f9_14.wr W11
  have f11_15 := f9_15.other W11 (Or.inl ne_o4_b1)
  have Z11 : n0 ≤ h11.size := by rw [W11.size]; exact Z9
  have K11 := Keep.wr K9 W11 (Or.inr sz_b1)
  have N11 := Fr.snoc X11 N9 ge_b1
  refine own_go st11 ?_
  show own_Gl p.tables e below F (T11.setTop (mkF m 34 #[.val (.int p1), .unset, .unset, .unset, .unset] [(.ref b1)]))
  refine own_go (fun _ k => XS.astoreN X11.here hx rfl (hb hby at_34) rfl rfl (l' := #[.val (.int p1), .val (.ref b1), .unset, .unset, .unset]) rfl k) ?_
  show own_Gl p.tables e below F (T11.setTop (mkF m 35 #[.val (.int p1), .val (.ref b1), .unset, .unset, .unset] []))
  refine own_go (fun _ k => XS.iloadN X11.here hx rfl (hb hby at_35) rfl k) ?_
  show own_Gl p.tables e below F (T11.setTop (mkF m 36 #[.val (.int p1), .val (.ref b1), .unset, .unset, .unset] [(.int p1)]))
  refine own_go (fun _ k => X11.ldcI hx hown (mvT hZ (hw _ (List.mem_of_getElem? (i := 14) rfl))) rfl (hb hby at_36) k) ?_
  show own_Gl p.tables e below F (T11.setTop (mkF m 38 #[.val (.int p1), .val (.ref b1), .unset, .unset, .unset] [(.int (2147483647 : Int32)), (.int p1)]))
  refine own_go (fun _ k => XS.iand X11.here hx rfl (hb hby at_38) rfl k) ?_
  show own_Gl p.tables e below F (T11.setTop (mkF m 39 #[.val (.int p1), .val (.ref b1), .unset, .unset, .unset] [(.int (p1 &&& (2147483647 : Int32)))]))
  refine own_go (fun _ k => XS.iconst X11.here hx rfl (hb hby at_39) k) ?_
  show own_Gl p.tables e below F (T11.setTop (mkF m 40 #[.val (.int p1), .val (.ref b1), .unset, .unset, .unset] [(.int (5 : Int32)), (.int (p1 &&& (2147483647 : Int32)))]))
  refine own_go (fun _ k => iremM X11 hx rfl (hb hby at_40) rfl (by decide) k) ?_
  show own_Gl p.tables e below F (T11.setTop (mkF m 41 #[.val (.int p1), .val (.ref b1), .unset, .unset, .unset] [(.int ((p1 &&& (2147483647 : Int32)) % (5 : Int32)))]))
  obtain ⟨r, er⟩ : ∃ r, r = (p1 &&& (2147483647 : Int32)) % (5 : Int32) := ⟨_, rfl⟩
  have hr := own_r p1
  rw [← er] at hr ⊢
  show own_Gl p.tables e below F (T11.setTop (mkF m 41 #[.val (.int p1), .val (.ref b1), .unset, .unset, .unset] [(.int r)]))
  rcases own_five hr with rfl | rfl | rfl | rfl | rfl
  · show own_Gl p.tables e below F (T11.setTop (mkF m 41 #[.val (.int p1), .val (.ref b1), .unset, .unset, .unset] [(.int (0 : Int32))]))
    refine own_go (fun _ k => XS.istoreN X11.here hx rfl (hb hby at_41) rfl (l' := #[.val (.int p1), .val (.ref b1), .val (.int (0 : Int32)), .unset, .unset]) rfl k) ?_
    show own_Gl p.tables e below F (T11.setTop (mkF m 42 #[.val (.int p1), .val (.ref b1), .val (.int (0 : Int32)), .unset, .unset] []))
    refine own_go (fun _ k => XS.aloadN X11.here hx rfl (hb hby at_42) rfl rfl k) ?_
    show own_Gl p.tables e below F (T11.setTop (mkF m 43 #[.val (.int p1), .val (.ref b1), .val (.int (0 : Int32)), .unset, .unset] [(.ref b1)]))
    refine own_go (fun _ k => XS.iloadN X11.here hx rfl (hb hby at_43) rfl k) ?_
    show own_Gl p.tables e below F (T11.setTop (mkF m 44 #[.val (.int p1), .val (.ref b1), .val (.int (0 : Int32)), .unset, .unset] [(.int (0 : Int32)), (.ref b1)]))
    obtain ⟨cl12, Ar12, ak12, aS12, aN12, aH12, aG12⟩ := V11
    have hin12 : ¬ ((0 : Int32) < 0 ∨ cl12.slots.size ≤ ((0 : Int32)).toNatClampNeg) := inb_of aS12 ⟨by decide, by decide⟩
    refine own_go (fun _ k => X11.aaload hx (j := (0 : Int32)) (v := (.ref o0)) (by rw [e11]; exact Ar12.1) (State.isArrayOf_alike hZ.alike Ar12.2.1) rfl Ar12.2.2 hin12 (Has.at aH12 hin12 rfl) (g := (mkF m 44 #[.val (.int p1), .val (.ref b1), .val (.int (0 : Int32)), .unset, .unset] [(.int (0 : Int32)), (.ref b1)])) rfl rfl (hb hby at_44) _ k) ?_
    show own_Gl p.tables e below F (T11.setTop (mkF m 45 #[.val (.int p1), .val (.ref b1), .val (.int (0 : Int32)), .unset, .unset] [(.ref o0)]))
    refine own_go (fun _ k => XS.astoreN X11.here hx rfl (hb hby at_45) rfl rfl (l' := #[.val (.int p1), .val (.ref b1), .val (.int (0 : Int32)), .val (.ref o0), .unset]) rfl k) ?_
    show own_Gl p.tables e below F (T11.setTop (mkF m 46 #[.val (.int p1), .val (.ref b1), .val (.int (0 : Int32)), .val (.ref o0), .unset] []))
    refine own_go (fun _ k => XS.iloadN X11.here hx rfl (hb hby at_46) rfl k) ?_
    show own_Gl p.tables e below F (T11.setTop (mkF m 47 #[.val (.int p1), .val (.ref b1), .val (.int (0 : Int32)), .val (.ref o0), .unset] [(.int (0 : Int32))]))
    refine own_go (fun _ k => XS.iconst X11.here hx rfl (hb hby at_47) k) ?_
    show own_Gl p.tables e below F (T11.setTop (mkF m 48 #[.val (.int p1), .val (.ref b1), .val (.int (0 : Int32)), .val (.ref o0), .unset] [(.int (3 : Int32)), (.int (0 : Int32))]))
    refine own_go (fun _ k => XS.icmpYes X11.here hx rfl (pc0 := 48) (pc' := 57) rfl (hb hby at_48) rfl (XT.ii_ne_t (by decide)) (by decide) (by decide) k) ?_
    show own_Gl p.tables e below F (T11.setTop (mkF m 57 #[.val (.int p1), .val (.ref b1), .val (.int (0 : Int32)), .val (.ref o0), .unset] []))
    refine own_go (fun _ k => XS.iloadN X11.here hx rfl (hb hby at_57) rfl k) ?_
    show own_Gl p.tables e below F (T11.setTop (mkF m 58 #[.val (.int p1), .val (.ref b1), .val (.int (0 : Int32)), .val (.ref o0), .unset] [(.int (0 : Int32))]))
    refine own_go (fun _ k => XS.iconst X11.here hx rfl (hb hby at_58) k) ?_
    show own_Gl p.tables e below F (T11.setTop (mkF m 59 #[.val (.int p1), .val (.ref b1), .val (.int (0 : Int32)), .val (.ref o0), .unset] [(.int (4 : Int32)), (.int (0 : Int32))]))
    refine own_go (fun _ k => XS.icmpYes X11.here hx rfl (pc0 := 59) (pc' := 68) rfl (hb hby at_59) rfl (XT.ii_ne_t (by decide)) (by decide) (by decide) k) ?_
    show own_Gl p.tables e below F (T11.setTop (mkF m 68 #[.val (.int p1), .val (.ref b1), .val (.int (0 : Int32)), .val (.ref o0), .unset] []))
    refine own_go (fun _ k => XS.iconst X11.here hx rfl (hb hby at_68) k) ?_
    show own_Gl p.tables e below F (T11.setTop (mkF m 69 #[.val (.int p1), .val (.ref b1), .val (.int (0 : Int32)), .val (.ref o0), .unset] [(.int (0 : Int32))]))
    refine own_go (fun _ k => XS.istore X11.here hx rfl (hb hby at_69) rfl (l' := #[.val (.int p1), .val (.ref b1), .val (.int (0 : Int32)), .val (.ref o0), .val (.int (0 : Int32))]) rfl k) ?_
    show own_Gl p.tables e below F (T11.setTop (mkF m 71 #[.val (.int p1), .val (.ref b1), .val (.int (0 : Int32)), .val (.ref o0), .val (.int (0 : Int32))] []))
    refine own_go (fun _ k => XS.aloadN X11.here hx rfl (hb hby at_71) rfl rfl k) ?_
    show own_Gl p.tables e below F (T11.setTop (mkF m 72 #[.val (.int p1), .val (.ref b1), .val (.int (0 : Int32)), .val (.ref o0), .val (.int (0 : Int32))] [(.ref o0)]))
    obtain ⟨cq13, kq13, q13a, q13b, q13c⟩ := isOf hZ e11 f11_2
    obtain ⟨_, _, ⟨T13, L13, k13, n13⟩, -, X13, ⟨Lc13, hQ13, l13, y13, z13⟩, st13⟩ := X11.virtualBack hx (y := (⟨"com/example/bordero/bordero/core/Field$Format", "isDate", "()Z"⟩ : MethodName)) (z := (⟨"com/example/bordero/bordero/core/Field$Format", "isDate", "()Z"⟩ : MethodName)) hown (mvT hZ (hw _ (List.mem_of_getElem? (i := 15) rfl))) (mvT hZ (hw _ (List.mem_of_getElem? (i := 16) rfl))) (notFace_of_selects (args := #[]) (mvT hZ (hw _ (List.mem_of_getElem? (i := 18) rfl)))) (mvT hZ (hw _ (List.mem_of_getElem? (i := 18) rfl))) (mvT hZ (hw _ (List.mem_of_getElem? (i := 17) rfl))) (by decide) (backOf (W := 0) (rm1 l Z a0 hw [] o0 0 h11 n0 Z11 f11_3) hZ (hw _ (List.mem_of_getElem? (i := 19) rfl)) (hw _ (List.mem_of_getElem? (i := 3) rfl)) (by decide) (by decide)) q13a q13c (g := (mkF m 72 #[.val (.int p1), .val (.ref b1), .val (.int (0 : Int32)), .val (.ref o0), .val (.int (0 : Int32))] [(.ref o0)])) rfl (by rw [hml]; rfl) (Steps.refl _) (argsL := []) (rest := []) (lenOf pd_0 rfl) rfl (by show 2 * 0 + _ ≤ _; exact Nat.le_of_eq rfl) (hb hby at_72) (fun _ _ => ⟨rfl, e11, (by first | decide | exact Nat.le_of_ble_eq_true rfl), (by first | decide | exact Nat.le_of_ble_eq_true rfl)⟩)
    dsimp only [Pt.U, Pt.locs, Pt.cells, Pt.slots] at X13 l13 y13 z13 st13 hQ13
    subst l13 y13 z13
    obtain ⟨rfl, N13, e13⟩ := hQ13
    have NF13 := Fr.app N11 N13
    refine own_go (fun _ k => st13.trans k) ?_
    show own_Gl p.tables e below F (T13.setTop (mkF m 75 #[.val (.int p1), .val (.ref b1), .val (.int (0 : Int32)), .val (.ref o0), .val (.int (0 : Int32))] [(.int (own_p 0))]))
    refine own_go (fun _ k => XS.iload X13.here hx rfl (hb hby at_75) rfl k) ?_
    show own_Gl p.tables e below F (T13.setTop (mkF m 77 #[.val (.int p1), .val (.ref b1), .val (.int (0 : Int32)), .val (.ref o0), .val (.int (0 : Int32))] [(.int (0 : Int32)), (.int (own_p 0))]))
    refine own_go (fun _ k => XS.icmpNo X13.here hx rfl (hb hby at_77) rfl (XT.ii_ne_f (by decide)) k) ?_
    show own_Gl p.tables e below F (T13.setTop (mkF m 80 #[.val (.int p1), .val (.ref b1), .val (.int (0 : Int32)), .val (.ref o0), .val (.int (0 : Int32))] []))
    refine own_go (fun _ k => XS.iconst X13.here hx rfl (hb hby at_80) k) ?_
    show own_Gl p.tables e below F (T13.setTop (mkF m 81 #[.val (.int p1), .val (.ref b1), .val (.int (0 : Int32)), .val (.ref o0), .val (.int (0 : Int32))] [(.int (1 : Int32))]))
    refine own_go (fun _ k => XS.goto X13.here hx rfl (pc0 := 81) (pc' := 85) rfl (hb hby at_81) (by decide) (by decide) k) ?_
    show own_Gl p.tables e below F (T13.setTop (mkF m 85 #[.val (.int p1), .val (.ref b1), .val (.int (0 : Int32)), .val (.ref o0), .val (.int (0 : Int32))] [(.int (1 : Int32))]))
    obtain ⟨fs, hr, hrun, hended, hW, hsame⟩ := X13.leave (v := some (.int (1 : Int32))) (fun h => by rw [Bd.returns] at h; cases h)
    subst hF
    refine own_fin ?_ ⟨hrun, hended, _, _, rfl, ?_, ⟨_, rfl⟩, hW, hsame.mono (by first | decide | exact Nat.le_of_ble_eq_true rfl) (by first | decide | exact Nat.le_of_ble_eq_true rfl)⟩
    · exact own_retN X13 hx (t := .boolean) Bd.returns (by simp) rfl (hb hby at_85) hr
    · show Q_rm0 Z p1 o0 o1 o2 o3 o4 h0 n0 _ T13.heap _
      rw [e13]
      exact ⟨rfl, NF13⟩
  · show own_Gl p.tables e below F (T11.setTop (mkF m 41 #[.val (.int p1), .val (.ref b1), .unset, .unset, .unset] [(.int (1 : Int32))]))
    refine own_go (fun _ k => XS.istoreN X11.here hx rfl (hb hby at_41) rfl (l' := #[.val (.int p1), .val (.ref b1), .val (.int (1 : Int32)), .unset, .unset]) rfl k) ?_
    show own_Gl p.tables e below F (T11.setTop (mkF m 42 #[.val (.int p1), .val (.ref b1), .val (.int (1 : Int32)), .unset, .unset] []))
    refine own_go (fun _ k => XS.aloadN X11.here hx rfl (hb hby at_42) rfl rfl k) ?_
    show own_Gl p.tables e below F (T11.setTop (mkF m 43 #[.val (.int p1), .val (.ref b1), .val (.int (1 : Int32)), .unset, .unset] [(.ref b1)]))
    refine own_go (fun _ k => XS.iloadN X11.here hx rfl (hb hby at_43) rfl k) ?_
    show own_Gl p.tables e below F (T11.setTop (mkF m 44 #[.val (.int p1), .val (.ref b1), .val (.int (1 : Int32)), .unset, .unset] [(.int (1 : Int32)), (.ref b1)]))
    obtain ⟨cl14, Ar14, ak14, aS14, aN14, aH14, aG14⟩ := V11
    have hin14 : ¬ ((1 : Int32) < 0 ∨ cl14.slots.size ≤ ((1 : Int32)).toNatClampNeg) := inb_of aS14 ⟨by decide, by decide⟩
    refine own_go (fun _ k => X11.aaload hx (j := (1 : Int32)) (v := (.ref o1)) (by rw [e11]; exact Ar14.1) (State.isArrayOf_alike hZ.alike Ar14.2.1) rfl Ar14.2.2 hin14 (Has.at aH14 hin14 rfl) (g := (mkF m 44 #[.val (.int p1), .val (.ref b1), .val (.int (1 : Int32)), .unset, .unset] [(.int (1 : Int32)), (.ref b1)])) rfl rfl (hb hby at_44) _ k) ?_
    show own_Gl p.tables e below F (T11.setTop (mkF m 45 #[.val (.int p1), .val (.ref b1), .val (.int (1 : Int32)), .unset, .unset] [(.ref o1)]))
    refine own_go (fun _ k => XS.astoreN X11.here hx rfl (hb hby at_45) rfl rfl (l' := #[.val (.int p1), .val (.ref b1), .val (.int (1 : Int32)), .val (.ref o1), .unset]) rfl k) ?_
    show own_Gl p.tables e below F (T11.setTop (mkF m 46 #[.val (.int p1), .val (.ref b1), .val (.int (1 : Int32)), .val (.ref o1), .unset] []))
    refine own_go (fun _ k => XS.iloadN X11.here hx rfl (hb hby at_46) rfl k) ?_
    show own_Gl p.tables e below F (T11.setTop (mkF m 47 #[.val (.int p1), .val (.ref b1), .val (.int (1 : Int32)), .val (.ref o1), .unset] [(.int (1 : Int32))]))
    refine own_go (fun _ k => XS.iconst X11.here hx rfl (hb hby at_47) k) ?_
    show own_Gl p.tables e below F (T11.setTop (mkF m 48 #[.val (.int p1), .val (.ref b1), .val (.int (1 : Int32)), .val (.ref o1), .unset] [(.int (3 : Int32)), (.int (1 : Int32))]))
    refine own_go (fun _ k => XS.icmpYes X11.here hx rfl (pc0 := 48) (pc' := 57) rfl (hb hby at_48) rfl (XT.ii_ne_t (by decide)) (by decide) (by decide) k) ?_
    show own_Gl p.tables e below F (T11.setTop (mkF m 57 #[.val (.int p1), .val (.ref b1), .val (.int (1 : Int32)), .val (.ref o1), .unset] []))
    refine own_go (fun _ k => XS.iloadN X11.here hx rfl (hb hby at_57) rfl k) ?_
    show own_Gl p.tables e below F (T11.setTop (mkF m 58 #[.val (.int p1), .val (.ref b1), .val (.int (1 : Int32)), .val (.ref o1), .unset] [(.int (1 : Int32))]))
    refine own_go (fun _ k => XS.iconst X11.here hx rfl (hb hby at_58) k) ?_
    show own_Gl p.tables e below F (T11.setTop (mkF m 59 #[.val (.int p1), .val (.ref b1), .val (.int (1 : Int32)), .val (.ref o1), .unset] [(.int (4 : Int32)), (.int (1 : Int32))]))
    refine own_go (fun _ k => XS.icmpYes X11.here hx rfl (pc0 := 59) (pc' := 68) rfl (hb hby at_59) rfl (XT.ii_ne_t (by decide)) (by decide) (by decide) k) ?_
    show own_Gl p.tables e below F (T11.setTop (mkF m 68 #[.val (.int p1), .val (.ref b1), .val (.int (1 : Int32)), .val (.ref o1), .unset] []))
    refine own_go (fun _ k => XS.iconst X11.here hx rfl (hb hby at_68) k) ?_
    show own_Gl p.tables e below F (T11.setTop (mkF m 69 #[.val (.int p1), .val (.ref b1), .val (.int (1 : Int32)), .val (.ref o1), .unset] [(.int (0 : Int32))]))
    refine own_go (fun _ k => XS.istore X11.here hx rfl (hb hby at_69) rfl (l' := #[.val (.int p1), .val (.ref b1), .val (.int (1 : Int32)), .val (.ref o1), .val (.int (0 : Int32))]) rfl k) ?_
    show own_Gl p.tables e below F (T11.setTop (mkF m 71 #[.val (.int p1), .val (.ref b1), .val (.int (1 : Int32)), .val (.ref o1), .val (.int (0 : Int32))] []))
    refine own_go (fun _ k => XS.aloadN X11.here hx rfl (hb hby at_71) rfl rfl k) ?_
    show own_Gl p.tables e below F (T11.setTop (mkF m 72 #[.val (.int p1), .val (.ref b1), .val (.int (1 : Int32)), .val (.ref o1), .val (.int (0 : Int32))] [(.ref o1)]))
    obtain ⟨cq15, kq15, q15a, q15b, q15c⟩ := isOf hZ e11 f11_5
    obtain ⟨_, _, ⟨T15, L15, k15, n15⟩, -, X15, ⟨Lc15, hQ15, l15, y15, z15⟩, st15⟩ := X11.virtualBack hx (y := (⟨"com/example/bordero/bordero/core/Field$Format", "isDate", "()Z"⟩ : MethodName)) (z := (⟨"com/example/bordero/bordero/core/Field$Format", "isDate", "()Z"⟩ : MethodName)) hown (mvT hZ (hw _ (List.mem_of_getElem? (i := 15) rfl))) (mvT hZ (hw _ (List.mem_of_getElem? (i := 16) rfl))) (notFace_of_selects (args := #[]) (mvT hZ (hw _ (List.mem_of_getElem? (i := 18) rfl)))) (mvT hZ (hw _ (List.mem_of_getElem? (i := 18) rfl))) (mvT hZ (hw _ (List.mem_of_getElem? (i := 17) rfl))) (by decide) (backOf (W := 0) (rm1 l Z a0 hw [] o1 0 h11 n0 Z11 f11_6) hZ (hw _ (List.mem_of_getElem? (i := 19) rfl)) (hw _ (List.mem_of_getElem? (i := 3) rfl)) (by decide) (by decide)) q15a q15c (g := (mkF m 72 #[.val (.int p1), .val (.ref b1), .val (.int (1 : Int32)), .val (.ref o1), .val (.int (0 : Int32))] [(.ref o1)])) rfl (by rw [hml]; rfl) (Steps.refl _) (argsL := []) (rest := []) (lenOf pd_0 rfl) rfl (by show 2 * 0 + _ ≤ _; exact Nat.le_of_eq rfl) (hb hby at_72) (fun _ _ => ⟨rfl, e11, (by first | decide | exact Nat.le_of_ble_eq_true rfl), (by first | decide | exact Nat.le_of_ble_eq_true rfl)⟩)
    dsimp only [Pt.U, Pt.locs, Pt.cells, Pt.slots] at X15 l15 y15 z15 st15 hQ15
    subst l15 y15 z15
    obtain ⟨rfl, N15, e15⟩ := hQ15
    have NF15 := Fr.app N11 N15
    refine own_go (fun _ k => st15.trans k) ?_
    show own_Gl p.tables e below F (T15.setTop (mkF m 75 #[.val (.int p1), .val (.ref b1), .val (.int (1 : Int32)), .val (.ref o1), .val (.int (0 : Int32))] [(.int (own_p 0))]))
    refine own_go (fun _ k => XS.iload X15.here hx rfl (hb hby at_75) rfl k) ?_
    show own_Gl p.tables e below F (T15.setTop (mkF m 77 #[.val (.int p1), .val (.ref b1), .val (.int (1 : Int32)), .val (.ref o1), .val (.int (0 : Int32))] [(.int (0 : Int32)), (.int (own_p 0))]))
    refine own_go (fun _ k => XS.icmpNo X15.here hx rfl (hb hby at_77) rfl (XT.ii_ne_f (by decide)) k) ?_
    show own_Gl p.tables e below F (T15.setTop (mkF m 80 #[.val (.int p1), .val (.ref b1), .val (.int (1 : Int32)), .val (.ref o1), .val (.int (0 : Int32))] []))
    refine own_go (fun _ k => XS.iconst X15.here hx rfl (hb hby at_80) k) ?_
    show own_Gl p.tables e below F (T15.setTop (mkF m 81 #[.val (.int p1), .val (.ref b1), .val (.int (1 : Int32)), .val (.ref o1), .val (.int (0 : Int32))] [(.int (1 : Int32))]))
    refine own_go (fun _ k => XS.goto X15.here hx rfl (pc0 := 81) (pc' := 85) rfl (hb hby at_81) (by decide) (by decide) k) ?_
    show own_Gl p.tables e below F (T15.setTop (mkF m 85 #[.val (.int p1), .val (.ref b1), .val (.int (1 : Int32)), .val (.ref o1), .val (.int (0 : Int32))] [(.int (1 : Int32))]))
    obtain ⟨fs, hr, hrun, hended, hW, hsame⟩ := X15.leave (v := some (.int (1 : Int32))) (fun h => by rw [Bd.returns] at h; cases h)
    subst hF
    refine own_fin ?_ ⟨hrun, hended, _, _, rfl, ?_, ⟨_, rfl⟩, hW, hsame.mono (by first | decide | exact Nat.le_of_ble_eq_true rfl) (by first | decide | exact Nat.le_of_ble_eq_true rfl)⟩
    · exact own_retN X15 hx (t := .boolean) Bd.returns (by simp) rfl (hb hby at_85) hr
    · show Q_rm0 Z p1 o0 o1 o2 o3 o4 h0 n0 _ T15.heap _
      rw [e15]
      exact ⟨rfl, NF15⟩
  · show own_Gl p.tables e below F (T11.setTop (mkF m 41 #[.val (.int p1), .val (.ref b1), .unset, .unset, .unset] [(.int (2 : Int32))]))
    refine own_go (fun _ k => XS.istoreN X11.here hx rfl (hb hby at_41) rfl (l' := #[.val (.int p1), .val (.ref b1), .val (.int (2 : Int32)), .unset, .unset]) rfl k) ?_
    show own_Gl p.tables e below F (T11.setTop (mkF m 42 #[.val (.int p1), .val (.ref b1), .val (.int (2 : Int32)), .unset, .unset] []))
    refine own_go (fun _ k => XS.aloadN X11.here hx rfl (hb hby at_42) rfl rfl k) ?_
    show own_Gl p.tables e below F (T11.setTop (mkF m 43 #[.val (.int p1), .val (.ref b1), .val (.int (2 : Int32)), .unset, .unset] [(.ref b1)]))
    refine own_go (fun _ k => XS.iloadN X11.here hx rfl (hb hby at_43) rfl k) ?_
    show own_Gl p.tables e below F (T11.setTop (mkF m 44 #[.val (.int p1), .val (.ref b1), .val (.int (2 : Int32)), .unset, .unset] [(.int (2 : Int32)), (.ref b1)]))
    obtain ⟨cl16, Ar16, ak16, aS16, aN16, aH16, aG16⟩ := V11
    have hin16 : ¬ ((2 : Int32) < 0 ∨ cl16.slots.size ≤ ((2 : Int32)).toNatClampNeg) := inb_of aS16 ⟨by decide, by decide⟩
    refine own_go (fun _ k => X11.aaload hx (j := (2 : Int32)) (v := (.ref o2)) (by rw [e11]; exact Ar16.1) (State.isArrayOf_alike hZ.alike Ar16.2.1) rfl Ar16.2.2 hin16 (Has.at aH16 hin16 rfl) (g := (mkF m 44 #[.val (.int p1), .val (.ref b1), .val (.int (2 : Int32)), .unset, .unset] [(.int (2 : Int32)), (.ref b1)])) rfl rfl (hb hby at_44) _ k) ?_
    show own_Gl p.tables e below F (T11.setTop (mkF m 45 #[.val (.int p1), .val (.ref b1), .val (.int (2 : Int32)), .unset, .unset] [(.ref o2)]))
    refine own_go (fun _ k => XS.astoreN X11.here hx rfl (hb hby at_45) rfl rfl (l' := #[.val (.int p1), .val (.ref b1), .val (.int (2 : Int32)), .val (.ref o2), .unset]) rfl k) ?_
    show own_Gl p.tables e below F (T11.setTop (mkF m 46 #[.val (.int p1), .val (.ref b1), .val (.int (2 : Int32)), .val (.ref o2), .unset] []))
    refine own_go (fun _ k => XS.iloadN X11.here hx rfl (hb hby at_46) rfl k) ?_
    show own_Gl p.tables e below F (T11.setTop (mkF m 47 #[.val (.int p1), .val (.ref b1), .val (.int (2 : Int32)), .val (.ref o2), .unset] [(.int (2 : Int32))]))
    refine own_go (fun _ k => XS.iconst X11.here hx rfl (hb hby at_47) k) ?_
    show own_Gl p.tables e below F (T11.setTop (mkF m 48 #[.val (.int p1), .val (.ref b1), .val (.int (2 : Int32)), .val (.ref o2), .unset] [(.int (3 : Int32)), (.int (2 : Int32))]))
    refine own_go (fun _ k => XS.icmpYes X11.here hx rfl (pc0 := 48) (pc' := 57) rfl (hb hby at_48) rfl (XT.ii_ne_t (by decide)) (by decide) (by decide) k) ?_
    show own_Gl p.tables e below F (T11.setTop (mkF m 57 #[.val (.int p1), .val (.ref b1), .val (.int (2 : Int32)), .val (.ref o2), .unset] []))
    refine own_go (fun _ k => XS.iloadN X11.here hx rfl (hb hby at_57) rfl k) ?_
    show own_Gl p.tables e below F (T11.setTop (mkF m 58 #[.val (.int p1), .val (.ref b1), .val (.int (2 : Int32)), .val (.ref o2), .unset] [(.int (2 : Int32))]))
    refine own_go (fun _ k => XS.iconst X11.here hx rfl (hb hby at_58) k) ?_
    show own_Gl p.tables e below F (T11.setTop (mkF m 59 #[.val (.int p1), .val (.ref b1), .val (.int (2 : Int32)), .val (.ref o2), .unset] [(.int (4 : Int32)), (.int (2 : Int32))]))
    refine own_go (fun _ k => XS.icmpYes X11.here hx rfl (pc0 := 59) (pc' := 68) rfl (hb hby at_59) rfl (XT.ii_ne_t (by decide)) (by decide) (by decide) k) ?_
    show own_Gl p.tables e below F (T11.setTop (mkF m 68 #[.val (.int p1), .val (.ref b1), .val (.int (2 : Int32)), .val (.ref o2), .unset] []))
    refine own_go (fun _ k => XS.iconst X11.here hx rfl (hb hby at_68) k) ?_
    show own_Gl p.tables e below F (T11.setTop (mkF m 69 #[.val (.int p1), .val (.ref b1), .val (.int (2 : Int32)), .val (.ref o2), .unset] [(.int (0 : Int32))]))
    refine own_go (fun _ k => XS.istore X11.here hx rfl (hb hby at_69) rfl (l' := #[.val (.int p1), .val (.ref b1), .val (.int (2 : Int32)), .val (.ref o2), .val (.int (0 : Int32))]) rfl k) ?_
    show own_Gl p.tables e below F (T11.setTop (mkF m 71 #[.val (.int p1), .val (.ref b1), .val (.int (2 : Int32)), .val (.ref o2), .val (.int (0 : Int32))] []))
    refine own_go (fun _ k => XS.aloadN X11.here hx rfl (hb hby at_71) rfl rfl k) ?_
    show own_Gl p.tables e below F (T11.setTop (mkF m 72 #[.val (.int p1), .val (.ref b1), .val (.int (2 : Int32)), .val (.ref o2), .val (.int (0 : Int32))] [(.ref o2)]))
    obtain ⟨cq17, kq17, q17a, q17b, q17c⟩ := isOf hZ e11 f11_8
    obtain ⟨_, _, ⟨T17, L17, k17, n17⟩, -, X17, ⟨Lc17, hQ17, l17, y17, z17⟩, st17⟩ := X11.virtualBack hx (y := (⟨"com/example/bordero/bordero/core/Field$Format", "isDate", "()Z"⟩ : MethodName)) (z := (⟨"com/example/bordero/bordero/core/Field$Format", "isDate", "()Z"⟩ : MethodName)) hown (mvT hZ (hw _ (List.mem_of_getElem? (i := 15) rfl))) (mvT hZ (hw _ (List.mem_of_getElem? (i := 16) rfl))) (notFace_of_selects (args := #[]) (mvT hZ (hw _ (List.mem_of_getElem? (i := 18) rfl)))) (mvT hZ (hw _ (List.mem_of_getElem? (i := 18) rfl))) (mvT hZ (hw _ (List.mem_of_getElem? (i := 17) rfl))) (by decide) (backOf (W := 0) (rm1 l Z a0 hw [] o2 0 h11 n0 Z11 f11_9) hZ (hw _ (List.mem_of_getElem? (i := 19) rfl)) (hw _ (List.mem_of_getElem? (i := 3) rfl)) (by decide) (by decide)) q17a q17c (g := (mkF m 72 #[.val (.int p1), .val (.ref b1), .val (.int (2 : Int32)), .val (.ref o2), .val (.int (0 : Int32))] [(.ref o2)])) rfl (by rw [hml]; rfl) (Steps.refl _) (argsL := []) (rest := []) (lenOf pd_0 rfl) rfl (by show 2 * 0 + _ ≤ _; exact Nat.le_of_eq rfl) (hb hby at_72) (fun _ _ => ⟨rfl, e11, (by first | decide | exact Nat.le_of_ble_eq_true rfl), (by first | decide | exact Nat.le_of_ble_eq_true rfl)⟩)
    dsimp only [Pt.U, Pt.locs, Pt.cells, Pt.slots] at X17 l17 y17 z17 st17 hQ17
    subst l17 y17 z17
    obtain ⟨rfl, N17, e17⟩ := hQ17
    have NF17 := Fr.app N11 N17
    refine own_go (fun _ k => st17.trans k) ?_
    show own_Gl p.tables e below F (T17.setTop (mkF m 75 #[.val (.int p1), .val (.ref b1), .val (.int (2 : Int32)), .val (.ref o2), .val (.int (0 : Int32))] [(.int (own_p 0))]))
    refine own_go (fun _ k => XS.iload X17.here hx rfl (hb hby at_75) rfl k) ?_
    show own_Gl p.tables e below F (T17.setTop (mkF m 77 #[.val (.int p1), .val (.ref b1), .val (.int (2 : Int32)), .val (.ref o2), .val (.int (0 : Int32))] [(.int (0 : Int32)), (.int (own_p 0))]))
    refine own_go (fun _ k => XS.icmpNo X17.here hx rfl (hb hby at_77) rfl (XT.ii_ne_f (by decide)) k) ?_
    show own_Gl p.tables e below F (T17.setTop (mkF m 80 #[.val (.int p1), .val (.ref b1), .val (.int (2 : Int32)), .val (.ref o2), .val (.int (0 : Int32))] []))
    refine own_go (fun _ k => XS.iconst X17.here hx rfl (hb hby at_80) k) ?_
    show own_Gl p.tables e below F (T17.setTop (mkF m 81 #[.val (.int p1), .val (.ref b1), .val (.int (2 : Int32)), .val (.ref o2), .val (.int (0 : Int32))] [(.int (1 : Int32))]))
    refine own_go (fun _ k => XS.goto X17.here hx rfl (pc0 := 81) (pc' := 85) rfl (hb hby at_81) (by decide) (by decide) k) ?_
    show own_Gl p.tables e below F (T17.setTop (mkF m 85 #[.val (.int p1), .val (.ref b1), .val (.int (2 : Int32)), .val (.ref o2), .val (.int (0 : Int32))] [(.int (1 : Int32))]))
    obtain ⟨fs, hr, hrun, hended, hW, hsame⟩ := X17.leave (v := some (.int (1 : Int32))) (fun h => by rw [Bd.returns] at h; cases h)
    subst hF
    refine own_fin ?_ ⟨hrun, hended, _, _, rfl, ?_, ⟨_, rfl⟩, hW, hsame.mono (by first | decide | exact Nat.le_of_ble_eq_true rfl) (by first | decide | exact Nat.le_of_ble_eq_true rfl)⟩
    · exact own_retN X17 hx (t := .boolean) Bd.returns (by simp) rfl (hb hby at_85) hr
    · show Q_rm0 Z p1 o0 o1 o2 o3 o4 h0 n0 _ T17.heap _
      rw [e17]
      exact ⟨rfl, NF17⟩
  · show own_Gl p.tables e below F (T11.setTop (mkF m 41 #[.val (.int p1), .val (.ref b1), .unset, .unset, .unset] [(.int (3 : Int32))]))
    refine own_go (fun _ k => XS.istoreN X11.here hx rfl (hb hby at_41) rfl (l' := #[.val (.int p1), .val (.ref b1), .val (.int (3 : Int32)), .unset, .unset]) rfl k) ?_
    show own_Gl p.tables e below F (T11.setTop (mkF m 42 #[.val (.int p1), .val (.ref b1), .val (.int (3 : Int32)), .unset, .unset] []))
    refine own_go (fun _ k => XS.aloadN X11.here hx rfl (hb hby at_42) rfl rfl k) ?_
    show own_Gl p.tables e below F (T11.setTop (mkF m 43 #[.val (.int p1), .val (.ref b1), .val (.int (3 : Int32)), .unset, .unset] [(.ref b1)]))
    refine own_go (fun _ k => XS.iloadN X11.here hx rfl (hb hby at_43) rfl k) ?_
    show own_Gl p.tables e below F (T11.setTop (mkF m 44 #[.val (.int p1), .val (.ref b1), .val (.int (3 : Int32)), .unset, .unset] [(.int (3 : Int32)), (.ref b1)]))
    obtain ⟨cl18, Ar18, ak18, aS18, aN18, aH18, aG18⟩ := V11
    have hin18 : ¬ ((3 : Int32) < 0 ∨ cl18.slots.size ≤ ((3 : Int32)).toNatClampNeg) := inb_of aS18 ⟨by decide, by decide⟩
    refine own_go (fun _ k => X11.aaload hx (j := (3 : Int32)) (v := (.ref o3)) (by rw [e11]; exact Ar18.1) (State.isArrayOf_alike hZ.alike Ar18.2.1) rfl Ar18.2.2 hin18 (Has.at aH18 hin18 rfl) (g := (mkF m 44 #[.val (.int p1), .val (.ref b1), .val (.int (3 : Int32)), .unset, .unset] [(.int (3 : Int32)), (.ref b1)])) rfl rfl (hb hby at_44) _ k) ?_
    show own_Gl p.tables e below F (T11.setTop (mkF m 45 #[.val (.int p1), .val (.ref b1), .val (.int (3 : Int32)), .unset, .unset] [(.ref o3)]))
    refine own_go (fun _ k => XS.astoreN X11.here hx rfl (hb hby at_45) rfl rfl (l' := #[.val (.int p1), .val (.ref b1), .val (.int (3 : Int32)), .val (.ref o3), .unset]) rfl k) ?_
    show own_Gl p.tables e below F (T11.setTop (mkF m 46 #[.val (.int p1), .val (.ref b1), .val (.int (3 : Int32)), .val (.ref o3), .unset] []))
    refine own_go (fun _ k => XS.iloadN X11.here hx rfl (hb hby at_46) rfl k) ?_
    show own_Gl p.tables e below F (T11.setTop (mkF m 47 #[.val (.int p1), .val (.ref b1), .val (.int (3 : Int32)), .val (.ref o3), .unset] [(.int (3 : Int32))]))
    refine own_go (fun _ k => XS.iconst X11.here hx rfl (hb hby at_47) k) ?_
    show own_Gl p.tables e below F (T11.setTop (mkF m 48 #[.val (.int p1), .val (.ref b1), .val (.int (3 : Int32)), .val (.ref o3), .unset] [(.int (3 : Int32)), (.int (3 : Int32))]))
    refine own_go (fun _ k => XS.icmpNo X11.here hx rfl (hb hby at_48) rfl (XT.ii_ne_f (by decide)) k) ?_
    show own_Gl p.tables e below F (T11.setTop (mkF m 51 #[.val (.int p1), .val (.ref b1), .val (.int (3 : Int32)), .val (.ref o3), .unset] []))
    refine own_go (fun _ k => XS.iconst X11.here hx rfl (hb hby at_51) k) ?_
    show own_Gl p.tables e below F (T11.setTop (mkF m 52 #[.val (.int p1), .val (.ref b1), .val (.int (3 : Int32)), .val (.ref o3), .unset] [(.int (1 : Int32))]))
    refine own_go (fun _ k => XS.istore X11.here hx rfl (hb hby at_52) rfl (l' := #[.val (.int p1), .val (.ref b1), .val (.int (3 : Int32)), .val (.ref o3), .val (.int (1 : Int32))]) rfl k) ?_
    show own_Gl p.tables e below F (T11.setTop (mkF m 54 #[.val (.int p1), .val (.ref b1), .val (.int (3 : Int32)), .val (.ref o3), .val (.int (1 : Int32))] []))
    refine own_go (fun _ k => XS.goto X11.here hx rfl (pc0 := 54) (pc' := 71) rfl (hb hby at_54) (by decide) (by decide) k) ?_
    show own_Gl p.tables e below F (T11.setTop (mkF m 71 #[.val (.int p1), .val (.ref b1), .val (.int (3 : Int32)), .val (.ref o3), .val (.int (1 : Int32))] []))
    refine own_go (fun _ k => XS.aloadN X11.here hx rfl (hb hby at_71) rfl rfl k) ?_
    show own_Gl p.tables e below F (T11.setTop (mkF m 72 #[.val (.int p1), .val (.ref b1), .val (.int (3 : Int32)), .val (.ref o3), .val (.int (1 : Int32))] [(.ref o3)]))
    obtain ⟨cq19, kq19, q19a, q19b, q19c⟩ := isOf hZ e11 f11_11
    obtain ⟨_, _, ⟨T19, L19, k19, n19⟩, -, X19, ⟨Lc19, hQ19, l19, y19, z19⟩, st19⟩ := X11.virtualBack hx (y := (⟨"com/example/bordero/bordero/core/Field$Format", "isDate", "()Z"⟩ : MethodName)) (z := (⟨"com/example/bordero/bordero/core/Field$Format", "isDate", "()Z"⟩ : MethodName)) hown (mvT hZ (hw _ (List.mem_of_getElem? (i := 15) rfl))) (mvT hZ (hw _ (List.mem_of_getElem? (i := 16) rfl))) (notFace_of_selects (args := #[]) (mvT hZ (hw _ (List.mem_of_getElem? (i := 18) rfl)))) (mvT hZ (hw _ (List.mem_of_getElem? (i := 18) rfl))) (mvT hZ (hw _ (List.mem_of_getElem? (i := 17) rfl))) (by decide) (backOf (W := 0) (rm1 l Z a0 hw [] o3 8 h11 n0 Z11 f11_12) hZ (hw _ (List.mem_of_getElem? (i := 19) rfl)) (hw _ (List.mem_of_getElem? (i := 3) rfl)) (by decide) (by decide)) q19a q19c (g := (mkF m 72 #[.val (.int p1), .val (.ref b1), .val (.int (3 : Int32)), .val (.ref o3), .val (.int (1 : Int32))] [(.ref o3)])) rfl (by rw [hml]; rfl) (Steps.refl _) (argsL := []) (rest := []) (lenOf pd_0 rfl) rfl (by show 2 * 0 + _ ≤ _; exact Nat.le_of_eq rfl) (hb hby at_72) (fun _ _ => ⟨rfl, e11, (by first | decide | exact Nat.le_of_ble_eq_true rfl), (by first | decide | exact Nat.le_of_ble_eq_true rfl)⟩)
    dsimp only [Pt.U, Pt.locs, Pt.cells, Pt.slots] at X19 l19 y19 z19 st19 hQ19
    subst l19 y19 z19
    obtain ⟨rfl, N19, e19⟩ := hQ19
    have NF19 := Fr.app N11 N19
    refine own_go (fun _ k => st19.trans k) ?_
    show own_Gl p.tables e below F (T19.setTop (mkF m 75 #[.val (.int p1), .val (.ref b1), .val (.int (3 : Int32)), .val (.ref o3), .val (.int (1 : Int32))] [(.int (own_p 8))]))
    refine own_go (fun _ k => XS.iload X19.here hx rfl (hb hby at_75) rfl k) ?_
    show own_Gl p.tables e below F (T19.setTop (mkF m 77 #[.val (.int p1), .val (.ref b1), .val (.int (3 : Int32)), .val (.ref o3), .val (.int (1 : Int32))] [(.int (1 : Int32)), (.int (own_p 8))]))
    refine own_go (fun _ k => XS.icmpNo X19.here hx rfl (hb hby at_77) rfl (XT.ii_ne_f (by decide)) k) ?_
    show own_Gl p.tables e below F (T19.setTop (mkF m 80 #[.val (.int p1), .val (.ref b1), .val (.int (3 : Int32)), .val (.ref o3), .val (.int (1 : Int32))] []))
    refine own_go (fun _ k => XS.iconst X19.here hx rfl (hb hby at_80) k) ?_
    show own_Gl p.tables e below F (T19.setTop (mkF m 81 #[.val (.int p1), .val (.ref b1), .val (.int (3 : Int32)), .val (.ref o3), .val (.int (1 : Int32))] [(.int (1 : Int32))]))
    refine own_go (fun _ k => XS.goto X19.here hx rfl (pc0 := 81) (pc' := 85) rfl (hb hby at_81) (by decide) (by decide) k) ?_
    show own_Gl p.tables e below F (T19.setTop (mkF m 85 #[.val (.int p1), .val (.ref b1), .val (.int (3 : Int32)), .val (.ref o3), .val (.int (1 : Int32))] [(.int (1 : Int32))]))
    obtain ⟨fs, hr, hrun, hended, hW, hsame⟩ := X19.leave (v := some (.int (1 : Int32))) (fun h => by rw [Bd.returns] at h; cases h)
    subst hF
    refine own_fin ?_ ⟨hrun, hended, _, _, rfl, ?_, ⟨_, rfl⟩, hW, hsame.mono (by first | decide | exact Nat.le_of_ble_eq_true rfl) (by first | decide | exact Nat.le_of_ble_eq_true rfl)⟩
    · exact own_retN X19 hx (t := .boolean) Bd.returns (by simp) rfl (hb hby at_85) hr
    · show Q_rm0 Z p1 o0 o1 o2 o3 o4 h0 n0 _ T19.heap _
      rw [e19]
      exact ⟨rfl, NF19⟩
  · show own_Gl p.tables e below F (T11.setTop (mkF m 41 #[.val (.int p1), .val (.ref b1), .unset, .unset, .unset] [(.int (4 : Int32))]))
    refine own_go (fun _ k => XS.istoreN X11.here hx rfl (hb hby at_41) rfl (l' := #[.val (.int p1), .val (.ref b1), .val (.int (4 : Int32)), .unset, .unset]) rfl k) ?_
    show own_Gl p.tables e below F (T11.setTop (mkF m 42 #[.val (.int p1), .val (.ref b1), .val (.int (4 : Int32)), .unset, .unset] []))
    refine own_go (fun _ k => XS.aloadN X11.here hx rfl (hb hby at_42) rfl rfl k) ?_
    show own_Gl p.tables e below F (T11.setTop (mkF m 43 #[.val (.int p1), .val (.ref b1), .val (.int (4 : Int32)), .unset, .unset] [(.ref b1)]))
    refine own_go (fun _ k => XS.iloadN X11.here hx rfl (hb hby at_43) rfl k) ?_
    show own_Gl p.tables e below F (T11.setTop (mkF m 44 #[.val (.int p1), .val (.ref b1), .val (.int (4 : Int32)), .unset, .unset] [(.int (4 : Int32)), (.ref b1)]))
    obtain ⟨cl20, Ar20, ak20, aS20, aN20, aH20, aG20⟩ := V11
    have hin20 : ¬ ((4 : Int32) < 0 ∨ cl20.slots.size ≤ ((4 : Int32)).toNatClampNeg) := inb_of aS20 ⟨by decide, by decide⟩
    refine own_go (fun _ k => X11.aaload hx (j := (4 : Int32)) (v := (.ref o4)) (by rw [e11]; exact Ar20.1) (State.isArrayOf_alike hZ.alike Ar20.2.1) rfl Ar20.2.2 hin20 (Has.at aH20 hin20 rfl) (g := (mkF m 44 #[.val (.int p1), .val (.ref b1), .val (.int (4 : Int32)), .unset, .unset] [(.int (4 : Int32)), (.ref b1)])) rfl rfl (hb hby at_44) _ k) ?_
    show own_Gl p.tables e below F (T11.setTop (mkF m 45 #[.val (.int p1), .val (.ref b1), .val (.int (4 : Int32)), .unset, .unset] [(.ref o4)]))
    refine own_go (fun _ k => XS.astoreN X11.here hx rfl (hb hby at_45) rfl rfl (l' := #[.val (.int p1), .val (.ref b1), .val (.int (4 : Int32)), .val (.ref o4), .unset]) rfl k) ?_
    show own_Gl p.tables e below F (T11.setTop (mkF m 46 #[.val (.int p1), .val (.ref b1), .val (.int (4 : Int32)), .val (.ref o4), .unset] []))
    refine own_go (fun _ k => XS.iloadN X11.here hx rfl (hb hby at_46) rfl k) ?_
    show own_Gl p.tables e below F (T11.setTop (mkF m 47 #[.val (.int p1), .val (.ref b1), .val (.int (4 : Int32)), .val (.ref o4), .unset] [(.int (4 : Int32))]))
    refine own_go (fun _ k => XS.iconst X11.here hx rfl (hb hby at_47) k) ?_
    show own_Gl p.tables e below F (T11.setTop (mkF m 48 #[.val (.int p1), .val (.ref b1), .val (.int (4 : Int32)), .val (.ref o4), .unset] [(.int (3 : Int32)), (.int (4 : Int32))]))
    refine own_go (fun _ k => XS.icmpYes X11.here hx rfl (pc0 := 48) (pc' := 57) rfl (hb hby at_48) rfl (XT.ii_ne_t (by decide)) (by decide) (by decide) k) ?_
    show own_Gl p.tables e below F (T11.setTop (mkF m 57 #[.val (.int p1), .val (.ref b1), .val (.int (4 : Int32)), .val (.ref o4), .unset] []))
    refine own_go (fun _ k => XS.iloadN X11.here hx rfl (hb hby at_57) rfl k) ?_
    show own_Gl p.tables e below F (T11.setTop (mkF m 58 #[.val (.int p1), .val (.ref b1), .val (.int (4 : Int32)), .val (.ref o4), .unset] [(.int (4 : Int32))]))
    refine own_go (fun _ k => XS.iconst X11.here hx rfl (hb hby at_58) k) ?_
    show own_Gl p.tables e below F (T11.setTop (mkF m 59 #[.val (.int p1), .val (.ref b1), .val (.int (4 : Int32)), .val (.ref o4), .unset] [(.int (4 : Int32)), (.int (4 : Int32))]))
    refine own_go (fun _ k => XS.icmpNo X11.here hx rfl (hb hby at_59) rfl (XT.ii_ne_f (by decide)) k) ?_
    show own_Gl p.tables e below F (T11.setTop (mkF m 62 #[.val (.int p1), .val (.ref b1), .val (.int (4 : Int32)), .val (.ref o4), .unset] []))
    refine own_go (fun _ k => XS.iconst X11.here hx rfl (hb hby at_62) k) ?_
    show own_Gl p.tables e below F (T11.setTop (mkF m 63 #[.val (.int p1), .val (.ref b1), .val (.int (4 : Int32)), .val (.ref o4), .unset] [(.int (1 : Int32))]))
    refine own_go (fun _ k => XS.istore X11.here hx rfl (hb hby at_63) rfl (l' := #[.val (.int p1), .val (.ref b1), .val (.int (4 : Int32)), .val (.ref o4), .val (.int (1 : Int32))]) rfl k) ?_
    show own_Gl p.tables e below F (T11.setTop (mkF m 65 #[.val (.int p1), .val (.ref b1), .val (.int (4 : Int32)), .val (.ref o4), .val (.int (1 : Int32))] []))
    refine own_go (fun _ k => XS.goto X11.here hx rfl (pc0 := 65) (pc' := 71) rfl (hb hby at_65) (by decide) (by decide) k) ?_
    show own_Gl p.tables e below F (T11.setTop (mkF m 71 #[.val (.int p1), .val (.ref b1), .val (.int (4 : Int32)), .val (.ref o4), .val (.int (1 : Int32))] []))
    refine own_go (fun _ k => XS.aloadN X11.here hx rfl (hb hby at_71) rfl rfl k) ?_
    show own_Gl p.tables e below F (T11.setTop (mkF m 72 #[.val (.int p1), .val (.ref b1), .val (.int (4 : Int32)), .val (.ref o4), .val (.int (1 : Int32))] [(.ref o4)]))
    obtain ⟨cq21, kq21, q21a, q21b, q21c⟩ := isOf hZ e11 f11_14
    obtain ⟨_, _, ⟨T21, L21, k21, n21⟩, -, X21, ⟨Lc21, hQ21, l21, y21, z21⟩, st21⟩ := X11.virtualBack hx (y := (⟨"com/example/bordero/bordero/core/Field$Format", "isDate", "()Z"⟩ : MethodName)) (z := (⟨"com/example/bordero/bordero/core/Field$Format", "isDate", "()Z"⟩ : MethodName)) hown (mvT hZ (hw _ (List.mem_of_getElem? (i := 15) rfl))) (mvT hZ (hw _ (List.mem_of_getElem? (i := 16) rfl))) (notFace_of_selects (args := #[]) (mvT hZ (hw _ (List.mem_of_getElem? (i := 18) rfl)))) (mvT hZ (hw _ (List.mem_of_getElem? (i := 18) rfl))) (mvT hZ (hw _ (List.mem_of_getElem? (i := 17) rfl))) (by decide) (backOf (W := 0) (rm1 l Z a0 hw [] o4 6 h11 n0 Z11 f11_15) hZ (hw _ (List.mem_of_getElem? (i := 19) rfl)) (hw _ (List.mem_of_getElem? (i := 3) rfl)) (by decide) (by decide)) q21a q21c (g := (mkF m 72 #[.val (.int p1), .val (.ref b1), .val (.int (4 : Int32)), .val (.ref o4), .val (.int (1 : Int32))] [(.ref o4)])) rfl (by rw [hml]; rfl) (Steps.refl _) (argsL := []) (rest := []) (lenOf pd_0 rfl) rfl (by show 2 * 0 + _ ≤ _; exact Nat.le_of_eq rfl) (hb hby at_72) (fun _ _ => ⟨rfl, e11, (by first | decide | exact Nat.le_of_ble_eq_true rfl), (by first | decide | exact Nat.le_of_ble_eq_true rfl)⟩)
    dsimp only [Pt.U, Pt.locs, Pt.cells, Pt.slots] at X21 l21 y21 z21 st21 hQ21
    subst l21 y21 z21
    obtain ⟨rfl, N21, e21⟩ := hQ21
    have NF21 := Fr.app N11 N21
    refine own_go (fun _ k => st21.trans k) ?_
    show own_Gl p.tables e below F (T21.setTop (mkF m 75 #[.val (.int p1), .val (.ref b1), .val (.int (4 : Int32)), .val (.ref o4), .val (.int (1 : Int32))] [(.int (own_p 6))]))
    refine own_go (fun _ k => XS.iload X21.here hx rfl (hb hby at_75) rfl k) ?_
    show own_Gl p.tables e below F (T21.setTop (mkF m 77 #[.val (.int p1), .val (.ref b1), .val (.int (4 : Int32)), .val (.ref o4), .val (.int (1 : Int32))] [(.int (1 : Int32)), (.int (own_p 6))]))
    refine own_go (fun _ k => XS.icmpNo X21.here hx rfl (hb hby at_77) rfl (XT.ii_ne_f (by decide)) k) ?_
    show own_Gl p.tables e below F (T21.setTop (mkF m 80 #[.val (.int p1), .val (.ref b1), .val (.int (4 : Int32)), .val (.ref o4), .val (.int (1 : Int32))] []))
    refine own_go (fun _ k => XS.iconst X21.here hx rfl (hb hby at_80) k) ?_
    show own_Gl p.tables e below F (T21.setTop (mkF m 81 #[.val (.int p1), .val (.ref b1), .val (.int (4 : Int32)), .val (.ref o4), .val (.int (1 : Int32))] [(.int (1 : Int32))]))
    refine own_go (fun _ k => XS.goto X21.here hx rfl (pc0 := 81) (pc' := 85) rfl (hb hby at_81) (by decide) (by decide) k) ?_
    show own_Gl p.tables e below F (T21.setTop (mkF m 85 #[.val (.int p1), .val (.ref b1), .val (.int (4 : Int32)), .val (.ref o4), .val (.int (1 : Int32))] [(.int (1 : Int32))]))
    obtain ⟨fs, hr, hrun, hended, hW, hsame⟩ := X21.leave (v := some (.int (1 : Int32))) (fun h => by rw [Bd.returns] at h; cases h)
    subst hF
    refine own_fin ?_ ⟨hrun, hended, _, _, rfl, ?_, ⟨_, rfl⟩, hW, hsame.mono (by first | decide | exact Nat.le_of_ble_eq_true rfl) (by first | decide | exact Nat.le_of_ble_eq_true rfl)⟩
    · exact own_retN X21 hx (t := .boolean) Bd.returns (by simp) rfl (hb hby at_85) hr
    · show Q_rm0 Z p1 o0 o1 o2 o3 o4 h0 n0 _ T21.heap _
      rw [e21]
      exact ⟨rfl, NF21⟩
set_option maxRecDepth 65536 in
set_option maxHeartbeats 40000000 in
theorem comes_1 {Post : Tables → Env → Array Value → State → Outcome → State → Prop} (hpost : ∀ tb e args s v u, (limb_1_1.after args s (.returned v) u = true ∧ limb_1_2.after args s (.returned v) u = true ∧ True) → FrameEnd s (.returned v) u (Jvm.fieldLocs frame_1_writes args s ++ Jvm.arrayLocs frame_1_arrays args s ++ Jvm.staticLocs frame_1_statics s) 16 128 → Post tb e args s (.returned v) u) :
    ArmFor flags0 classFile x code maxLocals ret World_1 tables_1 room_1 Calls_1 rest_1 Pre_1 Post := by
  intro l hfl _ _ p e ha hc hk s m args below hf hA hF happ hP
  obtain ⟨hcalls, hrest, hpre⟩ := hP
  obtain ⟨-, -, -, hnamed, -, -, -, hat⟩ := (Spec.applies_iff hf).mp happ
  obtain ⟨hg, hn⟩ := and_e (Cond.before_iff.mp (show (Jvm.Cond.and given_1 narrow_1).before args s = true from hpre))
  obtain ⟨gv1, gv2⟩ := and_e hg
  obtain ⟨w0, rfl⟩ : ∃ w0 : Value, args = #[w0] := by
    have hs : args.size = 1 := by simpa [Cond.value, given_1] using gv1
    obtain ⟨L⟩ := args
    match L, hs with
    | [w0], _ => exact ⟨w0, rfl⟩
  have hw := fun d (hd : d ∈ tables_1) => atoms_spec (ws := Jvm.Cond.code x code maxLocals ret :: tables_1) hat d (List.mem_cons_of_mem _ hd)
  have hfit : Fit s := fun {y c} hc i hi => by
    obtain ⟨ha, rfl⟩ := Array.getElem?_eq_some_iff.mp hc
    have q := List.all_eq_true.mp ((Array.all_eq_true_iff_forall_mem.mp hF) _ (Array.getElem_mem ha)) i (List.mem_range.mpr hi)
    simpa [Array.getElem?_eq_getElem hi] using q
  obtain ⟨i0, ei0⟩ := is_v gv2
  obtain rfl : w0 = (.int i0) := Option.some.inj ei0
  obtain ⟨nn0, mm0⟩ := and_e hn
  obtain ⟨nn1, mm1⟩ := and_e mm0
  obtain ⟨nn2, mm2⟩ := and_e mm1
  obtain ⟨nn3, mm3⟩ := and_e mm2
  obtain ⟨nn4, mm4⟩ := and_e mm3
  obtain ⟨nn5, mm5⟩ := and_e mm4
  obtain ⟨nn6, mm6⟩ := and_e mm5
  obtain ⟨nn7, mm7⟩ := and_e mm6
  obtain ⟨nn8, mm8⟩ := and_e mm7
  obtain ⟨o0, ev0⟩ := exa_v nn0
  have S0 := Sta.start ev0 (Or.inr ⟨(hw _ (List.mem_of_getElem? (i := 3) rfl)), (hw _ (List.mem_of_getElem? (i := 4) rfl))⟩)
  have E_0 := Exa.start ev0 nn0
  obtain ⟨o1, ev1⟩ := exa_v nn1
  have S1 := Sta.start ev1 (Or.inr ⟨(hw _ (List.mem_of_getElem? (i := 3) rfl)), (hw _ (List.mem_of_getElem? (i := 7) rfl))⟩)
  have E_1 := Exa.start ev1 nn1
  obtain ⟨o2, ev2⟩ := exa_v nn2
  have S2 := Sta.start ev2 (Or.inr ⟨(hw _ (List.mem_of_getElem? (i := 3) rfl)), (hw _ (List.mem_of_getElem? (i := 9) rfl))⟩)
  have E_2 := Exa.start ev2 nn2
  obtain ⟨o3, ev3⟩ := exa_v nn3
  have S3 := Sta.start ev3 (Or.inr ⟨(hw _ (List.mem_of_getElem? (i := 3) rfl)), (hw _ (List.mem_of_getElem? (i := 11) rfl))⟩)
  have E_3 := Exa.start ev3 nn3
  obtain ⟨o4, ev4⟩ := exa_v nn4
  have S4 := Sta.start ev4 (Or.inr ⟨(hw _ (List.mem_of_getElem? (i := 3) rfl)), (hw _ (List.mem_of_getElem? (i := 13) rfl))⟩)
  have E_4 := Exa.start ev4 nn4
  have D_0 := own_fi nn5 ev0
  have D_3 := own_fi nn6 ev3
  have D_1 := own_fi nn7 ev1
  have D_4 := own_fi nn8 ev4
  have D_2 := own_fi mm8 ev2
  obtain ⟨n, o, h1, h2, h3, _, L, rfl, ⟨rfl, N⟩, hq⟩ := rm0 l s _ hw tables_1 i0 o0 o1 o2 o3 o4 s.heap s.heap.size (Nat.le_refl _) S0 S1 S2 S3 S4 E_0 E_1 E_2 E_3 E_4 D_0 D_1 D_2 D_3 D_4 p e ha hc hk s m _ below hf ((Spec.applies_iff_loose hf).mp happ).1 ⟨rfl, State.Warmed39.refl s, rfl⟩ trivial
  refine ⟨n, _, h1, h2, h3, hpost _ _ _ _ _ _ ⟨Cond.after_iff.mpr rfl, Cond.after_iff.mpr (eq_i res_at (Term.int_eval (1)) rfl), trivial⟩ ⟨hq.1, hq.2.1, (hq.2.2.sift fun y hy => Or.inr (N y hy)).mono (by decide) (by decide)⟩⟩
theorem main_1_1 : Claimed_1_1 := comes_1 fun _ _ _ _ _ _ h hF => ⟨h.1, hF⟩
theorem main_1_2 : Claimed_1_2 := comes_1 fun _ _ _ _ _ _ h hF => ⟨h.2.1, hF⟩
end Jvm.Pilot.@@N@@
namespace Jvm.Pilot.@@N@@
open Jvm Jvm.ClassFile Sem Op Lib Jvm.Free Jvm.Stand Jvm.Pilot.@@N@@.Jvm.D
/-! MADE BY PROGRAM (witnessworld.py) out of the Statement's table words and the real class files: 13 classes; the members and pool entries that the words name. The judged class is class 1, her method 1. -/
namespace start1
open Jvm.ClassFile
def u (s : String) : CpInfo := .utf8 (stringToUtf16 s)
/-- a pool by its gaps: so many unusable entries, then the entry; so many at the end -/
def gap : Nat → List CpInfo → List CpInfo
  | 0, r => r
  | n + 1, r => .unusable :: gap n r
def poolList (es : List (Nat × CpInfo)) (last : Nat) : List CpInfo := es.foldr (fun e r => gap e.1 (e.2 :: r)) (gap last [])
def pool (es : List (Nat × CpInfo)) (last : Nat) : Array CpInfo := ⟨poolList es last⟩
def fileOf (pool : Array CpInfo) (this : Nat) (attrs : Array Attribute := #[]) (ms : Array MethodInfo := #[]) (fl : Nat := 33) (sup : Nat := 0) (ifs : Array Nat := #[]) (fds : Array FieldInfo := #[]) : ClassFile where
  minorVersion := 0
  majorVersion := 65
  constantPool := pool
  accessFlags := fl
  thisClass := this
  superClass := sup
  interfaces := ifs
  fields := fds
  methods := ms
  attributes := attrs
def plain (name : String) (sup : Option ClassId) : Class where
  name := name
  kind := .ordinary
  loader := none
  accessFlags := 33
  super := sup
  interfaces := #[]
  cf := none
  fields := #[]
  methods := #[]
  instanceTypes := #[]
  staticTypes := #[]
  resolved := #[]
  callSites := []
  init := .initialized
  statics := none
  mirror := none

def pool0 : Array CpInfo := pool [(5, u "<init>"), (0, u "()V"), (1, .class_ 10), (1, u "java/lang/Object")] 113

def k0m0 : Method := { name := "<init>", desc := "()V", sig := { parameters := [], returnType := none }, accessFlags := 1, code := none }
/-- java/lang/Object -/
def k0 : Class := { plain "java/lang/Object" none with
  accessFlags := 33
  interfaces := #[]
  cf := some (fileOf pool0 8 #[] #[{ accessFlags := 1, nameIndex := 5, descriptorIndex := 6, attributes := #[] }] 33 0 #[] #[])
  fields := #[]
  methods := #[k0m0]
  instanceTypes := #[]
  staticTypes := #[]
  resolved := Array.replicate 124 none
  statics := none }

def pool1 : Array CpInfo := pool [(2, .class_ 4), (1, u "java/lang/Object"), (0, u "<init>"), (0, u "()V"), (0, .class_ 8), (0, u "com/example/bordero/bordero/core/Field$Format"), (0, .fieldref 7 10), (0, .nameAndType 11 12), (0, u "NONE"), (0, u "Lcom/example/bordero/bordero/core/Field$Format;"), (0, .fieldref 7 14), (0, .nameAndType 15 12), (0, u "V2"), (0, .fieldref 7 17), (0, .nameAndType 18 12), (0, u "V5"), (0, .fieldref 7 20), (0, .nameAndType 21 12), (0, u "DDMMAAAA"), (0, .fieldref 7 23), (0, .nameAndType 24 12), (0, u "DDMMAA"), (0, .integer 2147483647), (0, .methodref 7 27), (0, .nameAndType 28 29), (0, u "isDate"), (0, u "()Z"), (0, .class_ 31), (0, u "com/example/bordero/bordero/core/FormatIsDatePinLaw"), (2, u "law"), (0, u "(I)Z")] 9

def k1m0 : Method := { name := "<init>", desc := "()V", sig := { parameters := [], returnType := none }, accessFlags := 2, code := none }
def k1c1 : Code := { maxStack := 4, maxLocals := 5, code := code, exceptionTable := #[], attributes := #[] }
def k1m1 : Method := { name := "law", desc := "(I)Z", sig := { parameters := [.int], returnType := some .boolean }, accessFlags := 9, code := some k1c1 }
/-- com/example/bordero/bordero/core/FormatIsDatePinLaw -/
def k1 : Class := { plain "com/example/bordero/bordero/core/FormatIsDatePinLaw" (some 0) with
  accessFlags := 49
  interfaces := #[]
  cf := some (fileOf pool1 30 #[] #[{ accessFlags := 2, nameIndex := 5, descriptorIndex := 6, attributes := #[] }, { accessFlags := 9, nameIndex := 34, descriptorIndex := 35, attributes := #[] }] 49 2 #[] #[])
  fields := #[]
  methods := #[k1m0, k1m1]
  instanceTypes := #[]
  staticTypes := #[]
  resolved := Array.replicate 45 none
  statics := none }

def pool2 : Array CpInfo := pool [(1, .class_ 2), (0, u "java/lang/constant/Constable"), (0, .class_ 4), (0, u "java/lang/Object")] 6

/-- java/lang/constant/Constable -/
def k2 : Class := { plain "java/lang/constant/Constable" (some 0) with
  accessFlags := 1537
  interfaces := #[]
  cf := some (fileOf pool2 1 #[] #[] 1537 3 #[] #[])
  fields := #[]
  methods := #[]
  instanceTypes := #[]
  staticTypes := #[]
  resolved := Array.replicate 11 none
  statics := none }

def pool3 : Array CpInfo := pool [(1, .class_ 2), (0, u "java/lang/Comparable"), (0, .class_ 4), (0, u "java/lang/Object")] 7

/-- java/lang/Comparable -/
def k3 : Class := { plain "java/lang/Comparable" (some 0) with
  accessFlags := 1537
  interfaces := #[]
  cf := some (fileOf pool3 1 #[] #[] 1537 3 #[] #[])
  fields := #[]
  methods := #[]
  instanceTypes := #[]
  staticTypes := #[]
  resolved := Array.replicate 12 none
  statics := none }

def pool4 : Array CpInfo := pool [(1, .class_ 2), (0, u "java/io/Serializable"), (0, .class_ 4), (0, u "java/lang/Object")] 2

/-- java/io/Serializable -/
def k4 : Class := { plain "java/io/Serializable" (some 0) with
  accessFlags := 1537
  interfaces := #[]
  cf := some (fileOf pool4 1 #[] #[] 1537 3 #[] #[])
  fields := #[]
  methods := #[]
  instanceTypes := #[]
  staticTypes := #[]
  resolved := Array.replicate 7 none
  statics := none }

def pool5 : Array CpInfo := pool [(2, .class_ 4), (1, u "java/lang/Enum"), (0, u "name"), (0, u "Ljava/lang/String;"), (2, u "ordinal"), (0, u "I"), (1, .class_ 14), (1, u "java/lang/Object"), (4, u "hash"), (86, .class_ 108), (1, u "java/lang/Enum$EnumDesc"), (2, .class_ 112), (0, u "java/lang/constant/Constable"), (0, .class_ 114), (0, u "java/lang/Comparable"), (0, .class_ 116), (0, u "java/io/Serializable")] 87

/-- java/lang/Enum -/
def k5 : Class := { plain "java/lang/Enum" (some 0) with
  accessFlags := 1057
  interfaces := #[2, 3, 4]
  cf := some (fileOf pool5 2 #[.nestMembers #[106]] #[] 1057 12 #[111, 113, 115] #[{ accessFlags := 18, nameIndex := 5, descriptorIndex := 6, attributes := #[] }, { accessFlags := 18, nameIndex := 9, descriptorIndex := 10, attributes := #[] }, { accessFlags := 2, nameIndex := 19, descriptorIndex := 10, attributes := #[] }])
  fields := #[{ name := "name", type := (.object "java/lang/String"), accessFlags := 18, slot := 0, constantValue := 0 }, { name := "ordinal", type := .int, accessFlags := 18, slot := 1, constantValue := 0 }, { name := "hash", type := .int, accessFlags := 2, slot := 2, constantValue := 0 }]
  methods := #[]
  instanceTypes := #[(.object "java/lang/String"), .int, .int]
  staticTypes := #[]
  resolved := Array.replicate 204 none
  statics := none }

def pool6 : Array CpInfo := pool [(1, .class_ 2), (0, u "com/example/bordero/bordero/core/Field$Format"), (2, u "NONE"), (0, u "Lcom/example/bordero/bordero/core/Field$Format;"), (2, u "V2"), (2, u "V5"), (2, u "DDMMAAAA"), (2, u "DDMMAA"), (2, u "$VALUES"), (0, u "[Lcom/example/bordero/bordero/core/Field$Format;"), (6, .class_ 31), (1, u "java/lang/Enum"), (8, u "decimals"), (0, u "I"), (0, .fieldref 1 43), (0, .nameAndType 44 41), (0, u "dateDigits"), (2, u "century"), (16, u "lastYear"), (7, .class_ 74), (1, u "com/example/bordero/bordero/core/Field"), (91, u "isDate"), (0, u "()Z")] 13

def k6c0 : Code := { maxStack := 1, maxLocals := 1, code := prog_15_method_5_code, exceptionTable := #[], attributes := #[] }
def k6m0 : Method := { name := "isDate", desc := "()Z", sig := { parameters := [], returnType := some .boolean }, accessFlags := 1, code := some k6c0 }
/-- com/example/bordero/bordero/core/Field$Format -/
def k6 : Class := { plain "com/example/bordero/bordero/core/Field$Format" (some 5) with
  accessFlags := 16433
  interfaces := #[]
  cf := some (fileOf pool6 1 #[.nestHost 72] #[{ accessFlags := 1, nameIndex := 166, descriptorIndex := 167, attributes := #[] }] 16433 29 #[] #[{ accessFlags := 16409, nameIndex := 5, descriptorIndex := 6, attributes := #[] }, { accessFlags := 16409, nameIndex := 9, descriptorIndex := 6, attributes := #[] }, { accessFlags := 16409, nameIndex := 12, descriptorIndex := 6, attributes := #[] }, { accessFlags := 16409, nameIndex := 15, descriptorIndex := 6, attributes := #[] }, { accessFlags := 16409, nameIndex := 18, descriptorIndex := 6, attributes := #[] }, { accessFlags := 18, nameIndex := 40, descriptorIndex := 41, attributes := #[] }, { accessFlags := 18, nameIndex := 44, descriptorIndex := 41, attributes := #[] }, { accessFlags := 18, nameIndex := 47, descriptorIndex := 41, attributes := #[] }, { accessFlags := 18, nameIndex := 64, descriptorIndex := 41, attributes := #[] }, { accessFlags := 4122, nameIndex := 21, descriptorIndex := 22, attributes := #[] }])
  fields := #[{ name := "NONE", type := (.object "com/example/bordero/bordero/core/Field$Format"), accessFlags := 16409, slot := 0, constantValue := 0 }, { name := "V2", type := (.object "com/example/bordero/bordero/core/Field$Format"), accessFlags := 16409, slot := 1, constantValue := 0 }, { name := "V5", type := (.object "com/example/bordero/bordero/core/Field$Format"), accessFlags := 16409, slot := 2, constantValue := 0 }, { name := "DDMMAAAA", type := (.object "com/example/bordero/bordero/core/Field$Format"), accessFlags := 16409, slot := 3, constantValue := 0 }, { name := "DDMMAA", type := (.object "com/example/bordero/bordero/core/Field$Format"), accessFlags := 16409, slot := 4, constantValue := 0 }, { name := "decimals", type := .int, accessFlags := 18, slot := 3, constantValue := 0 }, { name := "dateDigits", type := .int, accessFlags := 18, slot := 4, constantValue := 0 }, { name := "century", type := .int, accessFlags := 18, slot := 5, constantValue := 0 }, { name := "lastYear", type := .int, accessFlags := 18, slot := 6, constantValue := 0 }, { name := "$VALUES", type := (.array (.object "com/example/bordero/bordero/core/Field$Format")), accessFlags := 4122, slot := 5, constantValue := 0 }]
  methods := #[k6m0]
  instanceTypes := #[(.object "java/lang/String"), .int, .int, .int, .int, .int, .int]
  staticTypes := #[(.object "com/example/bordero/bordero/core/Field$Format"), (.object "com/example/bordero/bordero/core/Field$Format"), (.object "com/example/bordero/bordero/core/Field$Format"), (.object "com/example/bordero/bordero/core/Field$Format"), (.object "com/example/bordero/bordero/core/Field$Format"), (.array (.object "com/example/bordero/bordero/core/Field$Format"))]
  resolved := Array.replicate 181 none
  statics := some 0 }

def pool7 : Array CpInfo := pool [(1, u "java/lang/Cloneable"), (0, .class_ 1), (0, u "java/lang/Object"), (0, .class_ 3)] 3

/-- java/lang/Cloneable -/
def k7 : Class := { plain "java/lang/Cloneable" (some 0) with
  accessFlags := 1537
  interfaces := #[]
  cf := some (fileOf pool7 2 #[] #[] 1537 4 #[] #[])
  fields := #[]
  methods := #[]
  instanceTypes := #[]
  staticTypes := #[]
  resolved := Array.replicate 8 none
  statics := none }

/-- the primitive byte -/
def k8 : Class := { plain "byte" none with kind := .primitive 'B', accessFlags := 0x411 }
/-- [B -/
def k9 : Class := { plain "[B" (some 0) with kind := .array 8 .byte, interfaces := #[7, 4], accessFlags := 1041 }

/-- the primitive int -/
def k10 : Class := { plain "int" none with kind := .primitive 'I', accessFlags := 0x411 }
/-- [I -/
def k11 : Class := { plain "[I" (some 0) with kind := .array 10 .int, interfaces := #[7, 4], accessFlags := 1041 }

/-- [Lcom/example/bordero/bordero/core/Field$Format; -/
def k12 : Class := { plain "[Lcom/example/bordero/bordero/core/Field$Format;" (some 0) with kind := .array 6 (.object "com/example/bordero/bordero/core/Field$Format"), interfaces := #[7, 4], accessFlags := 1041
  }

def heap : Heap := #[{ cls := 6, slots := #[.ref 1, .ref 2, .ref 3, .ref 4, .ref 5, .null], vm := .statics 6 },
  { cls := 6, slots := #[.null, .int 0, .int 0, .int 0, .int 0, .int 0, .int 0], vm := .none },
  { cls := 6, slots := #[.null, .int 1, .int 0, .int 0, .int 0, .int 0, .int 0], vm := .none },
  { cls := 6, slots := #[.null, .int 2, .int 0, .int 0, .int 0, .int 0, .int 0], vm := .none },
  { cls := 6, slots := #[.null, .int 3, .int 0, .int 0, .int 8, .int 0, .int 0], vm := .none },
  { cls := 6, slots := #[.null, .int 4, .int 0, .int 0, .int 6, .int 0, .int 0], vm := .none }]
def classes : Array Class := #[k0, k1, k2, k3, k4, k5, k6, k7, k8, k9, k10, k11, k12]
def interned : List (Array UInt16 × Addr) := []
def slotsUsed : Nat := 41
def theMethod : MethodId := ⟨1, 1⟩
def args0 : Array Value := #[.int 5]
def aboutOver (below : List Frame) : State where
  vm := { classes := classes, interned := interned.toArray }
  heap := heap
  slotsUsed := slotsUsed
  threads := #[{ frames := .invoking theMethod args0 :: below }]
def below0 : List Frame := [.native { method := ⟨0, 0⟩, args := #[] }]
def about1 : State := aboutOver below0
def p0 : Program := .bare "" "" ""
def e0 : Env := launch0.env 0 0 0
theorem w_frames : about1.frames = Frame.invoking theMethod args0 :: below0 := rfl
set_option maxRecDepth 65536 in
theorem w_args : argsFit about1.vm theMethod args0 = true := by decide +kernel
set_option maxRecDepth 65536 in
theorem w_heap : heapFits about1 = true := by decide +kernel
set_option maxRecDepth 65536 in
theorem w_runnable : about1.curStatus? = some .runnable := by decide +kernel
set_option maxRecDepth 65536 in
theorem w_alone : about1.alone = true := by decide +kernel
set_option maxRecDepth 65536 in
theorem w_named : about1.methodNamed? x = some theMethod := by decide +kernel
set_option maxRecDepth 65536 in
theorem w_hears : about1.hears theMethod below0 = true := by decide +kernel
set_option maxRecDepth 65536 in
theorem w_ripe : about1.ripe theMethod args0 below0 = true := by decide +kernel
theorem w_running : about1.status = .running := rfl
set_option maxRecDepth 65536 in
theorem w_room : about1.hasRoom e0.platform room_1 = true :=
  launch0.hasRoom_least _ room_1 (by decide +kernel) (by decide +kernel) (by decide +kernel) (by decide +kernel) (by decide +kernel) (by decide +kernel)
theorem allAtoms_all (ts : List Jvm.Cond) (a : Array Jvm.Value) (st : Jvm.State) : (allAtoms ts).before a st = ts.all (fun c => c.before a st) := by
  induction ts with
  | nil => rfl
  | cons c t ih =>
    show (Jvm.Cond.and c (allAtoms t)).before a st = _
    rw [Jvm.Cond.before_and, ih, List.all_cons]
def words1 : List Jvm.Cond := Jvm.Cond.code x code maxLocals ret :: tables_1
/-- a 'code' word, met by the world's own term for the bytes: nothing is compared byte by byte -/
theorem code_word {y : MethodName} {bytes : ByteArray} {mx : Nat} {rt : Option FieldType} {a : Array Value} {s : State} {m : MethodId} {meth : Method} {c : Code} (h1 : s.methodNamed? y = some m) (h2 : s.vm.method? m = some meth) (h3 : meth.code = some c) (h4 : c.code = bytes)
    (h5 : (c.maxLocals == mx && c.exceptionTable.isEmpty && decide (c.maxStack ≤ mostOperands) && decide (meth.sig.returnType = rt) && !meth.locks && decide (parseMethodDescriptor y.desc = some meth.sig)) = true) : (Jvm.Cond.code y bytes mx rt).before a s = true := by
  simp only [Bool.and_eq_true, beq_iff_eq, Bool.not_eq_true', decide_eq_true_eq] at h5
  obtain ⟨⟨⟨⟨⟨g1, g2⟩, g3⟩, g4⟩, g5⟩, g6⟩ := h5
  simp [Cond.before, Cond.holds, Cond.value, h1, h2, h3, h4, g1, g2, g3, g4, g5, g6]
def isCode : Jvm.Cond → Bool
  | .code _ _ _ _ => true
  | _ => false
theorem all_split {L : List Jvm.Cond} {P : Jvm.Cond → Bool} (h1 : L.all (fun c => isCode c || P c) = true) (h2 : ∀ c ∈ L.filter isCode, P c = true) : L.all P = true := by
  refine List.all_eq_true.mpr fun c hc => ?_
  have h := List.all_eq_true.mp h1 c hc
  rcases Bool.eq_false_or_eq_true (isCode c) with hi | hi
  · exact h2 c (List.mem_filter.mpr ⟨hc, hi⟩)
  · simpa [hi] using h
set_option maxRecDepth 65536 in
theorem w_c0 : (Jvm.Cond.code x code maxLocals ret).before args0 about1 = true := code_word (m := ⟨1, 1⟩) (meth := k1m1) (c := k1c1) (by decide +kernel) rfl rfl rfl (by decide +kernel)
set_option maxRecDepth 65536 in
theorem w_c1 : (Jvm.Cond.code ({ cls := "com/example/bordero/bordero/core/Field$Format", name := "isDate", desc := "()Z" } : Jvm.MethodName) prog_15_method_5_code (1 : Nat) (Option.some Jvm.ClassFile.FieldType.boolean)).before args0 about1 = true := code_word (m := ⟨6, 0⟩) (meth := k6m0) (c := k6c0) (by decide +kernel) rfl rfl rfl (by decide +kernel)
def codes1 : List Jvm.Cond := [Jvm.Cond.code x code maxLocals ret, Jvm.Cond.code ({ cls := "com/example/bordero/bordero/core/Field$Format", name := "isDate", desc := "()Z" } : Jvm.MethodName) prog_15_method_5_code (1 : Nat) (Option.some Jvm.ClassFile.FieldType.boolean)]
set_option maxRecDepth 65536 in
theorem codes_eq : words1.filter isCode = codes1 := rfl
theorem w_codes : ∀ c ∈ words1.filter isCode, c.before args0 about1 = true := by
  rw [codes_eq]
  intro c hc
  simp only [codes1, List.mem_cons, List.not_mem_nil, or_false] at hc
  rcases hc with rfl | rfl
  · exact w_c0
  · exact w_c1
set_option maxRecDepth 65536 in
theorem w_t1 : words1.all (fun c => isCode c || c.before args0 about1) = true := by decide +kernel
theorem w_tables : (allAtoms (Jvm.Cond.code x code maxLocals ret :: tables_1)).before args0 about1 = true := by
  rw [allAtoms_all]
  show words1.all (fun c => c.before args0 about1) = true
  refine all_split ?_ w_codes
  rw [w_t1]
set_option maxRecDepth 65536 in
theorem w_case : (Jvm.Cond.and given_1 narrow_1).before args0 about1 = true := by decide +kernel
theorem w_applies : (headSpec (Jvm.Cond.code x code maxLocals ret :: tables_1) room_1).applies x e0.platform about1 = true :=
  (Spec.applies_iff w_frames).mpr ⟨w_running, w_runnable, w_alone, w_named, w_hears, w_ripe, w_room, w_tables⟩
theorem atStart : AtStart classFile x code maxLocals ret World_1 tables_1 room_1 Calls_1 rest_1 Pre_1 launch0 p0 e0 about1 theMethod args0 below0 :=
  ⟨lists_1, trivial, launch0.admits_env _ _ _, launch0.least_env, fairChoices_fair.cas, fairChoices_fair.clock, w_frames, w_args, w_heap, w_applies, trivial, trivial, w_case⟩
end start1
theorem witness_1 : WitnessClaimed_1 := ⟨start1.p0, start1.e0, start1.about1, start1.theMethod, start1.args0, start1.below0, start1.atStart⟩
end Jvm.Pilot.@@N@@
