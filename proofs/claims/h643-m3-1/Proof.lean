import JvmDerived
import JvmDerived.Pilot.@@N@@Statement
import JvmDerived.Pilot.@@N@@Code
set_option linter.unusedVariables false
set_option linter.unusedSimpArgs false
namespace Jvm.RoadKit
open Sem ClassFile Op Lib Jvm.Stand Jvm.Free Jvm.LawKit
section New
variable {p : Program} {l : Launch} {e : Env} {R : Room} {s : State} {m : MethodId} {args : Array Value} {below : List Frame} {meth : Method} {c : Code} {T : State} {locs : List Loc} {cells slots : Nat}
theorem retI (X : Stand p l e R s m args below meth c T locs cells slots) (hx : p.tables.exec = Jvm.exec) {pc : Nat} {Ls : Array Slot} {z : Int32} {rest : List Value} (hret : meth.sig.returnType = some .int) (hd : decode c.code pc = .ok (.ireturn, 1)) {fs : List Frame}
    (hl : ∀ (f : JFrame) (acts : List Action), f.method = m → f.locked = none → f.entered = [] → (doReturn e (T.setTop f) acts (some (.int z))).1 = T.setFrames fs) : Steps p.tables e below (T.setTop (mkF m pc Ls (.int z :: rest))) (T.setFrames fs) := by
  have hm' : T.vm.method? m = some meth := X.method'
  have hn : narrow .int (.int z) = .int z := rfl
  show Steps p.tables e below (T.setTop { method := m, pc := pc, locals := Ls, stack := _ :: rest, locked := none }) _
  jvm_step X.here [X.here.top, hx, hd, hm', hret, hn]
  first | (intro acts; rw [hl _ acts rfl rfl rfl]) | rw [hl _ _ rfl rfl rfl]
  exact Steps.refl _
theorem own_retJ (X : Stand p l e R s m args below meth c T locs cells slots) (hx : p.tables.exec = Jvm.exec) {pc : Nat} {Ls : Array Slot} {z : Int64} {rest : List Value} (hret : meth.sig.returnType = some .long) (hd : decode c.code pc = .ok (.lreturn, 1)) {fs : List Frame}
    (hl : ∀ (f : JFrame) (acts : List Action), f.method = m → f.locked = none → f.entered = [] → (doReturn e (T.setTop f) acts (some (.long z))).1 = T.setFrames fs) : Steps p.tables e below (T.setTop (mkF m pc Ls (.long z :: rest))) (T.setFrames fs) :=
  retOut X hx hret rfl (Or.inr (Or.inl ⟨rfl, rfl, z, rfl⟩)) hd hl
theorem own_retA (X : Stand p l e R s m args below meth c T locs cells slots) (hx : p.tables.exec = Jvm.exec) {pc : Nat} {Ls : Array Slot} {w : Value} {t : FieldType} {rest : List Value} (hret : meth.sig.returnType = some t) (ht : t.isReference = true) (hw : w.isRef = true) (hd : decode c.code pc = .ok (.areturn, 1)) {fs : List Frame}
    (hl : ∀ (f : JFrame) (acts : List Action), f.method = m → f.locked = none → f.entered = [] → (doReturn e (T.setTop f) acts (some w)).1 = T.setFrames fs) : Steps p.tables e below (T.setTop (mkF m pc Ls (w :: rest))) (T.setFrames fs) :=
  retOut X hx hret (by rcases ref_cases hw with rfl | ⟨a, rfl⟩ <;> cases t <;> first | rfl | (simp [FieldType.isReference] at ht)) (Or.inr (Or.inr (Or.inr (Or.inr ⟨rfl, ht, hw⟩)))) hd hl
theorem own_retN (X : Stand p l e R s m args below meth c T locs cells slots) (hx : p.tables.exec = Jvm.exec) {pc : Nat} {Ls : Array Slot} {z z' : Int32} {t : FieldType} {rest : List Value} (hret : meth.sig.returnType = some t) (ht : t = .boolean ∨ t = .byte ∨ t = .char ∨ t = .short) (hz : nar t z = z')
    (hd : decode c.code pc = .ok (.ireturn, 1)) {fs : List Frame} (hl : ∀ (f : JFrame) (acts : List Action), f.method = m → f.locked = none → f.entered = [] → (doReturn e (T.setTop f) acts (some (.int z'))).1 = T.setFrames fs) :
    Steps p.tables e below (T.setTop (mkF m pc Ls (.int z :: rest))) (T.setFrames fs) := by subst hz; exact retN X hx hret ht hd hl
/-- from a state, some run leads to an end that F takes -/
def own_Gl (tb : Tables) (e : Env) (below : List Frame) (F : State → Outcome → Prop) (st : State) : Prop := ∃ s₂ o, Steps tb e below st s₂ ∧ F s₂ o
theorem own_go {tb : Tables} {F : State → Outcome → Prop} {st st' : State} (h : ∀ t, Steps tb e below st' t → Steps tb e below st t) (g : own_Gl tb e below F st') : own_Gl tb e below F st := by
  obtain ⟨t, o, k, r⟩ := g; exact ⟨t, o, h t k, r⟩
theorem own_fin {tb : Tables} {F : State → Outcome → Prop} {st t : State} {o : Outcome} (h : Steps tb e below st t) (r : F t o) : own_Gl tb e below F st := ⟨t, o, h, r⟩
theorem own_start {tb : Tables} {G : State → Outcome → Prop} {g g' : JFrame} (q : g = g') (k : ∀ F, F = G → own_Gl tb e below F (T.setTop g')) : ∃ s₂ o, Steps tb e below (T.setTop g) s₂ ∧ G s₂ o := by subst q; exact k G rfl
end New
/-- an array of length z whose place j holds g j -/
def own_A (Z : State) (h : Heap) (a : Addr) (ty : FieldType) (z : Int32) (g : Nat → Value) : Prop := ∃ c : Cell, Arr Z h a c ty ∧ c.slots.size = z.toNatClampNeg ∧ ¬ z < 0 ∧ ∀ j, j < c.slots.size → c.slots[j]? = some (g j)
section OwnA
variable {Z : State} {h h' : Heap} {a b : Addr} {ty : FieldType} {z : Int32} {g : Nat → Value} {sl : Nat} {v : Value} {ws : List Addr}
theorem own_A.lt (F : own_A Z h a ty z g) : a < h.size := by obtain ⟨c, A, -⟩ := F; exact A.lt
theorem own_A.ext (F : own_A Z h a ty z g) (E : Ext h h') : own_A Z h' a ty z g := by obtain ⟨c, A, r⟩ := F; exact ⟨c, A.ext E, r⟩
theorem own_A.other (F : own_A Z h b ty z g) (W : Wr h h' a sl v) (q : b ≠ a) : own_A Z h' b ty z g := by obtain ⟨c, A, r⟩ := F; exact ⟨c, A.other W q, r⟩
theorem own_A.keep (F : own_A Z h a ty z g) (K : Keep h h' ws) (q : a ∉ ws) : own_A Z h' a ty z g := by obtain ⟨c, A, r⟩ := F; exact ⟨c, ⟨K.2.1 a c A.1 q, A.2⟩, r⟩
theorem own_A.set (F : own_A Z h a ty z g) {i : Nat} (W : Wr h h' a i v) : own_A Z h' a ty z (fun k => if k = i then v else g k) := by
  obtain ⟨c, A, S, N, H⟩ := F
  refine ⟨_, A.same W, by rw [sz_set]; exact S, N, fun j hj => ?_⟩
  rw [sz_set] at hj
  by_cases u : j = i
  · subst u; simp [Cell.setSlot, hj]
  · show _ = some (if j = i then v else g j)
    rw [if_neg u]; simp only [Cell.setSlot]; rw [Array.getElem?_setIfInBounds_ne (fun q => u q.symm)]; exact H j hj
theorem own_A.new {k : ClassId} (A : Arr Z h a (newA k ty z) ty) (q : ¬ z < 0) : own_A Z h a ty z (fun _ => defaultValue ty) := by
  obtain ⟨c, A', -, S, N, H, -⟩ := Arv.new A q
  exact ⟨c, A', S, N, fun j hj => H j hj⟩
theorem own_A.of (F : own_A Z h a ty z g) {g' : Nat → Value} (q : ∀ j, j < z.toNatClampNeg → g j = g' j) : own_A Z h a ty z g' := by
  obtain ⟨c, A, S, N, H⟩ := F; exact ⟨c, A, S, N, fun j hj => by rw [← q j (S ▸ hj)]; exact H j hj⟩
end OwnA
end Jvm.RoadKit
namespace Jvm.Pilot.@@N@@
open Jvm Jvm.ClassFile Sem Op Lib Jvm.Free Jvm.Stand Jvm.LawKit Jvm.RoadKit Bundle Jvm.Pilot.@@N@@.Jvm.D

def own_d (r : Int32) : Int32 := if r < 2 then 48 else 48 + (11 - r)
theorem own_r (x : Int32) : 0 ≤ ((x &&& 2147483647) % 11).toInt ∧ ((x &&& 2147483647) % 11).toInt ≤ 10 := by
  have h1 : 0 ≤ (x &&& 2147483647).toInt := by
    have : ¬ ((x &&& 2147483647) < 0) := by rw [Jvm.Free.XT.and_neg32]; intro h; exact absurd h.2 (by decide)
    rw [Int32.lt_iff_toInt_lt] at this
    have e0 : (0 : Int32).toInt = 0 := rfl
    omega
  rw [Int32.toInt_mod, Int.tmod_eq_emod_of_nonneg h1]
  have e : (11 : Int32).toInt = 11 := rfl
  rw [e]
  generalize (x &&& 2147483647).toInt = n at *
  omega
theorem own_eleven {r : Int32} (h : 0 ≤ r.toInt ∧ r.toInt ≤ 10) : r = 0 ∨ r = 1 ∨ r = 2 ∨ r = 3 ∨ r = 4 ∨ r = 5 ∨ r = 6 ∨ r = 7 ∨ r = 8 ∨ r = 9 ∨ r = 10 := by
  simp only [← Int32.toInt_inj]
  have e0 : (0 : Int32).toInt = 0 := rfl
  have e1 : (1 : Int32).toInt = 1 := rfl
  have e2 : (2 : Int32).toInt = 2 := rfl
  have e3 : (3 : Int32).toInt = 3 := rfl
  have e4 : (4 : Int32).toInt = 4 := rfl
  have e5 : (5 : Int32).toInt = 5 := rfl
  have e6 : (6 : Int32).toInt = 6 := rfl
  have e7 : (7 : Int32).toInt = 7 := rfl
  have e8 : (8 : Int32).toInt = 8 := rfl
  have e9 : (9 : Int32).toInt = 9 := rfl
  have e10 : (10 : Int32).toInt = 10 := rfl
  omega
theorem ef_rm1 (m : MethodId) (x0 : Int32) : entryFrame m #[(.int x0)] 1 = mkF m 0 #[.val (.int x0)] [] := by first | (simp [entryFrame, mkF, argsToLocals, Value.category]; done) | rfl
theorem pn_0 : plainName "com/example/bordero/bordero/core/Modulo11" = true := by first | (simp [plainName, overriddenIn]; done) | decide +kernel
theorem d1_0 : decode prog_32_method_4_code 0 = .ok (.iload_n 0, 1) := by decide +kernel
theorem d1_1 : decode prog_32_method_4_code 1 = .ok (.ifCond .lt 9, 3) := by decide +kernel
theorem d1_4 : decode prog_32_method_4_code 4 = .ok (.iload_n 0, 1) := by decide +kernel
theorem d1_5 : decode prog_32_method_4_code 5 = .ok (.bipush 10, 2) := by decide +kernel
theorem d1_7 : decode prog_32_method_4_code 7 = .ok (.if_icmp .le 17, 3) := by decide +kernel
theorem d1_24 : decode prog_32_method_4_code 24 = .ok (.bipush 48, 2) := by decide +kernel
theorem d1_26 : decode prog_32_method_4_code 26 = .ok (.iload_n 0, 1) := by decide +kernel
theorem d1_27 : decode prog_32_method_4_code 27 = .ok (.iconst 2, 1) := by decide +kernel
theorem d1_28 : decode prog_32_method_4_code 28 = .ok (.if_icmp .ge 7, 3) := by decide +kernel
theorem d1_31 : decode prog_32_method_4_code 31 = .ok (.iconst 0, 1) := by decide +kernel
theorem d1_32 : decode prog_32_method_4_code 32 = .ok (.goto 7, 3) := by decide +kernel
theorem d1_39 : decode prog_32_method_4_code 39 = .ok (.iadd, 1) := by decide +kernel
theorem d1_40 : decode prog_32_method_4_code 40 = .ok (.i2c, 1) := by decide +kernel
theorem d1_41 : decode prog_32_method_4_code 41 = .ok (.ireturn, 1) := by decide +kernel
theorem d1_35 : decode prog_32_method_4_code 35 = .ok (.bipush 11, 2) := by decide +kernel
theorem d1_37 : decode prog_32_method_4_code 37 = .ok (.iload_n 0, 1) := by decide +kernel
theorem d1_38 : decode prog_32_method_4_code 38 = .ok (.isub, 1) := by decide +kernel
def Q_rm1 (Z : State) (p1 : Int32) (h0 : Heap) (n0 : Nat) (v : Option Value) (h : Heap) (L : List Loc) : Prop := v = some (.int (own_d p1)) ∧ Fr n0 L ∧ h = h0
set_option maxRecDepth 65536 in
set_option maxHeartbeats 40000000 in
theorem rm1 (l : Launch) (Z : State) (a0 : Array Value) (hw : ∀ d ∈ tables_1, d.before a0 Z = true) (ws : List Jvm.Cond) (p1 : Int32) (h0 : Heap) (n0 : Nat) (Z0 : n0 ≤ h0.size) (hr : 0 ≤ p1.toInt ∧ p1.toInt ≤ 10) :
    MetFree l (⟨"com/example/bordero/bordero/core/Modulo11", "checkDigit", "(I)C"⟩ : MethodName) (head1 (Jvm.Cond.code (⟨"com/example/bordero/bordero/core/Modulo11", "checkDigit", "(I)C"⟩ : MethodName) prog_32_method_4_code 1 (some .char) :: ws) ({ frames := 0, cells := 0, slots := 0, locals := 0 } : Room)) (fun ag U => ag = #[(.int p1)] ∧ Z.Warmed39 U.vm ∧ U.heap = h0) (fun _ _ _ _ _ => True) (fun _ U o U' => ∃ v L, o = .returned v ∧ Q_rm1 Z p1 h0 n0 v U'.heap L ∧ FrameEnd U o U' L ({ frames := 0, cells := 0, slots := 0, locals := 0 } : Room).cells ({ frames := 0, cells := 0, slots := 0, locals := 0 } : Room).slots) := by
  refine MetFree.of_bodySF (plainFor_of_name pn_0) hisR ?_
  intro p e s m args below meth c s₁ Bd hml0 hP hK
  obtain ⟨rfl, hZ, hh⟩ := hP
  have hx := Bd.exec
  have hby := Bd.bytes
  have hml : c.maxLocals = 1 := hml0
  have hown : s.vm.findClass "com/example/bordero/bordero/core/Modulo11" = some m.cls := findClass_of_methodNamed Bd.named
  have hnm := (name_of_methodNamed Bd.named Bd.method).1
  have X0 : Stand p l e ({ frames := 0, cells := 0, slots := 0, locals := 0 } : Room) s m #[(.int p1)] below meth c s₁ [] 0 0 := Stand.of_body Bd
  have e0 : s₁.heap = h0 := by rw [← hh, Bd.state]; rfl
  have N0 := Fr.nil n0
  refine own_start (ef_rm1 m p1) ?_
  intro F hF
  show own_Gl p.tables e below F (s₁.setTop (mkF m 0 #[.val (.int p1)] []))
  have hr0 := hr
  have hc1 : ¬ (p1 < 0) := by rcases own_eleven hr with h | h | h | h | h | h | h | h | h | h | h <;> subst h <;> decide
  have hc7 : ¬ ((10 : Int32) < p1) := by rcases own_eleven hr with h | h | h | h | h | h | h | h | h | h | h <;> subst h <;> decide
  refine own_go (fun _ k => XS.iloadN X0.here hx rfl (hb hby d1_0) rfl k) ?_
  show own_Gl p.tables e below F (s₁.setTop (mkF m 1 #[.val (.int p1)] [(.int p1)]))
  refine own_go (fun _ k => XS.ifNo X0.here hx rfl (hb hby d1_1) rfl (XT.i0_lt_f hc1) k) ?_
  show own_Gl p.tables e below F (s₁.setTop (mkF m 4 #[.val (.int p1)] []))
  refine own_go (fun _ k => XS.iloadN X0.here hx rfl (hb hby d1_4) rfl k) ?_
  show own_Gl p.tables e below F (s₁.setTop (mkF m 5 #[.val (.int p1)] [(.int p1)]))
  refine own_go (fun _ k => XS.bipush X0.here hx rfl (hb hby d1_5) k) ?_
  show own_Gl p.tables e below F (s₁.setTop (mkF m 7 #[.val (.int p1)] [(.int (10 : Int32)), (.int p1)]))
  refine own_go (fun _ k => XS.icmpYes X0.here hx rfl (pc0 := 7) (pc' := 24) rfl (hb hby d1_7) rfl (XT.ii_le_t hc7) (by decide) (by decide) k) ?_
  show own_Gl p.tables e below F (s₁.setTop (mkF m 24 #[.val (.int p1)] []))
  refine own_go (fun _ k => XS.bipush X0.here hx rfl (hb hby d1_24) k) ?_
  show own_Gl p.tables e below F (s₁.setTop (mkF m 26 #[.val (.int p1)] [(.int (48 : Int32))]))
  refine own_go (fun _ k => XS.iloadN X0.here hx rfl (hb hby d1_26) rfl k) ?_
  show own_Gl p.tables e below F (s₁.setTop (mkF m 27 #[.val (.int p1)] [(.int p1), (.int (48 : Int32))]))
  refine own_go (fun _ k => XS.iconst X0.here hx rfl (hb hby d1_27) k) ?_
  show own_Gl p.tables e below F (s₁.setTop (mkF m 28 #[.val (.int p1)] [(.int (2 : Int32)), (.int p1), (.int (48 : Int32))]))
  by_cases h2 : p1 < 2
  · refine own_go (fun _ k => XS.icmpNo X0.here hx rfl (hb hby d1_28) rfl (XT.ii_ge_f (by assumption)) k) ?_
    show own_Gl p.tables e below F (s₁.setTop (mkF m 31 #[.val (.int p1)] [(.int (48 : Int32))]))
    refine own_go (fun _ k => XS.iconst X0.here hx rfl (hb hby d1_31) k) ?_
    show own_Gl p.tables e below F (s₁.setTop (mkF m 32 #[.val (.int p1)] [(.int (0 : Int32)), (.int (48 : Int32))]))
    refine own_go (fun _ k => XS.goto X0.here hx rfl (pc0 := 32) (pc' := 39) rfl (hb hby d1_32) (by decide) (by decide) k) ?_
    show own_Gl p.tables e below F (s₁.setTop (mkF m 39 #[.val (.int p1)] [(.int (0 : Int32)), (.int (48 : Int32))]))
    refine own_go (fun _ k => XS.iadd X0.here hx rfl (hb hby d1_39) rfl k) ?_
    show own_Gl p.tables e below F (s₁.setTop (mkF m 40 #[.val (.int p1)] [(.int ((48 : Int32) + (0 : Int32)))]))
    refine own_go (fun _ k => XS.i2c X0.here hx rfl (hb hby d1_40) rfl k) ?_
    show own_Gl p.tables e below F (s₁.setTop (mkF m 41 #[.val (.int p1)] [(.int (((48 : Int32) + (0 : Int32)).toUInt32.toUInt16.toUInt32.toInt32))]))
    have hv : (((48 : Int32) + (0 : Int32)).toUInt32.toUInt16.toUInt32.toInt32) = own_d p1 := by rw [own_d, if_pos h2]; decide
    rw [hv]
    obtain ⟨fs, hr, hrun, hended, hW, hsame⟩ := X0.leave (v := some (.int (own_d p1))) (fun h => by rw [Bd.returns] at h; cases h)
    subst hF
    refine own_fin ?_ ⟨hrun, hended, _, _, rfl, ?_, ⟨_, rfl⟩, hW, hsame.mono (by first | decide | exact Nat.le_of_ble_eq_true rfl) (by first | decide | exact Nat.le_of_ble_eq_true rfl)⟩
    · exact own_retN X0 hx (t := .char) Bd.returns (by simp) (by rcases own_eleven hr0 with h | h | h | h | h | h | h | h | h | h | h <;> subst h <;> decide) (hb hby d1_41) hr
    · show Q_rm1 Z p1 h0 n0 _ s₁.heap _
      rw [e0]
      exact ⟨rfl, N0, rfl⟩
  · refine own_go (fun _ k => XS.icmpYes X0.here hx rfl (pc0 := 28) (pc' := 35) rfl (hb hby d1_28) rfl (XT.ii_ge_t (by assumption)) (by decide) (by decide) k) ?_
    show own_Gl p.tables e below F (s₁.setTop (mkF m 35 #[.val (.int p1)] [(.int (48 : Int32))]))
    refine own_go (fun _ k => XS.bipush X0.here hx rfl (hb hby d1_35) k) ?_
    show own_Gl p.tables e below F (s₁.setTop (mkF m 37 #[.val (.int p1)] [(.int (11 : Int32)), (.int (48 : Int32))]))
    refine own_go (fun _ k => XS.iloadN X0.here hx rfl (hb hby d1_37) rfl k) ?_
    show own_Gl p.tables e below F (s₁.setTop (mkF m 38 #[.val (.int p1)] [(.int p1), (.int (11 : Int32)), (.int (48 : Int32))]))
    refine own_go (fun _ k => XS.isub X0.here hx rfl (hb hby d1_38) rfl k) ?_
    show own_Gl p.tables e below F (s₁.setTop (mkF m 39 #[.val (.int p1)] [(.int ((11 : Int32) - p1)), (.int (48 : Int32))]))
    refine own_go (fun _ k => XS.iadd X0.here hx rfl (hb hby d1_39) rfl k) ?_
    show own_Gl p.tables e below F (s₁.setTop (mkF m 40 #[.val (.int p1)] [(.int ((48 : Int32) + ((11 : Int32) - p1)))]))
    refine own_go (fun _ k => XS.i2c X0.here hx rfl (hb hby d1_40) rfl k) ?_
    show own_Gl p.tables e below F (s₁.setTop (mkF m 41 #[.val (.int p1)] [(.int (((48 : Int32) + ((11 : Int32) - p1)).toUInt32.toUInt16.toUInt32.toInt32))]))
    have hv : (((48 : Int32) + ((11 : Int32) - p1)).toUInt32.toUInt16.toUInt32.toInt32) = own_d p1 := by rcases own_eleven hr with h | h | h | h | h | h | h | h | h | h | h <;> subst h <;> first | decide | (exact absurd (by decide) h2)
    rw [hv]
    obtain ⟨fs, hr, hrun, hended, hW, hsame⟩ := X0.leave (v := some (.int (own_d p1))) (fun h => by rw [Bd.returns] at h; cases h)
    subst hF
    refine own_fin ?_ ⟨hrun, hended, _, _, rfl, ?_, ⟨_, rfl⟩, hW, hsame.mono (by first | decide | exact Nat.le_of_ble_eq_true rfl) (by first | decide | exact Nat.le_of_ble_eq_true rfl)⟩
    · exact own_retN X0 hx (t := .char) Bd.returns (by simp) (by rcases own_eleven hr0 with h | h | h | h | h | h | h | h | h | h | h <;> subst h <;> decide) (hb hby d1_41) hr
    · show Q_rm1 Z p1 h0 n0 _ s₁.heap _
      rw [e0]
      exact ⟨rfl, N0, rfl⟩
theorem ef_rm0 (m : MethodId) (x0 : Int32) : entryFrame m #[(.int x0)] maxLocals = mkF m 0 #[.val (.int x0), .unset, .unset, .unset] [] := by first | (simp [entryFrame, mkF, argsToLocals, Value.category, maxLocals]; done) | rfl
theorem pn_1 : plainName "com/example/bordero/bordero/core/Modulo11CheckDigitPinLaw" = true := by first | (simp [plainName, overriddenIn]; done) | decide +kernel
theorem pd_0 : parseMethodDescriptor "(I)C" = some ⟨[.int], some .char⟩ := by decide +kernel
def Q_rm0 (Z : State) (p1 : Int32) (h0 : Heap) (n0 : Nat) (v : Option Value) (h : Heap) (L : List Loc) : Prop := v = some (.int 1) ∧ Fr n0 L
set_option maxRecDepth 65536 in
set_option maxHeartbeats 40000000 in
theorem rm0 (l : Launch) (Z : State) (a0 : Array Value) (hw : ∀ d ∈ tables_1, d.before a0 Z = true) (ws : List Jvm.Cond) (p1 : Int32) (h0 : Heap) (n0 : Nat) (Z0 : n0 ≤ h0.size) :
    MetFree l x (head1 (Jvm.Cond.code x code maxLocals ret :: ws) room_1) (fun ag U => ag = #[(.int p1)] ∧ Z.Warmed39 U.vm ∧ U.heap = h0) (fun _ _ _ _ _ => True) (fun _ U o U' => ∃ v L, o = .returned v ∧ Q_rm0 Z p1 h0 n0 v U'.heap L ∧ FrameEnd U o U' L room_1.cells room_1.slots) := by
  refine MetFree.of_bodySF (plainFor_of_name pn_1) hisR ?_
  intro p e s m args below meth c s₁ Bd hml0 hP hK
  obtain ⟨rfl, hZ, hh⟩ := hP
  have hx := Bd.exec
  have hby := Bd.bytes
  have hml : c.maxLocals = 4 := hml0
  have hown : s.vm.findClass "com/example/bordero/bordero/core/Modulo11CheckDigitPinLaw" = some m.cls := findClass_of_methodNamed Bd.named
  have hnm := (name_of_methodNamed Bd.named Bd.method).1
  have X0 : Stand p l e room_1 s m #[(.int p1)] below meth c s₁ [] 0 0 := Stand.of_body Bd
  have e0 : s₁.heap = h0 := by rw [← hh, Bd.state]; rfl
  have N0 := Fr.nil n0
  refine own_start (ef_rm0 m p1) ?_
  intro F hF
  show own_Gl p.tables e below F (s₁.setTop (mkF m 0 #[.val (.int p1), .unset, .unset, .unset] []))
  refine own_go (fun _ k => XS.iloadN X0.here hx rfl (hb hby at_0) rfl k) ?_
  show own_Gl p.tables e below F (s₁.setTop (mkF m 1 #[.val (.int p1), .unset, .unset, .unset] [(.int p1)]))
  refine own_go (fun _ k => X0.ldcI hx hown (mvT hZ (hw _ (List.mem_of_getElem? (i := 0) rfl))) rfl (hb hby at_1) k) ?_
  show own_Gl p.tables e below F (s₁.setTop (mkF m 3 #[.val (.int p1), .unset, .unset, .unset] [(.int (2147483647 : Int32)), (.int p1)]))
  refine own_go (fun _ k => XS.iand X0.here hx rfl (hb hby at_3) rfl k) ?_
  show own_Gl p.tables e below F (s₁.setTop (mkF m 4 #[.val (.int p1), .unset, .unset, .unset] [(.int (p1 &&& (2147483647 : Int32)))]))
  refine own_go (fun _ k => XS.bipush X0.here hx rfl (hb hby at_4) k) ?_
  show own_Gl p.tables e below F (s₁.setTop (mkF m 6 #[.val (.int p1), .unset, .unset, .unset] [(.int (11 : Int32)), (.int (p1 &&& (2147483647 : Int32)))]))
  refine own_go (fun _ k => iremM X0 hx rfl (hb hby at_6) rfl (by decide) k) ?_
  show own_Gl p.tables e below F (s₁.setTop (mkF m 7 #[.val (.int p1), .unset, .unset, .unset] [(.int ((p1 &&& (2147483647 : Int32)) % (11 : Int32)))]))
  obtain ⟨r, er⟩ : ∃ r, r = (p1 &&& (2147483647 : Int32)) % (11 : Int32) := ⟨_, rfl⟩
  have hr := own_r p1
  rw [← er] at hr ⊢
  show own_Gl p.tables e below F (s₁.setTop (mkF m 7 #[.val (.int p1), .unset, .unset, .unset] [(.int r)]))
  refine own_go (fun _ k => XS.istoreN X0.here hx rfl (hb hby at_7) rfl (l' := #[.val (.int p1), .val (.int r), .unset, .unset]) rfl k) ?_
  show own_Gl p.tables e below F (s₁.setTop (mkF m 8 #[.val (.int p1), .val (.int r), .unset, .unset] []))
  refine own_go (fun _ k => XS.iloadN X0.here hx rfl (hb hby at_8) rfl k) ?_
  show own_Gl p.tables e below F (s₁.setTop (mkF m 9 #[.val (.int p1), .val (.int r), .unset, .unset] [(.int r)]))
  obtain ⟨_, _, ⟨T1, L1, k1, n1⟩, -, X1, ⟨Lc1, hQ1, l1, y1, z1⟩, st1⟩ := Jvm.LawKit.callS X0 hx (y := (⟨"com/example/bordero/bordero/core/Modulo11", "checkDigit", "(I)C"⟩ : MethodName)) hown (mvT hZ (hw _ (List.mem_of_getElem? (i := 1) rfl))) (mvT hZ (hw _ (List.mem_of_getElem? (i := 2) rfl))) (mvT hZ (hw _ (List.mem_of_getElem? (i := 3) rfl))) (mvT hZ (hw _ (List.mem_of_getElem? (i := 4) rfl))) (by decide) (backOf (W := 0) (rm1 l Z a0 hw [] r  h0 n0 Z0 hr) hZ (hw _ (List.mem_of_getElem? (i := 4) rfl)) (hw _ (List.mem_of_getElem? (i := 3) rfl)) (by decide) (by decide)) (g := (mkF m 9 #[.val (.int p1), .val (.int r), .unset, .unset] [(.int r)])) rfl (by rw [hml]; rfl) (argsL := [(.int r)]) (rest := []) (lenOf pd_0 rfl) rfl (by show 2 * 0 + _ ≤ _; exact Nat.le_of_eq rfl) (hb hby at_9) (fun _ _ => ⟨rfl, e0, (by first | decide | exact Nat.le_of_ble_eq_true rfl), (by first | decide | exact Nat.le_of_ble_eq_true rfl)⟩)
  dsimp only [Pt.U, Pt.locs, Pt.cells, Pt.slots] at X1 l1 y1 z1 st1 hQ1
  subst l1 y1 z1
  obtain ⟨rfl, N1, e1⟩ := hQ1
  have NF1 := Fr.app N0 N1
  refine own_go st1 ?_
  show own_Gl p.tables e below F (T1.setTop (mkF m 12 #[.val (.int p1), .val (.int r), .unset, .unset] [(.int (own_d r))]))
  have hd : ¬ (own_d r < 48) ∧ ¬ (57 < own_d r) := by rcases own_eleven hr with h | h | h | h | h | h | h | h | h | h | h <;> subst h <;> decide
  refine own_go (fun _ k => XS.istoreN X1.here hx rfl (hb hby at_12) rfl (l' := #[.val (.int p1), .val (.int r), .val (.int (own_d r)), .unset]) rfl k) ?_
  show own_Gl p.tables e below F (T1.setTop (mkF m 13 #[.val (.int p1), .val (.int r), .val (.int (own_d r)), .unset] []))
  refine own_go (fun _ k => XS.iloadN X1.here hx rfl (hb hby at_13) rfl k) ?_
  show own_Gl p.tables e below F (T1.setTop (mkF m 14 #[.val (.int p1), .val (.int r), .val (.int (own_d r)), .unset] [(.int (own_d r))]))
  refine own_go (fun _ k => XS.bipush X1.here hx rfl (hb hby at_14) k) ?_
  show own_Gl p.tables e below F (T1.setTop (mkF m 16 #[.val (.int p1), .val (.int r), .val (.int (own_d r)), .unset] [(.int (48 : Int32)), (.int (own_d r))]))
  refine own_go (fun _ k => XS.icmpNo X1.here hx rfl (hb hby at_16) rfl (XT.ii_lt_f hd.1) k) ?_
  show own_Gl p.tables e below F (T1.setTop (mkF m 19 #[.val (.int p1), .val (.int r), .val (.int (own_d r)), .unset] []))
  refine own_go (fun _ k => XS.iloadN X1.here hx rfl (hb hby at_19) rfl k) ?_
  show own_Gl p.tables e below F (T1.setTop (mkF m 20 #[.val (.int p1), .val (.int r), .val (.int (own_d r)), .unset] [(.int (own_d r))]))
  refine own_go (fun _ k => XS.bipush X1.here hx rfl (hb hby at_20) k) ?_
  show own_Gl p.tables e below F (T1.setTop (mkF m 22 #[.val (.int p1), .val (.int r), .val (.int (own_d r)), .unset] [(.int (57 : Int32)), (.int (own_d r))]))
  refine own_go (fun _ k => XS.icmpYes X1.here hx rfl (pc0 := 22) (pc' := 27) rfl (hb hby at_22) rfl (XT.ii_le_t hd.2) (by decide) (by decide) k) ?_
  show own_Gl p.tables e below F (T1.setTop (mkF m 27 #[.val (.int p1), .val (.int r), .val (.int (own_d r)), .unset] []))
  refine own_go (fun _ k => XS.iloadN X1.here hx rfl (hb hby at_27) rfl k) ?_
  show own_Gl p.tables e below F (T1.setTop (mkF m 28 #[.val (.int p1), .val (.int r), .val (.int (own_d r)), .unset] [(.int (own_d r))]))
  refine own_go (fun _ k => XS.bipush X1.here hx rfl (hb hby at_28) k) ?_
  show own_Gl p.tables e below F (T1.setTop (mkF m 30 #[.val (.int p1), .val (.int r), .val (.int (own_d r)), .unset] [(.int (48 : Int32)), (.int (own_d r))]))
  refine own_go (fun _ k => XS.isub X1.here hx rfl (hb hby at_30) rfl k) ?_
  show own_Gl p.tables e below F (T1.setTop (mkF m 31 #[.val (.int p1), .val (.int r), .val (.int (own_d r)), .unset] [(.int ((own_d r) - (48 : Int32)))]))
  refine own_go (fun _ k => XS.istoreN X1.here hx rfl (hb hby at_31) rfl (l' := #[.val (.int p1), .val (.int r), .val (.int (own_d r)), .val (.int ((own_d r) - (48 : Int32)))]) rfl k) ?_
  show own_Gl p.tables e below F (T1.setTop (mkF m 32 #[.val (.int p1), .val (.int r), .val (.int (own_d r)), .val (.int ((own_d r) - (48 : Int32)))] []))
  refine own_go (fun _ k => XS.iloadN X1.here hx rfl (hb hby at_32) rfl k) ?_
  show own_Gl p.tables e below F (T1.setTop (mkF m 33 #[.val (.int p1), .val (.int r), .val (.int (own_d r)), .val (.int ((own_d r) - (48 : Int32)))] [(.int r)]))
  refine own_go (fun _ k => XS.iconst X1.here hx rfl (hb hby at_33) k) ?_
  show own_Gl p.tables e below F (T1.setTop (mkF m 34 #[.val (.int p1), .val (.int r), .val (.int (own_d r)), .val (.int ((own_d r) - (48 : Int32)))] [(.int (2 : Int32)), (.int r)]))
  by_cases h2 : r < 2
  · refine own_go (fun _ k => XS.icmpNo X1.here hx rfl (hb hby at_34) rfl (XT.ii_ge_f h2) k) ?_
    show own_Gl p.tables e below F (T1.setTop (mkF m 37 #[.val (.int p1), .val (.int r), .val (.int (own_d r)), .val (.int ((own_d r) - (48 : Int32)))] []))
    refine own_go (fun _ k => XS.iloadN X1.here hx rfl (hb hby at_37) rfl k) ?_
    show own_Gl p.tables e below F (T1.setTop (mkF m 38 #[.val (.int p1), .val (.int r), .val (.int (own_d r)), .val (.int ((own_d r) - (48 : Int32)))] [(.int ((own_d r) - (48 : Int32)))]))
    refine own_go (fun _ k => XS.ifNo X1.here hx rfl (hb hby at_38) rfl (XT.i0_ne_f (by rcases own_eleven hr with h | h | h | h | h | h | h | h | h | h | h <;> subst h <;> first | decide | (exact absurd h2 (by decide)))) k) ?_
    show own_Gl p.tables e below F (T1.setTop (mkF m 41 #[.val (.int p1), .val (.int r), .val (.int (own_d r)), .val (.int ((own_d r) - (48 : Int32)))] []))
    refine own_go (fun _ k => XS.iconst X1.here hx rfl (hb hby at_41) k) ?_
    show own_Gl p.tables e below F (T1.setTop (mkF m 42 #[.val (.int p1), .val (.int r), .val (.int (own_d r)), .val (.int ((own_d r) - (48 : Int32)))] [(.int (1 : Int32))]))
    refine own_go (fun _ k => XS.goto X1.here hx rfl (pc0 := 42) (pc' := 46) rfl (hb hby at_42) (by decide) (by decide) k) ?_
    show own_Gl p.tables e below F (T1.setTop (mkF m 46 #[.val (.int p1), .val (.int r), .val (.int (own_d r)), .val (.int ((own_d r) - (48 : Int32)))] [(.int (1 : Int32))]))
    obtain ⟨fs, hr, hrun, hended, hW, hsame⟩ := X1.leave (v := some (.int (1 : Int32))) (fun h => by rw [Bd.returns] at h; cases h)
    subst hF
    refine own_fin ?_ ⟨hrun, hended, _, _, rfl, ?_, ⟨_, rfl⟩, hW, hsame.mono (by first | decide | exact Nat.le_of_ble_eq_true rfl) (by first | decide | exact Nat.le_of_ble_eq_true rfl)⟩
    · exact own_retN X1 hx (t := .boolean) Bd.returns (by simp) rfl (hb hby at_46) hr
    · show Q_rm0 Z p1 h0 n0 _ T1.heap _
      rw [e1]
      exact ⟨rfl, NF1⟩
  · refine own_go (fun _ k => XS.icmpYes X1.here hx rfl (pc0 := 34) (pc' := 47) rfl (hb hby at_34) rfl (XT.ii_ge_t h2) (by decide) (by decide) k) ?_
    show own_Gl p.tables e below F (T1.setTop (mkF m 47 #[.val (.int p1), .val (.int r), .val (.int (own_d r)), .val (.int ((own_d r) - (48 : Int32)))] []))
    refine own_go (fun _ k => XS.iloadN X1.here hx rfl (hb hby at_47) rfl k) ?_
    show own_Gl p.tables e below F (T1.setTop (mkF m 48 #[.val (.int p1), .val (.int r), .val (.int (own_d r)), .val (.int ((own_d r) - (48 : Int32)))] [(.int r)]))
    refine own_go (fun _ k => XS.iloadN X1.here hx rfl (hb hby at_48) rfl k) ?_
    show own_Gl p.tables e below F (T1.setTop (mkF m 49 #[.val (.int p1), .val (.int r), .val (.int (own_d r)), .val (.int ((own_d r) - (48 : Int32)))] [(.int ((own_d r) - (48 : Int32))), (.int r)]))
    refine own_go (fun _ k => XS.iadd X1.here hx rfl (hb hby at_49) rfl k) ?_
    show own_Gl p.tables e below F (T1.setTop (mkF m 50 #[.val (.int p1), .val (.int r), .val (.int (own_d r)), .val (.int ((own_d r) - (48 : Int32)))] [(.int (r + ((own_d r) - (48 : Int32))))]))
    refine own_go (fun _ k => XS.bipush X1.here hx rfl (hb hby at_50) k) ?_
    show own_Gl p.tables e below F (T1.setTop (mkF m 52 #[.val (.int p1), .val (.int r), .val (.int (own_d r)), .val (.int ((own_d r) - (48 : Int32)))] [(.int (11 : Int32)), (.int (r + ((own_d r) - (48 : Int32))))]))
    refine own_go (fun _ k => iremM X1 hx rfl (hb hby at_52) rfl (by decide) k) ?_
    show own_Gl p.tables e below F (T1.setTop (mkF m 53 #[.val (.int p1), .val (.int r), .val (.int (own_d r)), .val (.int ((own_d r) - (48 : Int32)))] [(.int ((r + ((own_d r) - (48 : Int32))) % (11 : Int32)))]))
    refine own_go (fun _ k => XS.ifNo X1.here hx rfl (hb hby at_53) rfl (XT.i0_ne_f (by rcases own_eleven hr with h | h | h | h | h | h | h | h | h | h | h <;> subst h <;> first | decide | (exact absurd (by decide) h2))) k) ?_
    show own_Gl p.tables e below F (T1.setTop (mkF m 56 #[.val (.int p1), .val (.int r), .val (.int (own_d r)), .val (.int ((own_d r) - (48 : Int32)))] []))
    refine own_go (fun _ k => XS.iconst X1.here hx rfl (hb hby at_56) k) ?_
    show own_Gl p.tables e below F (T1.setTop (mkF m 57 #[.val (.int p1), .val (.int r), .val (.int (own_d r)), .val (.int ((own_d r) - (48 : Int32)))] [(.int (1 : Int32))]))
    refine own_go (fun _ k => XS.goto X1.here hx rfl (pc0 := 57) (pc' := 61) rfl (hb hby at_57) (by decide) (by decide) k) ?_
    show own_Gl p.tables e below F (T1.setTop (mkF m 61 #[.val (.int p1), .val (.int r), .val (.int (own_d r)), .val (.int ((own_d r) - (48 : Int32)))] [(.int (1 : Int32))]))
    obtain ⟨fs, hr, hrun, hended, hW, hsame⟩ := X1.leave (v := some (.int (1 : Int32))) (fun h => by rw [Bd.returns] at h; cases h)
    subst hF
    refine own_fin ?_ ⟨hrun, hended, _, _, rfl, ?_, ⟨_, rfl⟩, hW, hsame.mono (by first | decide | exact Nat.le_of_ble_eq_true rfl) (by first | decide | exact Nat.le_of_ble_eq_true rfl)⟩
    · exact own_retN X1 hx (t := .boolean) Bd.returns (by simp) rfl (hb hby at_61) hr
    · show Q_rm0 Z p1 h0 n0 _ T1.heap _
      rw [e1]
      exact ⟨rfl, NF1⟩
set_option maxRecDepth 65536 in
set_option maxHeartbeats 40000000 in
theorem comes_1 {Post : Tables → Env → Array Value → State → Outcome → State → Prop} (hpost : ∀ tb e args s v u, (limb_1_1.after args s (.returned v) u = true ∧ limb_1_2.after args s (.returned v) u = true ∧ True) → FrameEnd s (.returned v) u (Jvm.fieldLocs frame_1_writes args s ++ Jvm.arrayLocs frame_1_arrays args s ++ Jvm.staticLocs frame_1_statics s) 0 0 → Post tb e args s (.returned v) u) :
    ArmFor flags0 classFile x code maxLocals ret World_1 tables_1 room_1 Calls_1 rest_1 Pre_1 Post := by
  intro l hfl _ _ p e ha hc hk s m args below hf hA hF happ hP
  obtain ⟨hcalls, hrest, hpre⟩ := hP
  obtain ⟨-, -, -, hnamed, -, -, -, hat⟩ := (Spec.applies_iff hf).mp happ
  obtain ⟨hg, hn⟩ := and_e (Cond.before_iff.mp (show (Jvm.Cond.and given_1 narrow_1).before args s = true from hpre))
  obtain ⟨gv1, gv2⟩ := and_e hg
  obtain ⟨w0, rfl⟩ : ∃ w0 : Value, args = #[w0] := by
    have hs : args.size = 1 := by simpa [Cond.value, given_1] using gv1
    obtain ⟨L⟩ := args
    match L, hs with
    | [w0], _ => exact ⟨w0, rfl⟩
  have hw := fun d (hd : d ∈ tables_1) => atoms_spec (ws := Jvm.Cond.code x code maxLocals ret :: tables_1) hat d (List.mem_cons_of_mem _ hd)
  have hfit : Fit s := fun {y c} hc i hi => by
    obtain ⟨ha, rfl⟩ := Array.getElem?_eq_some_iff.mp hc
    have q := List.all_eq_true.mp ((Array.all_eq_true_iff_forall_mem.mp hF) _ (Array.getElem_mem ha)) i (List.mem_range.mpr hi)
    simpa [Array.getElem?_eq_getElem hi] using q
  obtain ⟨i0, ei0⟩ := is_v gv2
  obtain rfl : w0 = (.int i0) := Option.some.inj ei0
  obtain ⟨n, o, h1, h2, h3, _, L, rfl, ⟨rfl, N⟩, hq⟩ := rm0 l s _ hw tables_1 i0  s.heap s.heap.size (Nat.le_refl _)  p e ha hc hk s m _ below hf ((Spec.applies_iff_loose hf).mp happ).1 ⟨rfl, State.Warmed39.refl s, rfl⟩ trivial
  refine ⟨n, _, h1, h2, h3, hpost _ _ _ _ _ _ ⟨Cond.after_iff.mpr rfl, Cond.after_iff.mpr (eq_i res_at (Term.int_eval (1)) rfl), trivial⟩ ⟨hq.1, hq.2.1, (hq.2.2.sift fun y hy => Or.inr (N y hy)).mono (by decide) (by decide)⟩⟩
theorem main_1_1 : Claimed_1_1 := comes_1 fun _ _ _ _ _ _ h hF => ⟨h.1, hF⟩
theorem main_1_2 : Claimed_1_2 := comes_1 fun _ _ _ _ _ _ h hF => ⟨h.2.1, hF⟩
end Jvm.Pilot.@@N@@
namespace Jvm.Pilot.@@N@@
open Jvm Jvm.ClassFile Sem Op Lib Jvm.Free Jvm.Stand Jvm.Pilot.@@N@@.Jvm.D
/-! MADE BY PROGRAM (witnessworld.py) out of the Statement's table words and the real class files: 9 classes; the members and pool entries that the words name. The judged class is class 1, her method 1. -/
namespace start1
open Jvm.ClassFile
def u (s : String) : CpInfo := .utf8 (stringToUtf16 s)
/-- a pool by its gaps: so many unusable entries, then the entry; so many at the end -/
def gap : Nat → List CpInfo → List CpInfo
  | 0, r => r
  | n + 1, r => .unusable :: gap n r
def poolList (es : List (Nat × CpInfo)) (last : Nat) : List CpInfo := es.foldr (fun e r => gap e.1 (e.2 :: r)) (gap last [])
def pool (es : List (Nat × CpInfo)) (last : Nat) : Array CpInfo := ⟨poolList es last⟩
def fileOf (pool : Array CpInfo) (this : Nat) (attrs : Array Attribute := #[]) (ms : Array MethodInfo := #[]) (fl : Nat := 33) (sup : Nat := 0) (ifs : Array Nat := #[]) (fds : Array FieldInfo := #[]) : ClassFile where
  minorVersion := 0
  majorVersion := 65
  constantPool := pool
  accessFlags := fl
  thisClass := this
  superClass := sup
  interfaces := ifs
  fields := fds
  methods := ms
  attributes := attrs
def plain (name : String) (sup : Option ClassId) : Class where
  name := name
  kind := .ordinary
  loader := none
  accessFlags := 33
  super := sup
  interfaces := #[]
  cf := none
  fields := #[]
  methods := #[]
  instanceTypes := #[]
  staticTypes := #[]
  resolved := #[]
  callSites := []
  init := .initialized
  statics := none
  mirror := none

def pool0 : Array CpInfo := pool [(5, u "<init>"), (0, u "()V"), (1, .class_ 10), (1, u "java/lang/Object")] 113

def k0m0 : Method := { name := "<init>", desc := "()V", sig := { parameters := [], returnType := none }, accessFlags := 1, code := none }
/-- java/lang/Object -/
def k0 : Class := { plain "java/lang/Object" none with
  accessFlags := 33
  interfaces := #[]
  cf := some (fileOf pool0 8 #[] #[{ accessFlags := 1, nameIndex := 5, descriptorIndex := 6, attributes := #[] }] 33 0 #[] #[])
  fields := #[]
  methods := #[k0m0]
  instanceTypes := #[]
  staticTypes := #[]
  resolved := Array.replicate 124 none
  statics := none }

def pool1 : Array CpInfo := pool [(2, .class_ 4), (1, u "java/lang/Object"), (0, u "<init>"), (0, u "()V"), (0, .integer 2147483647), (0, .methodref 9 10), (0, .class_ 11), (0, .nameAndType 12 13), (0, u "com/example/bordero/bordero/core/Modulo11"), (0, u "checkDigit"), (0, u "(I)C"), (0, .class_ 15), (0, u "com/example/bordero/bordero/core/Modulo11CheckDigitPinLaw"), (2, u "law"), (0, u "(I)Z")] 3

def k1m0 : Method := { name := "<init>", desc := "()V", sig := { parameters := [], returnType := none }, accessFlags := 2, code := none }
def k1c1 : Code := { maxStack := 2, maxLocals := 4, code := code, exceptionTable := #[], attributes := #[] }
def k1m1 : Method := { name := "law", desc := "(I)Z", sig := { parameters := [.int], returnType := some .boolean }, accessFlags := 9, code := some k1c1 }
/-- com/example/bordero/bordero/core/Modulo11CheckDigitPinLaw -/
def k1 : Class := { plain "com/example/bordero/bordero/core/Modulo11CheckDigitPinLaw" (some 0) with
  accessFlags := 49
  interfaces := #[]
  cf := some (fileOf pool1 14 #[] #[{ accessFlags := 2, nameIndex := 5, descriptorIndex := 6, attributes := #[] }, { accessFlags := 9, nameIndex := 18, descriptorIndex := 19, attributes := #[] }] 49 2 #[] #[])
  fields := #[]
  methods := #[k1m0, k1m1]
  instanceTypes := #[]
  staticTypes := #[]
  resolved := Array.replicate 23 none
  statics := none }

def pool2 : Array CpInfo := pool [(2, .class_ 4), (1, u "java/lang/Object"), (0, u "<init>"), (0, u "()V"), (1, .class_ 10), (1, u "com/example/bordero/bordero/core/Modulo11"), (23, u "(I)C"), (19, u "checkDigit")] 22

def k2m0 : Method := { name := "<init>", desc := "()V", sig := { parameters := [], returnType := none }, accessFlags := 2, code := none }
def k2c1 : Code := { maxStack := 3, maxLocals := 1, code := prog_32_method_4_code, exceptionTable := #[], attributes := #[] }
def k2m1 : Method := { name := "checkDigit", desc := "(I)C", sig := { parameters := [.int], returnType := some .char }, accessFlags := 9, code := some k2c1 }
/-- com/example/bordero/bordero/core/Modulo11 -/
def k2 : Class := { plain "com/example/bordero/bordero/core/Modulo11" (some 0) with
  accessFlags := 49
  interfaces := #[]
  cf := some (fileOf pool2 8 #[] #[{ accessFlags := 2, nameIndex := 5, descriptorIndex := 6, attributes := #[] }, { accessFlags := 9, nameIndex := 54, descriptorIndex := 34, attributes := #[] }] 49 2 #[] #[])
  fields := #[]
  methods := #[k2m0, k2m1]
  instanceTypes := #[]
  staticTypes := #[]
  resolved := Array.replicate 77 none
  statics := none }

def pool3 : Array CpInfo := pool [(1, u "java/lang/Cloneable"), (0, .class_ 1), (0, u "java/lang/Object"), (0, .class_ 3)] 3

/-- java/lang/Cloneable -/
def k3 : Class := { plain "java/lang/Cloneable" (some 0) with
  accessFlags := 1537
  interfaces := #[]
  cf := some (fileOf pool3 2 #[] #[] 1537 4 #[] #[])
  fields := #[]
  methods := #[]
  instanceTypes := #[]
  staticTypes := #[]
  resolved := Array.replicate 8 none
  statics := none }

def pool4 : Array CpInfo := pool [(1, u "java/io/Serializable"), (0, .class_ 1), (0, u "java/lang/Object"), (0, .class_ 3)] 3

/-- java/io/Serializable -/
def k4 : Class := { plain "java/io/Serializable" (some 0) with
  accessFlags := 1537
  interfaces := #[]
  cf := some (fileOf pool4 2 #[] #[] 1537 4 #[] #[])
  fields := #[]
  methods := #[]
  instanceTypes := #[]
  staticTypes := #[]
  resolved := Array.replicate 8 none
  statics := none }

/-- the primitive byte -/
def k5 : Class := { plain "byte" none with kind := .primitive 'B', accessFlags := 0x411 }
/-- [B -/
def k6 : Class := { plain "[B" (some 0) with kind := .array 5 .byte, interfaces := #[3, 4], accessFlags := 1041 }

/-- the primitive int -/
def k7 : Class := { plain "int" none with kind := .primitive 'I', accessFlags := 0x411 }
/-- [I -/
def k8 : Class := { plain "[I" (some 0) with kind := .array 7 .int, interfaces := #[3, 4], accessFlags := 1041 }

def heap : Heap := #[]
def classes : Array Class := #[k0, k1, k2, k3, k4, k5, k6, k7, k8]
def interned : List (Array UInt16 × Addr) := []
def slotsUsed : Nat := 0
def theMethod : MethodId := ⟨1, 1⟩
def args0 : Array Value := #[.int 5]
def aboutOver (below : List Frame) : State where
  vm := { classes := classes, interned := interned.toArray }
  heap := heap
  slotsUsed := slotsUsed
  threads := #[{ frames := .invoking theMethod args0 :: below }]
def below0 : List Frame := [.native { method := ⟨0, 0⟩, args := #[] }]
def about1 : State := aboutOver below0
def p0 : Program := .bare "" "" ""
def e0 : Env := launch0.env 0 0 0
theorem w_frames : about1.frames = Frame.invoking theMethod args0 :: below0 := rfl
set_option maxRecDepth 65536 in
theorem w_args : argsFit about1.vm theMethod args0 = true := by decide +kernel
set_option maxRecDepth 65536 in
theorem w_heap : heapFits about1 = true := by decide +kernel
set_option maxRecDepth 65536 in
theorem w_runnable : about1.curStatus? = some .runnable := by decide +kernel
set_option maxRecDepth 65536 in
theorem w_alone : about1.alone = true := by decide +kernel
set_option maxRecDepth 65536 in
theorem w_named : about1.methodNamed? x = some theMethod := by decide +kernel
set_option maxRecDepth 65536 in
theorem w_hears : about1.hears theMethod below0 = true := by decide +kernel
set_option maxRecDepth 65536 in
theorem w_ripe : about1.ripe theMethod args0 below0 = true := by decide +kernel
theorem w_running : about1.status = .running := rfl
set_option maxRecDepth 65536 in
theorem w_room : about1.hasRoom e0.platform room_1 = true :=
  launch0.hasRoom_least _ room_1 (by decide +kernel) (by decide +kernel) (by decide +kernel) (by decide +kernel) (by decide +kernel) (by decide +kernel)
theorem allAtoms_all (ts : List Jvm.Cond) (a : Array Jvm.Value) (st : Jvm.State) : (allAtoms ts).before a st = ts.all (fun c => c.before a st) := by
  induction ts with
  | nil => rfl
  | cons c t ih =>
    show (Jvm.Cond.and c (allAtoms t)).before a st = _
    rw [Jvm.Cond.before_and, ih, List.all_cons]
def words1 : List Jvm.Cond := Jvm.Cond.code x code maxLocals ret :: tables_1
/-- a 'code' word, met by the world's own term for the bytes: nothing is compared byte by byte -/
theorem code_word {y : MethodName} {bytes : ByteArray} {mx : Nat} {rt : Option FieldType} {a : Array Value} {s : State} {m : MethodId} {meth : Method} {c : Code} (h1 : s.methodNamed? y = some m) (h2 : s.vm.method? m = some meth) (h3 : meth.code = some c) (h4 : c.code = bytes)
    (h5 : (c.maxLocals == mx && c.exceptionTable.isEmpty && decide (c.maxStack ≤ mostOperands) && decide (meth.sig.returnType = rt) && !meth.locks && decide (parseMethodDescriptor y.desc = some meth.sig)) = true) : (Jvm.Cond.code y bytes mx rt).before a s = true := by
  simp only [Bool.and_eq_true, beq_iff_eq, Bool.not_eq_true', decide_eq_true_eq] at h5
  obtain ⟨⟨⟨⟨⟨g1, g2⟩, g3⟩, g4⟩, g5⟩, g6⟩ := h5
  simp [Cond.before, Cond.holds, Cond.value, h1, h2, h3, h4, g1, g2, g3, g4, g5, g6]
def isCode : Jvm.Cond → Bool
  | .code _ _ _ _ => true
  | _ => false
theorem all_split {L : List Jvm.Cond} {P : Jvm.Cond → Bool} (h1 : L.all (fun c => isCode c || P c) = true) (h2 : ∀ c ∈ L.filter isCode, P c = true) : L.all P = true := by
  refine List.all_eq_true.mpr fun c hc => ?_
  have h := List.all_eq_true.mp h1 c hc
  rcases Bool.eq_false_or_eq_true (isCode c) with hi | hi
  · exact h2 c (List.mem_filter.mpr ⟨hc, hi⟩)
  · simpa [hi] using h
set_option maxRecDepth 65536 in
theorem w_c0 : (Jvm.Cond.code x code maxLocals ret).before args0 about1 = true := code_word (m := ⟨1, 1⟩) (meth := k1m1) (c := k1c1) (by decide +kernel) rfl rfl rfl (by decide +kernel)
set_option maxRecDepth 65536 in
theorem w_c1 : (Jvm.Cond.code ({ cls := "com/example/bordero/bordero/core/Modulo11", name := "checkDigit", desc := "(I)C" } : Jvm.MethodName) prog_32_method_4_code (1 : Nat) (Option.some Jvm.ClassFile.FieldType.char)).before args0 about1 = true := code_word (m := ⟨2, 1⟩) (meth := k2m1) (c := k2c1) (by decide +kernel) rfl rfl rfl (by decide +kernel)
def codes1 : List Jvm.Cond := [Jvm.Cond.code x code maxLocals ret, Jvm.Cond.code ({ cls := "com/example/bordero/bordero/core/Modulo11", name := "checkDigit", desc := "(I)C" } : Jvm.MethodName) prog_32_method_4_code (1 : Nat) (Option.some Jvm.ClassFile.FieldType.char)]
set_option maxRecDepth 65536 in
theorem codes_eq : words1.filter isCode = codes1 := rfl
theorem w_codes : ∀ c ∈ words1.filter isCode, c.before args0 about1 = true := by
  rw [codes_eq]
  intro c hc
  simp only [codes1, List.mem_cons, List.not_mem_nil, or_false] at hc
  rcases hc with rfl | rfl
  · exact w_c0
  · exact w_c1
set_option maxRecDepth 65536 in
theorem w_t1 : words1.all (fun c => isCode c || c.before args0 about1) = true := by decide +kernel
theorem w_tables : (allAtoms (Jvm.Cond.code x code maxLocals ret :: tables_1)).before args0 about1 = true := by
  rw [allAtoms_all]
  show words1.all (fun c => c.before args0 about1) = true
  refine all_split ?_ w_codes
  rw [w_t1]
set_option maxRecDepth 65536 in
theorem w_case : (Jvm.Cond.and given_1 narrow_1).before args0 about1 = true := by decide +kernel
theorem w_applies : (headSpec (Jvm.Cond.code x code maxLocals ret :: tables_1) room_1).applies x e0.platform about1 = true :=
  (Spec.applies_iff w_frames).mpr ⟨w_running, w_runnable, w_alone, w_named, w_hears, w_ripe, w_room, w_tables⟩
theorem atStart : AtStart classFile x code maxLocals ret World_1 tables_1 room_1 Calls_1 rest_1 Pre_1 launch0 p0 e0 about1 theMethod args0 below0 :=
  ⟨lists_1, trivial, launch0.admits_env _ _ _, launch0.least_env, fairChoices_fair.cas, fairChoices_fair.clock, w_frames, w_args, w_heap, w_applies, trivial, trivial, w_case⟩
end start1
theorem witness_1 : WitnessClaimed_1 := ⟨start1.p0, start1.e0, start1.about1, start1.theMethod, start1.args0, start1.below0, start1.atStart⟩
end Jvm.Pilot.@@N@@
