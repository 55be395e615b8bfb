import JvmDerived
import JvmDerived.Pilot.@@N@@Statement
import JvmDerived.Pilot.@@N@@Code
set_option linter.unusedVariables false
set_option linter.unusedSimpArgs false
namespace Jvm.RoadKit
open Sem ClassFile Op Lib Jvm.Stand Jvm.Free Jvm.LawKit
section New
variable {p : Program} {l : Launch} {e : Env} {R : Room} {s : State} {m : MethodId} {args : Array Value} {below : List Frame} {meth : Method} {c : Code} {T : State} {locs : List Loc} {cells slots : Nat}
theorem retI (X : Stand p l e R s m args below meth c T locs cells slots) (hx : p.tables.exec = Jvm.exec) {pc : Nat} {Ls : Array Slot} {z : Int32} {rest : List Value} (hret : meth.sig.returnType = some .int) (hd : decode c.code pc = .ok (.ireturn, 1)) {fs : List Frame}
    (hl : ∀ (f : JFrame) (acts : List Action), f.method = m → f.locked = none → f.entered = [] → (doReturn e (T.setTop f) acts (some (.int z))).1 = T.setFrames fs) : Steps p.tables e below (T.setTop (mkF m pc Ls (.int z :: rest))) (T.setFrames fs) := by
  have hm' : T.vm.method? m = some meth := X.method'
  have hn : narrow .int (.int z) = .int z := rfl
  show Steps p.tables e below (T.setTop { method := m, pc := pc, locals := Ls, stack := _ :: rest, locked := none }) _
  jvm_step X.here [X.here.top, hx, hd, hm', hret, hn]
  first | (intro acts; rw [hl _ acts rfl rfl rfl]) | rw [hl _ _ rfl rfl rfl]
  exact Steps.refl _
theorem own_retJ (X : Stand p l e R s m args below meth c T locs cells slots) (hx : p.tables.exec = Jvm.exec) {pc : Nat} {Ls : Array Slot} {z : Int64} {rest : List Value} (hret : meth.sig.returnType = some .long) (hd : decode c.code pc = .ok (.lreturn, 1)) {fs : List Frame}
    (hl : ∀ (f : JFrame) (acts : List Action), f.method = m → f.locked = none → f.entered = [] → (doReturn e (T.setTop f) acts (some (.long z))).1 = T.setFrames fs) : Steps p.tables e below (T.setTop (mkF m pc Ls (.long z :: rest))) (T.setFrames fs) :=
  retOut X hx hret rfl (Or.inr (Or.inl ⟨rfl, rfl, z, rfl⟩)) hd hl
theorem own_retA (X : Stand p l e R s m args below meth c T locs cells slots) (hx : p.tables.exec = Jvm.exec) {pc : Nat} {Ls : Array Slot} {w : Value} {t : FieldType} {rest : List Value} (hret : meth.sig.returnType = some t) (ht : t.isReference = true) (hw : w.isRef = true) (hd : decode c.code pc = .ok (.areturn, 1)) {fs : List Frame}
    (hl : ∀ (f : JFrame) (acts : List Action), f.method = m → f.locked = none → f.entered = [] → (doReturn e (T.setTop f) acts (some w)).1 = T.setFrames fs) : Steps p.tables e below (T.setTop (mkF m pc Ls (w :: rest))) (T.setFrames fs) :=
  retOut X hx hret (by rcases ref_cases hw with rfl | ⟨a, rfl⟩ <;> cases t <;> first | rfl | (simp [FieldType.isReference] at ht)) (Or.inr (Or.inr (Or.inr (Or.inr ⟨rfl, ht, hw⟩)))) hd hl
theorem own_retN (X : Stand p l e R s m args below meth c T locs cells slots) (hx : p.tables.exec = Jvm.exec) {pc : Nat} {Ls : Array Slot} {z z' : Int32} {t : FieldType} {rest : List Value} (hret : meth.sig.returnType = some t) (ht : t = .boolean ∨ t = .byte ∨ t = .char ∨ t = .short) (hz : nar t z = z')
    (hd : decode c.code pc = .ok (.ireturn, 1)) {fs : List Frame} (hl : ∀ (f : JFrame) (acts : List Action), f.method = m → f.locked = none → f.entered = [] → (doReturn e (T.setTop f) acts (some (.int z'))).1 = T.setFrames fs) :
    Steps p.tables e below (T.setTop (mkF m pc Ls (.int z :: rest))) (T.setFrames fs) := by subst hz; exact retN X hx hret ht hd hl
/-- from a state, some run leads to an end that F takes -/
def own_Gl (tb : Tables) (e : Env) (below : List Frame) (F : State → Outcome → Prop) (st : State) : Prop := ∃ s₂ o, Steps tb e below st s₂ ∧ F s₂ o
theorem own_go {tb : Tables} {F : State → Outcome → Prop} {st st' : State} (h : ∀ t, Steps tb e below st' t → Steps tb e below st t) (g : own_Gl tb e below F st') : own_Gl tb e below F st := by
  obtain ⟨t, o, k, r⟩ := g; exact ⟨t, o, h t k, r⟩
theorem own_fin {tb : Tables} {F : State → Outcome → Prop} {st t : State} {o : Outcome} (h : Steps tb e below st t) (r : F t o) : own_Gl tb e below F st := ⟨t, o, h, r⟩
theorem own_start {tb : Tables} {G : State → Outcome → Prop} {g g' : JFrame} (q : g = g') (k : ∀ F, F = G → own_Gl tb e below F (T.setTop g')) : ∃ s₂ o, Steps tb e below (T.setTop g) s₂ ∧ G s₂ o := by subst q; exact k G rfl
end New
/-- an array of length z whose place j holds g j -/
def own_A (Z : State) (h : Heap) (a : Addr) (ty : FieldType) (z : Int32) (g : Nat → Value) : Prop := ∃ c : Cell, Arr Z h a c ty ∧ c.slots.size = z.toNatClampNeg ∧ ¬ z < 0 ∧ ∀ j, j < c.slots.size → c.slots[j]? = some (g j)
section OwnA
variable {Z : State} {h h' : Heap} {a b : Addr} {ty : FieldType} {z : Int32} {g : Nat → Value} {sl : Nat} {v : Value} {ws : List Addr}
theorem own_A.lt (F : own_A Z h a ty z g) : a < h.size := by obtain ⟨c, A, -⟩ := F; exact A.lt
theorem own_A.ext (F : own_A Z h a ty z g) (E : Ext h h') : own_A Z h' a ty z g := by obtain ⟨c, A, r⟩ := F; exact ⟨c, A.ext E, r⟩
theorem own_A.other (F : own_A Z h b ty z g) (W : Wr h h' a sl v) (q : b ≠ a) : own_A Z h' b ty z g := by obtain ⟨c, A, r⟩ := F; exact ⟨c, A.other W q, r⟩
theorem own_A.keep (F : own_A Z h a ty z g) (K : Keep h h' ws) (q : a ∉ ws) : own_A Z h' a ty z g := by obtain ⟨c, A, r⟩ := F; exact ⟨c, ⟨K.2.1 a c A.1 q, A.2⟩, r⟩
theorem own_A.set (F : own_A Z h a ty z g) {i : Nat} (W : Wr h h' a i v) : own_A Z h' a ty z (fun k => if k = i then v else g k) := by
  obtain ⟨c, A, S, N, H⟩ := F
  refine ⟨_, A.same W, by rw [sz_set]; exact S, N, fun j hj => ?_⟩
  rw [sz_set] at hj
  by_cases u : j = i
  · subst u; simp [Cell.setSlot, hj]
  · show _ = some (if j = i then v else g j)
    rw [if_neg u]; simp only [Cell.setSlot]; rw [Array.getElem?_setIfInBounds_ne (fun q => u q.symm)]; exact H j hj
theorem own_A.new {k : ClassId} (A : Arr Z h a (newA k ty z) ty) (q : ¬ z < 0) : own_A Z h a ty z (fun _ => defaultValue ty) := by
  obtain ⟨c, A', -, S, N, H, -⟩ := Arv.new A q
  exact ⟨c, A', S, N, fun j hj => H j hj⟩
theorem own_A.of (F : own_A Z h a ty z g) {g' : Nat → Value} (q : ∀ j, j < z.toNatClampNeg → g j = g' j) : own_A Z h a ty z g' := by
  obtain ⟨c, A, S, N, H⟩ := F; exact ⟨c, A, S, N, fun j hj => by rw [← q j (S ▸ hj)]; exact H j hj⟩
end OwnA
end Jvm.RoadKit
namespace Jvm.Pilot.@@N@@
open Jvm Jvm.ClassFile Sem Op Lib Jvm.Free Jvm.Stand Jvm.LawKit Jvm.RoadKit Bundle Jvm.Pilot.@@N@@.Jvm.D

def own_o (jo jl : Int64) : Int32 := if jo = 0 then 0 else if jo = jl then 1 else 0
theorem own_m (x : Int32) : x &&& 3 = 0 ∨ x &&& 3 = 1 ∨ x &&& 3 = 2 ∨ x &&& 3 = 3 := by
  have h : (x &&& 3).toBitVec = 0#32 ∨ (x &&& 3).toBitVec = 1#32 ∨ (x &&& 3).toBitVec = 2#32 ∨ (x &&& 3).toBitVec = 3#32 := by
    have e : (x &&& 3).toBitVec = x.toBitVec &&& 3#32 := rfl
    rw [e]
    have hb : (x.toBitVec &&& 3#32).toNat = x.toBitVec.toNat % 4 := by
      rw [BitVec.toNat_and]; exact Nat.and_two_pow_sub_one_eq_mod _ 2
    have hl : x.toBitVec.toNat % 4 < 4 := Nat.mod_lt _ (by decide)
    rcases (by omega : x.toBitVec.toNat % 4 = 0 ∨ x.toBitVec.toNat % 4 = 1 ∨ x.toBitVec.toNat % 4 = 2 ∨ x.toBitVec.toNat % 4 = 3) with q | q | q | q
    · exact Or.inl (BitVec.eq_of_toNat_eq (by rw [hb, q]; rfl))
    · exact Or.inr (Or.inl (BitVec.eq_of_toNat_eq (by rw [hb, q]; rfl)))
    · exact Or.inr (Or.inr (Or.inl (BitVec.eq_of_toNat_eq (by rw [hb, q]; rfl))))
    · exact Or.inr (Or.inr (Or.inr (BitVec.eq_of_toNat_eq (by rw [hb, q]; rfl))))
  rcases h with h | h | h | h
  · exact Or.inl (Int32.toBitVec_inj.mp h)
  · exact Or.inr (Or.inl (Int32.toBitVec_inj.mp h))
  · exact Or.inr (Or.inr (Or.inl (Int32.toBitVec_inj.mp h)))
  · exact Or.inr (Or.inr (Or.inr (Int32.toBitVec_inj.mp h)))
theorem own_nz (a : Int64) : ¬ ((if a = 0 then 1 else a) = (0 : Int64)) := by
  by_cases h : a = 0
  · rw [if_pos h]; decide
  · rw [if_neg h]; exact h
theorem own_xor {n d : Int64} (hd : ¬ d = 0) : ¬ (n = n ^^^ d) := fun h => hd (by
  have h1 : n ^^^ n = n ^^^ (n ^^^ d) := congrArg (n ^^^ ·) h
  rw [Int64.xor_self, ← Int64.xor_assoc, Int64.xor_self, Int64.zero_xor] at h1
  exact h1.symm)
theorem ef_rm1 (m : MethodId) (x0 : Addr) (x1 : Int64) (x2 : Int64) (x3 : Int64) (x4 : Int64) (x5 : Int64) (x6 : Int64) (x7 : Int64) : entryFrame m #[(.ref x0), (.long x1), (.long x2), (.long x3), (.long x4), (.long x5), (.long x6), (.long x7)] 15 = mkF m 0 #[.val (.ref x0), .val (.long x1), .second, .val (.long x2), .second, .val (.long x3), .second, .val (.long x4), .second, .val (.long x5), .second, .val (.long x6), .second, .val (.long x7), .second] [] := by first | (simp [entryFrame, mkF, argsToLocals, Value.category]; done) | rfl
theorem pn_0 : plainName "com/example/quorumhelm/quorumhelm/service/JournalState" = true := by first | (simp [plainName, overriddenIn]; done) | decide +kernel
theorem d1_0 : decode prog_75_method_1_code 0 = .ok (.aload_n 0, 1) := by decide +kernel
theorem d1_1 : decode prog_75_method_1_code 1 = .ok (.invokespecial 1, 3) := by decide +kernel
theorem d1_4 : decode prog_75_method_1_code 4 = .ok (.aload_n 0, 1) := by decide +kernel
theorem d1_5 : decode prog_75_method_1_code 5 = .ok (.lload_n 1, 1) := by decide +kernel
theorem d1_6 : decode prog_75_method_1_code 6 = .ok (.putfield 7, 3) := by decide +kernel
theorem d1_9 : decode prog_75_method_1_code 9 = .ok (.aload_n 0, 1) := by decide +kernel
theorem d1_10 : decode prog_75_method_1_code 10 = .ok (.lload_n 3, 1) := by decide +kernel
theorem d1_11 : decode prog_75_method_1_code 11 = .ok (.putfield 13, 3) := by decide +kernel
theorem d1_14 : decode prog_75_method_1_code 14 = .ok (.aload_n 0, 1) := by decide +kernel
theorem d1_15 : decode prog_75_method_1_code 15 = .ok (.lload 5, 2) := by decide +kernel
theorem d1_17 : decode prog_75_method_1_code 17 = .ok (.putfield 16, 3) := by decide +kernel
theorem d1_20 : decode prog_75_method_1_code 20 = .ok (.aload_n 0, 1) := by decide +kernel
theorem d1_21 : decode prog_75_method_1_code 21 = .ok (.lload 7, 2) := by decide +kernel
theorem d1_23 : decode prog_75_method_1_code 23 = .ok (.putfield 19, 3) := by decide +kernel
theorem d1_26 : decode prog_75_method_1_code 26 = .ok (.aload_n 0, 1) := by decide +kernel
theorem d1_27 : decode prog_75_method_1_code 27 = .ok (.lload 9, 2) := by decide +kernel
theorem d1_29 : decode prog_75_method_1_code 29 = .ok (.putfield 22, 3) := by decide +kernel
theorem d1_32 : decode prog_75_method_1_code 32 = .ok (.aload_n 0, 1) := by decide +kernel
theorem d1_33 : decode prog_75_method_1_code 33 = .ok (.lload 11, 2) := by decide +kernel
theorem d1_35 : decode prog_75_method_1_code 35 = .ok (.putfield 25, 3) := by decide +kernel
theorem d1_38 : decode prog_75_method_1_code 38 = .ok (.aload_n 0, 1) := by decide +kernel
theorem d1_39 : decode prog_75_method_1_code 39 = .ok (.lload 13, 2) := by decide +kernel
theorem d1_41 : decode prog_75_method_1_code 41 = .ok (.putfield 28, 3) := by decide +kernel
theorem d1_44 : decode prog_75_method_1_code 44 = .ok (.return_, 1) := by decide +kernel
def Q_rm1 (Z : State) (a : Addr) (q1 q2 q3 q4 q5 q6 q7 : Int64) (h0 : Heap) (n0 : Nat) (v : Option Value) (h : Heap) (L : List Loc) : Prop := v = none ∧ Fr n0 L ∧ Keep h0 h [a] ∧ Exa Z h a "com/example/quorumhelm/quorumhelm/service/JournalState" ∧ Fld Z h a "com/example/quorumhelm/quorumhelm/service/JournalState" "m_nNamespaceId" "J" (.long q1) ∧ Fld Z h a "com/example/quorumhelm/quorumhelm/service/JournalState" "m_nPromisedEpoch" "J" (.long q2) ∧ Fld Z h a "com/example/quorumhelm/quorumhelm/service/JournalState" "m_nLastTxId" "J" (.long q3) ∧ Fld Z h a "com/example/quorumhelm/quorumhelm/service/JournalState" "m_nLastSegmentTxId" "J" (.long q4) ∧ Fld Z h a "com/example/quorumhelm/quorumhelm/service/JournalState" "m_nOpenSegmentTxId" "J" (.long q5) ∧ Fld Z h a "com/example/quorumhelm/quorumhelm/service/JournalState" "m_nWriterEpoch" "J" (.long q6) ∧ Fld Z h a "com/example/quorumhelm/quorumhelm/service/JournalState" "m_nSilentMillis" "J" (.long q7)
set_option maxRecDepth 65536 in
set_option maxHeartbeats 40000000 in
theorem rm1 (l : Launch) (Z : State) (a0 : Array Value) (hw : ∀ d ∈ tables_1, d.before a0 Z = true) (ws : List Jvm.Cond) (a : Addr) (q1 q2 q3 q4 q5 q6 q7 : Int64) (h0 : Heap) (n0 : Nat) (Z0 : n0 ≤ h0.size) (E_a : Exa Z h0 a "com/example/quorumhelm/quorumhelm/service/JournalState") (F_m_nNamespaceId : Fld Z h0 a "com/example/quorumhelm/quorumhelm/service/JournalState" "m_nNamespaceId" "J" (.long 0)) (F_m_nPromisedEpoch : Fld Z h0 a "com/example/quorumhelm/quorumhelm/service/JournalState" "m_nPromisedEpoch" "J" (.long 0)) (F_m_nLastTxId : Fld Z h0 a "com/example/quorumhelm/quorumhelm/service/JournalState" "m_nLastTxId" "J" (.long 0)) (F_m_nLastSegmentTxId : Fld Z h0 a "com/example/quorumhelm/quorumhelm/service/JournalState" "m_nLastSegmentTxId" "J" (.long 0)) (F_m_nOpenSegmentTxId : Fld Z h0 a "com/example/quorumhelm/quorumhelm/service/JournalState" "m_nOpenSegmentTxId" "J" (.long 0)) (F_m_nWriterEpoch : Fld Z h0 a "com/example/quorumhelm/quorumhelm/service/JournalState" "m_nWriterEpoch" "J" (.long 0)) (F_m_nSilentMillis : Fld Z h0 a "com/example/quorumhelm/quorumhelm/service/JournalState" "m_nSilentMillis" "J" (.long 0)) (g_a : n0 ≤ a) :
    MetFree l (⟨"com/example/quorumhelm/quorumhelm/service/JournalState", "<init>", "(JJJJJJJ)V"⟩ : MethodName) (head1 (Jvm.Cond.code (⟨"com/example/quorumhelm/quorumhelm/service/JournalState", "<init>", "(JJJJJJJ)V"⟩ : MethodName) prog_75_method_1_code 15 none :: ws) ({ frames := 1, cells := 0, slots := 0, locals := 12 } : Room)) (fun ag U => ag = #[(.ref a), (.long q1), (.long q2), (.long q3), (.long q4), (.long q5), (.long q6), (.long q7)] ∧ Z.Warmed39 U.vm ∧ U.heap = h0) (fun _ _ _ _ _ => True) (fun _ U o U' => ∃ v L, o = .returned v ∧ Q_rm1 Z a q1 q2 q3 q4 q5 q6 q7 h0 n0 v U'.heap L ∧ FrameEnd U o U' L ({ frames := 1, cells := 0, slots := 0, locals := 12 } : Room).cells ({ frames := 1, cells := 0, slots := 0, locals := 12 } : Room).slots) := by
  refine MetFree.of_bodySF (plainFor_of_name pn_0) hisR ?_
  intro p e s m args below meth c s₁ Bd hml0 hP hK
  obtain ⟨rfl, hZ, hh⟩ := hP
  have hx := Bd.exec
  have hby := Bd.bytes
  have hml : c.maxLocals = 15 := hml0
  have hown : s.vm.findClass "com/example/quorumhelm/quorumhelm/service/JournalState" = some m.cls := findClass_of_methodNamed Bd.named
  have hnm := (name_of_methodNamed Bd.named Bd.method).1
  have X0 : Stand p l e ({ frames := 1, cells := 0, slots := 0, locals := 12 } : Room) s m #[(.ref a), (.long q1), (.long q2), (.long q3), (.long q4), (.long q5), (.long q6), (.long q7)] below meth c s₁ [] 0 0 := Stand.of_body Bd
  have e0 : s₁.heap = h0 := by rw [← hh, Bd.state]; rfl
  have N0 := Fr.nil n0
  refine own_start (ef_rm1 m a q1 q2 q3 q4 q5 q6 q7) ?_
  intro F hF
  show own_Gl p.tables e below F (s₁.setTop (mkF m 0 #[.val (.ref a), .val (.long q1), .second, .val (.long q2), .second, .val (.long q3), .second, .val (.long q4), .second, .val (.long q5), .second, .val (.long q6), .second, .val (.long q7), .second] []))
  refine own_go (fun _ k => XS.aloadN X0.here hx rfl (hb hby d1_0) rfl rfl k) ?_
  show own_Gl p.tables e below F (s₁.setTop (mkF m 1 #[.val (.ref a), .val (.long q1), .second, .val (.long q2), .second, .val (.long q3), .second, .val (.long q4), .second, .val (.long q5), .second, .val (.long q6), .second, .val (.long q7), .second] [(.ref a)]))
  obtain ⟨T1, X1, e1, st1⟩ := initO X0 hx hZ hown (hw _ (List.mem_of_getElem? (i := 6) rfl)) (hw _ (List.mem_of_getElem? (i := 7) rfl)) (hw _ (List.mem_of_getElem? (i := 8) rfl)) e0 (g := (mkF m 1 #[.val (.ref a), .val (.long q1), .second, .val (.long q2), .second, .val (.long q3), .second, .val (.long q4), .second, .val (.long q5), .second, .val (.long q6), .second, .val (.long q7), .second] [(.ref a)])) rfl (by rw [hml]; rfl) rfl (hb hby d1_1) (by decide) (W := 0) (by show 2 * 0 + _ ≤ _; exact Nat.le_of_eq rfl) (by decide)
  refine own_go st1 ?_
  show own_Gl p.tables e below F (T1.setTop (mkF m 4 #[.val (.ref a), .val (.long q1), .second, .val (.long q2), .second, .val (.long q3), .second, .val (.long q4), .second, .val (.long q5), .second, .val (.long q6), .second, .val (.long q7), .second] []))
  refine own_go (fun _ k => XS.aloadN X1.here hx rfl (hb hby d1_4) rfl rfl k) ?_
  show own_Gl p.tables e below F (T1.setTop (mkF m 5 #[.val (.ref a), .val (.long q1), .second, .val (.long q2), .second, .val (.long q3), .second, .val (.long q4), .second, .val (.long q5), .second, .val (.long q6), .second, .val (.long q7), .second] [(.ref a)]))
  refine own_go (fun _ k => XS.lloadN X1.here hx rfl (hb hby d1_5) rfl k) ?_
  show own_Gl p.tables e below F (T1.setTop (mkF m 6 #[.val (.ref a), .val (.long q1), .second, .val (.long q2), .second, .val (.long q3), .second, .val (.long q4), .second, .val (.long q5), .second, .val (.long q6), .second, .val (.long q7), .second] [(.long q1), (.ref a)]))
  obtain ⟨T2, h2, X2, e2, W2, st2⟩ := putF X1 hx hZ hown (host := "") (Or.inl (hw _ (List.mem_of_getElem? (i := 9) rfl))) Via.refl e1 F_m_nNamespaceId E_a (Or.inr ⟨(hw _ (List.mem_of_getElem? (i := 10) rfl)), rfl, hnm⟩) (hw _ (List.mem_of_getElem? (i := 1) rfl)) (ty := .long) (by decide) rfl rfl (g := (mkF m 6 #[.val (.ref a), .val (.long q1), .second, .val (.long q2), .second, .val (.long q3), .second, .val (.long q4), .second, .val (.long q5), .second, .val (.long q6), .second, .val (.long q7), .second] [(.long q1), (.ref a)])) rfl rfl (hb hby d1_6)
  have Fw2 := F_m_nNamespaceId.same W2
  have f2_1 := E_a.wr W2
  have f2_3 := F_m_nPromisedEpoch.other W2 (Or.inr (slot_ne (Or.inr (hw _ (List.mem_of_getElem? (i := 12) rfl))) (Or.inr (hw _ (List.mem_of_getElem? (i := 10) rfl))) (by decide) (t := .long) (t' := .long) (by decide) (by decide)))
  have f2_4 := F_m_nLastTxId.other W2 (Or.inr (slot_ne (Or.inr (hw _ (List.mem_of_getElem? (i := 14) rfl))) (Or.inr (hw _ (List.mem_of_getElem? (i := 10) rfl))) (by decide) (t := .long) (t' := .long) (by decide) (by decide)))
  have f2_5 := F_m_nLastSegmentTxId.other W2 (Or.inr (slot_ne (Or.inr (hw _ (List.mem_of_getElem? (i := 16) rfl))) (Or.inr (hw _ (List.mem_of_getElem? (i := 10) rfl))) (by decide) (t := .long) (t' := .long) (by decide) (by decide)))
  have f2_6 := F_m_nOpenSegmentTxId.other W2 (Or.inr (slot_ne (Or.inr (hw _ (List.mem_of_getElem? (i := 18) rfl))) (Or.inr (hw _ (List.mem_of_getElem? (i := 10) rfl))) (by decide) (t := .long) (t' := .long) (by decide) (by decide)))
  have f2_7 := F_m_nWriterEpoch.other W2 (Or.inr (slot_ne (Or.inr (hw _ (List.mem_of_getElem? (i := 20) rfl))) (Or.inr (hw _ (List.mem_of_getElem? (i := 10) rfl))) (by decide) (t := .long) (t' := .long) (by decide) (by decide)))
  have f2_8 := F_m_nSilentMillis.other W2 (Or.inr (slot_ne (Or.inr (hw _ (List.mem_of_getElem? (i := 22) rfl))) (Or.inr (hw _ (List.mem_of_getElem? (i := 10) rfl))) (by decide) (t := .long) (t' := .long) (by decide) (by decide)))
  have Z2 : n0 ≤ h2.size := by rw [W2.size]; exact Z0
  have K2 := Keep.wr (Keep.refl h0 [a]) W2 (Or.inl (by simp))
  have N2 := Fr.snoc X2 N0 g_a
  refine own_go st2 ?_
  show own_Gl p.tables e below F (T2.setTop (mkF m 9 #[.val (.ref a), .val (.long q1), .second, .val (.long q2), .second, .val (.long q3), .second, .val (.long q4), .second, .val (.long q5), .second, .val (.long q6), .second, .val (.long q7), .second] []))
  refine own_go (fun _ k => XS.aloadN X2.here hx rfl (hb hby d1_9) rfl rfl k) ?_
  show own_Gl p.tables e below F (T2.setTop (mkF m 10 #[.val (.ref a), .val (.long q1), .second, .val (.long q2), .second, .val (.long q3), .second, .val (.long q4), .second, .val (.long q5), .second, .val (.long q6), .second, .val (.long q7), .second] [(.ref a)]))
  refine own_go (fun _ k => XS.lloadN X2.here hx rfl (hb hby d1_10) rfl k) ?_
  show own_Gl p.tables e below F (T2.setTop (mkF m 11 #[.val (.ref a), .val (.long q1), .second, .val (.long q2), .second, .val (.long q3), .second, .val (.long q4), .second, .val (.long q5), .second, .val (.long q6), .second, .val (.long q7), .second] [(.long q2), (.ref a)]))
  obtain ⟨T3, h3, X3, e3, W3, st3⟩ := putF X2 hx hZ hown (host := "") (Or.inl (hw _ (List.mem_of_getElem? (i := 11) rfl))) Via.refl e2 f2_3 f2_1 (Or.inr ⟨(hw _ (List.mem_of_getElem? (i := 12) rfl)), rfl, hnm⟩) (hw _ (List.mem_of_getElem? (i := 1) rfl)) (ty := .long) (by decide) rfl rfl (g := (mkF m 11 #[.val (.ref a), .val (.long q1), .second, .val (.long q2), .second, .val (.long q3), .second, .val (.long q4), .second, .val (.long q5), .second, .val (.long q6), .second, .val (.long q7), .second] [(.long q2), (.ref a)])) rfl rfl (hb hby d1_11)
  have Fw3 := f2_3.same W3
  have f3_1 := f2_1.wr W3
  have f3_2 := Fw2.other W3 (Or.inr (slot_ne (Or.inr (hw _ (List.mem_of_getElem? (i := 10) rfl))) (Or.inr (hw _ (List.mem_of_getElem? (i := 12) rfl))) (by decide) (t := .long) (t' := .long) (by decide) (by decide)))
  have f3_4 := f2_4.other W3 (Or.inr (slot_ne (Or.inr (hw _ (List.mem_of_getElem? (i := 14) rfl))) (Or.inr (hw _ (List.mem_of_getElem? (i := 12) rfl))) (by decide) (t := .long) (t' := .long) (by decide) (by decide)))
  have f3_5 := f2_5.other W3 (Or.inr (slot_ne (Or.inr (hw _ (List.mem_of_getElem? (i := 16) rfl))) (Or.inr (hw _ (List.mem_of_getElem? (i := 12) rfl))) (by decide) (t := .long) (t' := .long) (by decide) (by decide)))
  have f3_6 := f2_6.other W3 (Or.inr (slot_ne (Or.inr (hw _ (List.mem_of_getElem? (i := 18) rfl))) (Or.inr (hw _ (List.mem_of_getElem? (i := 12) rfl))) (by decide) (t := .long) (t' := .long) (by decide) (by decide)))
  have f3_7 := f2_7.other W3 (Or.inr (slot_ne (Or.inr (hw _ (List.mem_of_getElem? (i := 20) rfl))) (Or.inr (hw _ (List.mem_of_getElem? (i := 12) rfl))) (by decide) (t := .long) (t' := .long) (by decide) (by decide)))
  have f3_8 := f2_8.other W3 (Or.inr (slot_ne (Or.inr (hw _ (List.mem_of_getElem? (i := 22) rfl))) (Or.inr (hw _ (List.mem_of_getElem? (i := 12) rfl))) (by decide) (t := .long) (t' := .long) (by decide) (by decide)))
  have Z3 : n0 ≤ h3.size := by rw [W3.size]; exact Z2
  have K3 := Keep.wr K2 W3 (Or.inl (by simp))
  have N3 := Fr.snoc X3 N2 g_a
  refine own_go st3 ?_
  show own_Gl p.tables e below F (T3.setTop (mkF m 14 #[.val (.ref a), .val (.long q1), .second, .val (.long q2), .second, .val (.long q3), .second, .val (.long q4), .second, .val (.long q5), .second, .val (.long q6), .second, .val (.long q7), .second] []))
  refine own_go (fun _ k => XS.aloadN X3.here hx rfl (hb hby d1_14) rfl rfl k) ?_
  show own_Gl p.tables e below F (T3.setTop (mkF m 15 #[.val (.ref a), .val (.long q1), .second, .val (.long q2), .second, .val (.long q3), .second, .val (.long q4), .second, .val (.long q5), .second, .val (.long q6), .second, .val (.long q7), .second] [(.ref a)]))
  refine own_go (fun _ k => XS.lload X3.here hx rfl (hb hby d1_15) rfl k) ?_
  show own_Gl p.tables e below F (T3.setTop (mkF m 17 #[.val (.ref a), .val (.long q1), .second, .val (.long q2), .second, .val (.long q3), .second, .val (.long q4), .second, .val (.long q5), .second, .val (.long q6), .second, .val (.long q7), .second] [(.long q3), (.ref a)]))
  obtain ⟨T4, h4, X4, e4, W4, st4⟩ := putF X3 hx hZ hown (host := "") (Or.inl (hw _ (List.mem_of_getElem? (i := 13) rfl))) Via.refl e3 f3_4 f3_1 (Or.inr ⟨(hw _ (List.mem_of_getElem? (i := 14) rfl)), rfl, hnm⟩) (hw _ (List.mem_of_getElem? (i := 1) rfl)) (ty := .long) (by decide) rfl rfl (g := (mkF m 17 #[.val (.ref a), .val (.long q1), .second, .val (.long q2), .second, .val (.long q3), .second, .val (.long q4), .second, .val (.long q5), .second, .val (.long q6), .second, .val (.long q7), .second] [(.long q3), (.ref a)])) rfl rfl (hb hby d1_17)
  have Fw4 := f3_4.same W4
  have f4_1 := f3_1.wr W4
  have f4_2 := f3_2.other W4 (Or.inr (slot_ne (Or.inr (hw _ (List.mem_of_getElem? (i := 10) rfl))) (Or.inr (hw _ (List.mem_of_getElem? (i := 14) rfl))) (by decide) (t := .long) (t' := .long) (by decide) (by decide)))
  have f4_3 := Fw3.other W4 (Or.inr (slot_ne (Or.inr (hw _ (List.mem_of_getElem? (i := 12) rfl))) (Or.inr (hw _ (List.mem_of_getElem? (i := 14) rfl))) (by decide) (t := .long) (t' := .long) (by decide) (by decide)))
  have f4_5 := f3_5.other W4 (Or.inr (slot_ne (Or.inr (hw _ (List.mem_of_getElem? (i := 16) rfl))) (Or.inr (hw _ (List.mem_of_getElem? (i := 14) rfl))) (by decide) (t := .long) (t' := .long) (by decide) (by decide)))
  have f4_6 := f3_6.other W4 (Or.inr (slot_ne (Or.inr (hw _ (List.mem_of_getElem? (i := 18) rfl))) (Or.inr (hw _ (List.mem_of_getElem? (i := 14) rfl))) (by decide) (t := .long) (t' := .long) (by decide) (by decide)))
  have f4_7 := f3_7.other W4 (Or.inr (slot_ne (Or.inr (hw _ (List.mem_of_getElem? (i := 20) rfl))) (Or.inr (hw _ (List.mem_of_getElem? (i := 14) rfl))) (by decide) (t := .long) (t' := .long) (by decide) (by decide)))
  have f4_8 := f3_8.other W4 (Or.inr (slot_ne (Or.inr (hw _ (List.mem_of_getElem? (i := 22) rfl))) (Or.inr (hw _ (List.mem_of_getElem? (i := 14) rfl))) (by decide) (t := .long) (t' := .long) (by decide) (by decide)))
  have Z4 : n0 ≤ h4.size := by rw [W4.size]; exact Z3
  have K4 := Keep.wr K3 W4 (Or.inl (by simp))
  have N4 := Fr.snoc X4 N3 g_a
  refine own_go st4 ?_
  show own_Gl p.tables e below F (T4.setTop (mkF m 20 #[.val (.ref a), .val (.long q1), .second, .val (.long q2), .second, .val (.long q3), .second, .val (.long q4), .second, .val (.long q5), .second, .val (.long q6), .second, .val (.long q7), .second] []))
  refine own_go (fun _ k => XS.aloadN X4.here hx rfl (hb hby d1_20) rfl rfl k) ?_
  show own_Gl p.tables e below F (T4.setTop (mkF m 21 #[.val (.ref a), .val (.long q1), .second, .val (.long q2), .second, .val (.long q3), .second, .val (.long q4), .second, .val (.long q5), .second, .val (.long q6), .second, .val (.long q7), .second] [(.ref a)]))
  refine own_go (fun _ k => XS.lload X4.here hx rfl (hb hby d1_21) rfl k) ?_
  show own_Gl p.tables e below F (T4.setTop (mkF m 23 #[.val (.ref a), .val (.long q1), .second, .val (.long q2), .second, .val (.long q3), .second, .val (.long q4), .second, .val (.long q5), .second, .val (.long q6), .second, .val (.long q7), .second] [(.long q4), (.ref a)]))
  obtain ⟨T5, h5, X5, e5, W5, st5⟩ := putF X4 hx hZ hown (host := "") (Or.inl (hw _ (List.mem_of_getElem? (i := 15) rfl))) Via.refl e4 f4_5 f4_1 (Or.inr ⟨(hw _ (List.mem_of_getElem? (i := 16) rfl)), rfl, hnm⟩) (hw _ (List.mem_of_getElem? (i := 1) rfl)) (ty := .long) (by decide) rfl rfl (g := (mkF m 23 #[.val (.ref a), .val (.long q1), .second, .val (.long q2), .second, .val (.long q3), .second, .val (.long q4), .second, .val (.long q5), .second, .val (.long q6), .second, .val (.long q7), .second] [(.long q4), (.ref a)])) rfl rfl (hb hby d1_23)
  have Fw5 := f4_5.same W5
  have f5_1 := f4_1.wr W5
  have f5_2 := f4_2.other W5 (Or.inr (slot_ne (Or.inr (hw _ (List.mem_of_getElem? (i := 10) rfl))) (Or.inr (hw _ (List.mem_of_getElem? (i := 16) rfl))) (by decide) (t := .long) (t' := .long) (by decide) (by decide)))
  have f5_3 := f4_3.other W5 (Or.inr (slot_ne (Or.inr (hw _ (List.mem_of_getElem? (i := 12) rfl))) (Or.inr (hw _ (List.mem_of_getElem? (i := 16) rfl))) (by decide) (t := .long) (t' := .long) (by decide) (by decide)))
  have f5_4 := Fw4.other W5 (Or.inr (slot_ne (Or.inr (hw _ (List.mem_of_getElem? (i := 14) rfl))) (Or.inr (hw _ (List.mem_of_getElem? (i := 16) rfl))) (by decide) (t := .long) (t' := .long) (by decide) (by decide)))
  have f5_6 := f4_6.other W5 (Or.inr (slot_ne (Or.inr (hw _ (List.mem_of_getElem? (i := 18) rfl))) (Or.inr (hw _ (List.mem_of_getElem? (i := 16) rfl))) (by decide) (t := .long) (t' := .long) (by decide) (by decide)))
  have f5_7 := f4_7.other W5 (Or.inr (slot_ne (Or.inr (hw _ (List.mem_of_getElem? (i := 20) rfl))) (Or.inr (hw _ (List.mem_of_getElem? (i := 16) rfl))) (by decide) (t := .long) (t' := .long) (by decide) (by decide)))
  have f5_8 := f4_8.other W5 (Or.inr (slot_ne (Or.inr (hw _ (List.mem_of_getElem? (i := 22) rfl))) (Or.inr (hw _ (List.mem_of_getElem? (i := 16) rfl))) (by decide) (t := .long) (t' := .long) (by decide) (by decide)))
  have Z5 : n0 ≤ h5.size := by rw [W5.size]; exact Z4
  have K5 := Keep.wr K4 W5 (Or.inl (by simp))
  have N5 := Fr.snoc X5 N4 g_a
  refine own_go st5 ?_
  show own_Gl p.tables e below F (T5.setTop (mkF m 26 #[.val (.ref a), .val (.long q1), .second, .val (.long q2), .second, .val (.long q3), .second, .val (.long q4), .second, .val (.long q5), .second, .val (.long q6), .second, .val (.long q7), .second] []))
  refine own_go (fun _ k => XS.aloadN X5.here hx rfl (hb hby d1_26) rfl rfl k) ?_
  show own_Gl p.tables e below F (T5.setTop (mkF m 27 #[.val (.ref a), .val (.long q1), .second, .val (.long q2), .second, .val (.long q3), .second, .val (.long q4), .second, .val (.long q5), .second, .val (.long q6), .second, .val (.long q7), .second] [(.ref a)]))
  refine own_go (fun _ k => XS.lload X5.here hx rfl (hb hby d1_27) rfl k) ?_
  show own_Gl p.tables e below F (T5.setTop (mkF m 29 #[.val (.ref a), .val (.long q1), .second, .val (.long q2), .second, .val (.long q3), .second, .val (.long q4), .second, .val (.long q5), .second, .val (.long q6), .second, .val (.long q7), .second] [(.long q5), (.ref a)]))
  obtain ⟨T6, h6, X6, e6, W6, st6⟩ := putF X5 hx hZ hown (host := "") (Or.inl (hw _ (List.mem_of_getElem? (i := 17) rfl))) Via.refl e5 f5_6 f5_1 (Or.inr ⟨(hw _ (List.mem_of_getElem? (i := 18) rfl)), rfl, hnm⟩) (hw _ (List.mem_of_getElem? (i := 1) rfl)) (ty := .long) (by decide) rfl rfl (g := (mkF m 29 #[.val (.ref a), .val (.long q1), .second, .val (.long q2), .second, .val (.long q3), .second, .val (.long q4), .second, .val (.long q5), .second, .val (.long q6), .second, .val (.long q7), .second] [(.long q5), (.ref a)])) rfl rfl (hb hby d1_29)
  have Fw6 := f5_6.same W6
  have f6_1 := f5_1.wr W6
  have f6_2 := f5_2.other W6 (Or.inr (slot_ne (Or.inr (hw _ (List.mem_of_getElem? (i := 10) rfl))) (Or.inr (hw _ (List.mem_of_getElem? (i := 18) rfl))) (by decide) (t := .long) (t' := .long) (by decide) (by decide)))
  have f6_3 := f5_3.other W6 (Or.inr (slot_ne (Or.inr (hw _ (List.mem_of_getElem? (i := 12) rfl))) (Or.inr (hw _ (List.mem_of_getElem? (i := 18) rfl))) (by decide) (t := .long) (t' := .long) (by decide) (by decide)))
  have f6_4 := f5_4.other W6 (Or.inr (slot_ne (Or.inr (hw _ (List.mem_of_getElem? (i := 14) rfl))) (Or.inr (hw _ (List.mem_of_getElem? (i := 18) rfl))) (by decide) (t := .long) (t' := .long) (by decide) (by decide)))
  have f6_5 := Fw5.other W6 (Or.inr (slot_ne (Or.inr (hw _ (List.mem_of_getElem? (i := 16) rfl))) (Or.inr (hw _ (List.mem_of_getElem? (i := 18) rfl))) (by decide) (t := .long) (t' := .long) (by decide) (by decide)))
  have f6_7 := f5_7.other W6 (Or.inr (slot_ne (Or.inr (hw _ (List.mem_of_getElem? (i := 20) rfl))) (Or.inr (hw _ (List.mem_of_getElem? (i := 18) rfl))) (by decide) (t := .long) (t' := .long) (by decide) (by decide)))
  have f6_8 := f5_8.other W6 (Or.inr (slot_ne (Or.inr (hw _ (List.mem_of_getElem? (i := 22) rfl))) (Or.inr (hw _ (List.mem_of_getElem? (i := 18) rfl))) (by decide) (t := .long) (t' := .long) (by decide) (by decide)))
  have Z6 : n0 ≤ h6.size := by rw [W6.size]; exact Z5
  have K6 := Keep.wr K5 W6 (Or.inl (by simp))
  have N6 := Fr.snoc X6 N5 g_a
  refine own_go st6 ?_
  show own_Gl p.tables e below F (T6.setTop (mkF m 32 #[.val (.ref a), .val (.long q1), .second, .val (.long q2), .second, .val (.long q3), .second, .val (.long q4), .second, .val (.long q5), .second, .val (.long q6), .second, .val (.long q7), .second] []))
  refine own_go (fun _ k => XS.aloadN X6.here hx rfl (hb hby d1_32) rfl rfl k) ?_
  show own_Gl p.tables e below F (T6.setTop (mkF m 33 #[.val (.ref a), .val (.long q1), .second, .val (.long q2), .second, .val (.long q3), .second, .val (.long q4), .second, .val (.long q5), .second, .val (.long q6), .second, .val (.long q7), .second] [(.ref a)]))
  refine own_go (fun _ k => XS.lload X6.here hx rfl (hb hby d1_33) rfl k) ?_
  show own_Gl p.tables e below F (T6.setTop (mkF m 35 #[.val (.ref a), .val (.long q1), .second, .val (.long q2), .second, .val (.long q3), .second, .val (.long q4), .second, .val (.long q5), .second, .val (.long q6), .second, .val (.long q7), .second] [(.long q6), (.ref a)]))
  obtain ⟨T7, h7, X7, e7, W7, st7⟩ := putF X6 hx hZ hown (host := "") (Or.inl (hw _ (List.mem_of_getElem? (i := 19) rfl))) Via.refl e6 f6_7 f6_1 (Or.inr ⟨(hw _ (List.mem_of_getElem? (i := 20) rfl)), rfl, hnm⟩) (hw _ (List.mem_of_getElem? (i := 1) rfl)) (ty := .long) (by decide) rfl rfl (g := (mkF m 35 #[.val (.ref a), .val (.long q1), .second, .val (.long q2), .second, .val (.long q3), .second, .val (.long q4), .second, .val (.long q5), .second, .val (.long q6), .second, .val (.long q7), .second] [(.long q6), (.ref a)])) rfl rfl (hb hby d1_35)
  have Fw7 := f6_7.same W7
  have f7_1 := f6_1.wr W7
  have f7_2 := f6_2.other W7 (Or.inr (slot_ne (Or.inr (hw _ (List.mem_of_getElem? (i := 10) rfl))) (Or.inr (hw _ (List.mem_of_getElem? (i := 20) rfl))) (by decide) (t := .long) (t' := .long) (by decide) (by decide)))
  have f7_3 := f6_3.other W7 (Or.inr (slot_ne (Or.inr (hw _ (List.mem_of_getElem? (i := 12) rfl))) (Or.inr (hw _ (List.mem_of_getElem? (i := 20) rfl))) (by decide) (t := .long) (t' := .long) (by decide) (by decide)))
  have f7_4 := f6_4.other W7 (Or.inr (slot_ne (Or.inr (hw _ (List.mem_of_getElem? (i := 14) rfl))) (Or.inr (hw _ (List.mem_of_getElem? (i := 20) rfl))) (by decide) (t := .long) (t' := .long) (by decide) (by decide)))
  have f7_5 := f6_5.other W7 (Or.inr (slot_ne (Or.inr (hw _ (List.mem_of_getElem? (i := 16) rfl))) (Or.inr (hw _ (List.mem_of_getElem? (i := 20) rfl))) (by decide) (t := .long) (t' := .long) (by decide) (by decide)))
  have f7_6 := Fw6.other W7 (Or.inr (slot_ne (Or.inr (hw _ (List.mem_of_getElem? (i := 18) rfl))) (Or.inr (hw _ (List.mem_of_getElem? (i := 20) rfl))) (by decide) (t := .long) (t' := .long) (by decide) (by decide)))
  have f7_8 := f6_8.other W7 (Or.inr (slot_ne (Or.inr (hw _ (List.mem_of_getElem? (i := 22) rfl))) (Or.inr (hw _ (List.mem_of_getElem? (i := 20) rfl))) (by decide) (t := .long) (t' := .long) (by decide) (by decide)))
  have Z7 : n0 ≤ h7.size := by rw [W7.size]; exact Z6
  have K7 := Keep.wr K6 W7 (Or.inl (by simp))
  have N7 := Fr.snoc X7 N6 g_a
  refine own_go st7 ?_
  show own_Gl p.tables e below F (T7.setTop (mkF m 38 #[.val (.ref a), .val (.long q1), .second, .val (.long q2), .second, .val (.long q3), .second, .val (.long q4), .second, .val (.long q5), .second, .val (.long q6), .second, .val (.long q7), .second] []))
  refine own_go (fun _ k => XS.aloadN X7.here hx rfl (hb hby d1_38) rfl rfl k) ?_
  show own_Gl p.tables e below F (T7.setTop (mkF m 39 #[.val (.ref a), .val (.long q1), .second, .val (.long q2), .second, .val (.long q3), .second, .val (.long q4), .second, .val (.long q5), .second, .val (.long q6), .second, .val (.long q7), .second] [(.ref a)]))
  refine own_go (fun _ k => XS.lload X7.here hx rfl (hb hby d1_39) rfl k) ?_
  show own_Gl p.tables e below F (T7.setTop (mkF m 41 #[.val (.ref a), .val (.long q1), .second, .val (.long q2), .second, .val (.long q3), .second, .val (.long q4), .second, .val (.long q5), .second, .val (.long q6), .second, .val (.long q7), .second] [(.long q7), (.ref a)]))
  obtain ⟨T8, h8, X8, e8, W8, st8⟩ := putF X7 hx hZ hown (host := "") (Or.inl (hw _ (List.mem_of_getElem? (i := 21) rfl))) Via.refl e7 f7_8 f7_1 (Or.inr ⟨(hw _ (List.mem_of_getElem? (i := 22) rfl)), rfl, hnm⟩) (hw _ (List.mem_of_getElem? (i := 1) rfl)) (ty := .long) (by decide) rfl rfl (g := (mkF m 41 #[.val (.ref a), .val (.long q1), .second, .val (.long q2), .second, .val (.long q3), .second, .val (.long q4), .second, .val (.long q5), .second, .val (.long q6), .second, .val (.long q7), .second] [(.long q7), (.ref a)])) rfl rfl (hb hby d1_41)
  have Fw8 := f7_8.same W8
  have f8_1 := f7_1.wr W8
  have f8_2 := f7_2.other W8 (Or.inr (slot_ne (Or.inr (hw _ (List.mem_of_getElem? (i := 10) rfl))) (Or.inr (hw _ (List.mem_of_getElem? (i := 22) rfl))) (by decide) (t := .long) (t' := .long) (by decide) (by decide)))
  have f8_3 := f7_3.other W8 (Or.inr (slot_ne (Or.inr (hw _ (List.mem_of_getElem? (i := 12) rfl))) (Or.inr (hw _ (List.mem_of_getElem? (i := 22) rfl))) (by decide) (t := .long) (t' := .long) (by decide) (by decide)))
  have f8_4 := f7_4.other W8 (Or.inr (slot_ne (Or.inr (hw _ (List.mem_of_getElem? (i := 14) rfl))) (Or.inr (hw _ (List.mem_of_getElem? (i := 22) rfl))) (by decide) (t := .long) (t' := .long) (by decide) (by decide)))
  have f8_5 := f7_5.other W8 (Or.inr (slot_ne (Or.inr (hw _ (List.mem_of_getElem? (i := 16) rfl))) (Or.inr (hw _ (List.mem_of_getElem? (i := 22) rfl))) (by decide) (t := .long) (t' := .long) (by decide) (by decide)))
  have f8_6 := f7_6.other W8 (Or.inr (slot_ne (Or.inr (hw _ (List.mem_of_getElem? (i := 18) rfl))) (Or.inr (hw _ (List.mem_of_getElem? (i := 22) rfl))) (by decide) (t := .long) (t' := .long) (by decide) (by decide)))
  have f8_7 := Fw7.other W8 (Or.inr (slot_ne (Or.inr (hw _ (List.mem_of_getElem? (i := 20) rfl))) (Or.inr (hw _ (List.mem_of_getElem? (i := 22) rfl))) (by decide) (t := .long) (t' := .long) (by decide) (by decide)))
  have Z8 : n0 ≤ h8.size := by rw [W8.size]; exact Z7
  have K8 := Keep.wr K7 W8 (Or.inl (by simp))
  have N8 := Fr.snoc X8 N7 g_a
  refine own_go st8 ?_
  show own_Gl p.tables e below F (T8.setTop (mkF m 44 #[.val (.ref a), .val (.long q1), .second, .val (.long q2), .second, .val (.long q3), .second, .val (.long q4), .second, .val (.long q5), .second, .val (.long q6), .second, .val (.long q7), .second] []))
  obtain ⟨fs, hr, hrun, hended, hW, hsame⟩ := X8.leave (v := none) (fun _ => rfl)
  subst hF
  refine own_fin ?_ ⟨hrun, hended, _, _, rfl, ?_, ⟨_, rfl⟩, hW, hsame.mono (by first | decide | exact Nat.le_of_ble_eq_true rfl) (by first | decide | exact Nat.le_of_ble_eq_true rfl)⟩
  · exact X8.returnOut hx Bd.returns (hb hby d1_44) hr
  · show Q_rm1 Z a q1 q2 q3 q4 q5 q6 q7 h0 n0 _ T8.heap _
    rw [e8]
    exact ⟨rfl, N8, K8, f8_1, f8_2, f8_3, f8_4, f8_5, f8_6, f8_7, Fw8⟩
theorem ef_rm3 (m : MethodId) (x0 : Addr) : entryFrame m #[(.ref x0)] 1 = mkF m 0 #[.val (.ref x0)] [] := by first | (simp [entryFrame, mkF, argsToLocals, Value.category]; done) | rfl
theorem d3_0 : decode prog_75_method_9_code 0 = .ok (.aload_n 0, 1) := by decide +kernel
theorem d3_1 : decode prog_75_method_9_code 1 = .ok (.getfield 22, 3) := by decide +kernel
theorem d3_4 : decode prog_75_method_9_code 4 = .ok (.lconst 0, 1) := by decide +kernel
theorem d3_5 : decode prog_75_method_9_code 5 = .ok (.lcmp, 1) := by decide +kernel
theorem d3_6 : decode prog_75_method_9_code 6 = .ok (.ifCond .eq 19, 3) := by decide +kernel
theorem d3_25 : decode prog_75_method_9_code 25 = .ok (.iconst 0, 1) := by decide +kernel
theorem d3_26 : decode prog_75_method_9_code 26 = .ok (.ireturn, 1) := by decide +kernel
theorem d3_9 : decode prog_75_method_9_code 9 = .ok (.aload_n 0, 1) := by decide +kernel
theorem d3_10 : decode prog_75_method_9_code 10 = .ok (.getfield 22, 3) := by decide +kernel
theorem d3_13 : decode prog_75_method_9_code 13 = .ok (.aload_n 0, 1) := by decide +kernel
theorem d3_14 : decode prog_75_method_9_code 14 = .ok (.getfield 19, 3) := by decide +kernel
theorem d3_17 : decode prog_75_method_9_code 17 = .ok (.lcmp, 1) := by decide +kernel
theorem d3_18 : decode prog_75_method_9_code 18 = .ok (.ifCond .ne 7, 3) := by decide +kernel
theorem d3_21 : decode prog_75_method_9_code 21 = .ok (.iconst 1, 1) := by decide +kernel
theorem d3_22 : decode prog_75_method_9_code 22 = .ok (.goto 4, 3) := by decide +kernel
def Q_rm3 (Z : State) (a : Addr) (jo jl : Int64) (h0 : Heap) (n0 : Nat) (v : Option Value) (h : Heap) (L : List Loc) : Prop := v = some (.int (own_o jo jl)) ∧ Fr n0 L ∧ h = h0
set_option maxRecDepth 65536 in
set_option maxHeartbeats 40000000 in
theorem rm3 (l : Launch) (Z : State) (a0 : Array Value) (hw : ∀ d ∈ tables_1, d.before a0 Z = true) (ws : List Jvm.Cond) (a : Addr) (jo jl : Int64) (h0 : Heap) (n0 : Nat) (Z0 : n0 ≤ h0.size) (F1 : Fld Z h0 a "com/example/quorumhelm/quorumhelm/service/JournalState" "m_nOpenSegmentTxId" "J" (.long jo)) (F2 : Fld Z h0 a "com/example/quorumhelm/quorumhelm/service/JournalState" "m_nLastSegmentTxId" "J" (.long jl)) :
    MetFree l (⟨"com/example/quorumhelm/quorumhelm/service/JournalState", "isLastSegmentOpen", "()Z"⟩ : MethodName) (head1 (Jvm.Cond.code (⟨"com/example/quorumhelm/quorumhelm/service/JournalState", "isLastSegmentOpen", "()Z"⟩ : MethodName) prog_75_method_9_code 1 (some .boolean) :: ws) ({ frames := 0, cells := 0, slots := 0, locals := 0 } : Room)) (fun ag U => ag = #[(.ref a)] ∧ Z.Warmed39 U.vm ∧ U.heap = h0) (fun _ _ _ _ _ => True) (fun _ U o U' => ∃ v L, o = .returned v ∧ Q_rm3 Z a jo jl h0 n0 v U'.heap L ∧ FrameEnd U o U' L ({ frames := 0, cells := 0, slots := 0, locals := 0 } : Room).cells ({ frames := 0, cells := 0, slots := 0, locals := 0 } : Room).slots) := by
  refine MetFree.of_bodySF (plainFor_of_name pn_0) hisR ?_
  intro p e s m args below meth c s₁ Bd hml0 hP hK
  obtain ⟨rfl, hZ, hh⟩ := hP
  have hx := Bd.exec
  have hby := Bd.bytes
  have hml : c.maxLocals = 1 := hml0
  have hown : s.vm.findClass "com/example/quorumhelm/quorumhelm/service/JournalState" = some m.cls := findClass_of_methodNamed Bd.named
  have hnm := (name_of_methodNamed Bd.named Bd.method).1
  have X0 : Stand p l e ({ frames := 0, cells := 0, slots := 0, locals := 0 } : Room) s m #[(.ref a)] below meth c s₁ [] 0 0 := Stand.of_body Bd
  have e0 : s₁.heap = h0 := by rw [← hh, Bd.state]; rfl
  have N0 := Fr.nil n0
  refine own_start (ef_rm3 m a) ?_
  intro F hF
  show own_Gl p.tables e below F (s₁.setTop (mkF m 0 #[.val (.ref a)] []))
  refine own_go (fun _ k => XS.aloadN X0.here hx rfl (hb hby d3_0) rfl rfl k) ?_
  show own_Gl p.tables e below F (s₁.setTop (mkF m 1 #[.val (.ref a)] [(.ref a)]))
  obtain ⟨T1, X1, e1, st1⟩ := getF X0 hx hZ hown (host := "") (Or.inl (hw _ (List.mem_of_getElem? (i := 17) rfl))) Via.refl e0 F1 (g := (mkF m 1 #[.val (.ref a)] [(.ref a)])) rfl rfl (hb hby d3_1)
  refine own_go st1 ?_
  show own_Gl p.tables e below F (T1.setTop (mkF m 4 #[.val (.ref a)] [(.long jo)]))
  refine own_go (fun _ k => XS.lconst X1.here hx rfl (hb hby d3_4) k) ?_
  show own_Gl p.tables e below F (T1.setTop (mkF m 5 #[.val (.ref a)] [(.long (0 : Int64)), (.long jo)]))
  refine own_go (fun _ k => XS.lcmp X1.here hx rfl (hb hby d3_5) rfl k) ?_
  show own_Gl p.tables e below F (T1.setTop (mkF m 6 #[.val (.ref a)] [(.int (XT.cmpL jo (0 : Int64)))]))
  by_cases h1 : jo = 0
  · refine own_go (fun _ k => XS.ifYes X1.here hx rfl (pc0 := 6) (pc' := 25) rfl (hb hby d3_6) rfl (XT.ll_eq_t (by assumption)) (by decide) (by decide) k) ?_
    show own_Gl p.tables e below F (T1.setTop (mkF m 25 #[.val (.ref a)] []))
    refine own_go (fun _ k => XS.iconst X1.here hx rfl (hb hby d3_25) k) ?_
    show own_Gl p.tables e below F (T1.setTop (mkF m 26 #[.val (.ref a)] [(.int (0 : Int32))]))
    obtain ⟨fs, hr, hrun, hended, hW, hsame⟩ := X1.leave (v := some (.int (0 : Int32))) (fun h => by rw [Bd.returns] at h; cases h)
    subst hF
    refine own_fin ?_ ⟨hrun, hended, _, _, rfl, ?_, ⟨_, rfl⟩, hW, hsame.mono (by first | decide | exact Nat.le_of_ble_eq_true rfl) (by first | decide | exact Nat.le_of_ble_eq_true rfl)⟩
    · exact own_retN X1 hx (t := .boolean) Bd.returns (by simp) rfl (hb hby d3_26) hr
    · show Q_rm3 Z a jo jl h0 n0 _ T1.heap _
      rw [e1]
      exact ⟨by simp [own_o, h1], N0, rfl⟩
  · refine own_go (fun _ k => XS.ifNo X1.here hx rfl (hb hby d3_6) rfl (XT.ll_eq_f (by assumption)) k) ?_
    show own_Gl p.tables e below F (T1.setTop (mkF m 9 #[.val (.ref a)] []))
    refine own_go (fun _ k => XS.aloadN X1.here hx rfl (hb hby d3_9) rfl rfl k) ?_
    show own_Gl p.tables e below F (T1.setTop (mkF m 10 #[.val (.ref a)] [(.ref a)]))
    obtain ⟨T2, X2, e2, st2⟩ := getF X1 hx hZ hown (host := "") (Or.inl (hw _ (List.mem_of_getElem? (i := 17) rfl))) Via.refl e1 F1 (g := (mkF m 10 #[.val (.ref a)] [(.ref a)])) rfl rfl (hb hby d3_10)
    refine own_go st2 ?_
    show own_Gl p.tables e below F (T2.setTop (mkF m 13 #[.val (.ref a)] [(.long jo)]))
    refine own_go (fun _ k => XS.aloadN X2.here hx rfl (hb hby d3_13) rfl rfl k) ?_
    show own_Gl p.tables e below F (T2.setTop (mkF m 14 #[.val (.ref a)] [(.ref a), (.long jo)]))
    obtain ⟨T3, X3, e3, st3⟩ := getF X2 hx hZ hown (host := "") (Or.inl (hw _ (List.mem_of_getElem? (i := 15) rfl))) Via.refl e2 F2 (g := (mkF m 14 #[.val (.ref a)] [(.ref a), (.long jo)])) rfl rfl (hb hby d3_14)
    refine own_go st3 ?_
    show own_Gl p.tables e below F (T3.setTop (mkF m 17 #[.val (.ref a)] [(.long jl), (.long jo)]))
    refine own_go (fun _ k => XS.lcmp X3.here hx rfl (hb hby d3_17) rfl k) ?_
    show own_Gl p.tables e below F (T3.setTop (mkF m 18 #[.val (.ref a)] [(.int (XT.cmpL jo jl))]))
    by_cases h2 : jo = jl
    · refine own_go (fun _ k => XS.ifNo X3.here hx rfl (hb hby d3_18) rfl (XT.ll_ne_f (by assumption)) k) ?_
      show own_Gl p.tables e below F (T3.setTop (mkF m 21 #[.val (.ref a)] []))
      refine own_go (fun _ k => XS.iconst X3.here hx rfl (hb hby d3_21) k) ?_
      show own_Gl p.tables e below F (T3.setTop (mkF m 22 #[.val (.ref a)] [(.int (1 : Int32))]))
      refine own_go (fun _ k => XS.goto X3.here hx rfl (pc0 := 22) (pc' := 26) rfl (hb hby d3_22) (by decide) (by decide) k) ?_
      show own_Gl p.tables e below F (T3.setTop (mkF m 26 #[.val (.ref a)] [(.int (1 : Int32))]))
      obtain ⟨fs, hr, hrun, hended, hW, hsame⟩ := X3.leave (v := some (.int (1 : Int32))) (fun h => by rw [Bd.returns] at h; cases h)
      subst hF
      refine own_fin ?_ ⟨hrun, hended, _, _, rfl, ?_, ⟨_, rfl⟩, hW, hsame.mono (by first | decide | exact Nat.le_of_ble_eq_true rfl) (by first | decide | exact Nat.le_of_ble_eq_true rfl)⟩
      · exact own_retN X3 hx (t := .boolean) Bd.returns (by simp) rfl (hb hby d3_26) hr
      · show Q_rm3 Z a jo jl h0 n0 _ T3.heap _
        rw [e3]
        exact ⟨by rw [own_o, if_neg h1, if_pos h2], N0, rfl⟩
    · refine own_go (fun _ k => XS.ifYes X3.here hx rfl (pc0 := 18) (pc' := 25) rfl (hb hby d3_18) rfl (XT.ll_ne_t (by assumption)) (by decide) (by decide) k) ?_
      show own_Gl p.tables e below F (T3.setTop (mkF m 25 #[.val (.ref a)] []))
      refine own_go (fun _ k => XS.iconst X3.here hx rfl (hb hby d3_25) k) ?_
      show own_Gl p.tables e below F (T3.setTop (mkF m 26 #[.val (.ref a)] [(.int (0 : Int32))]))
      obtain ⟨fs, hr, hrun, hended, hW, hsame⟩ := X3.leave (v := some (.int (0 : Int32))) (fun h => by rw [Bd.returns] at h; cases h)
      subst hF
      refine own_fin ?_ ⟨hrun, hended, _, _, rfl, ?_, ⟨_, rfl⟩, hW, hsame.mono (by first | decide | exact Nat.le_of_ble_eq_true rfl) (by first | decide | exact Nat.le_of_ble_eq_true rfl)⟩
      · exact own_retN X3 hx (t := .boolean) Bd.returns (by simp) rfl (hb hby d3_26) hr
      · show Q_rm3 Z a jo jl h0 n0 _ T3.heap _
        rw [e3]
        exact ⟨by rw [own_o, if_neg h1, if_neg h2], N0, rfl⟩
theorem ef_rm0 (m : MethodId) (x0 : Int64) (x1 : Int64) (x2 : Int32) (x3 : Int64) (x4 : Int64) (x5 : Int64) : entryFrame m #[(.long x0), (.long x1), (.int x2), (.long x3), (.long x4), (.long x5)] maxLocals = mkF m 0 #[.val (.long x0), .second, .val (.long x1), .second, .val (.int x2), .val (.long x3), .second, .val (.long x4), .second, .val (.long x5), .second, .unset, .unset, .unset, .unset, .unset, .unset, .unset, .unset, .unset, .unset, .unset] [] := by first | (simp [entryFrame, mkF, argsToLocals, Value.category, maxLocals]; done) | rfl
theorem pn_1 : plainName "com/example/quorumhelm/quorumhelm/service/JournalStateIsLastSegmentOpenPinLaw" = true := by first | (simp [plainName, overriddenIn]; done) | decide +kernel
theorem pd_0 : parseMethodDescriptor "(JJJJJJJ)V" = some ⟨[.long, .long, .long, .long, .long, .long, .long], none⟩ := by decide +kernel
theorem pd_1 : parseMethodDescriptor "()Z" = some ⟨[], some .boolean⟩ := by decide +kernel
def Q_rm0 (Z : State) (q1 q2 : Int64) (p3 : Int32) (q4 q5 q6 : Int64) (h0 : Heap) (n0 : Nat) (v : Option Value) (h : Heap) (L : List Loc) : Prop := v = some (.int 1) ∧ Fr n0 L
set_option maxRecDepth 65536 in
set_option maxHeartbeats 40000000 in
theorem rm0 (l : Launch) (Z : State) (a0 : Array Value) (hw : ∀ d ∈ tables_1, d.before a0 Z = true) (ws : List Jvm.Cond) (q1 q2 : Int64) (p3 : Int32) (q4 q5 q6 : Int64) (h0 : Heap) (n0 : Nat) (Z0 : n0 ≤ h0.size) :
    MetFree l x (head1 (Jvm.Cond.code x code maxLocals ret :: ws) room_1) (fun ag U => ag = #[(.long q1), (.long q2), (.int p3), (.long q4), (.long q5), (.long q6)] ∧ Z.Warmed39 U.vm ∧ U.heap = h0) (fun _ _ _ _ _ => True) (fun _ U o U' => ∃ v L, o = .returned v ∧ Q_rm0 Z q1 q2 p3 q4 q5 q6 h0 n0 v U'.heap L ∧ FrameEnd U o U' L room_1.cells room_1.slots) := by
  refine MetFree.of_bodySF (plainFor_of_name pn_1) hisR ?_
  intro p e s m args below meth c s₁ Bd hml0 hP hK
  obtain ⟨rfl, hZ, hh⟩ := hP
  have hx := Bd.exec
  have hby := Bd.bytes
  have hml : c.maxLocals = 22 := hml0
  have hown : s.vm.findClass "com/example/quorumhelm/quorumhelm/service/JournalStateIsLastSegmentOpenPinLaw" = some m.cls := findClass_of_methodNamed Bd.named
  have hnm := (name_of_methodNamed Bd.named Bd.method).1
  have X0 : Stand p l e room_1 s m #[(.long q1), (.long q2), (.int p3), (.long q4), (.long q5), (.long q6)] below meth c s₁ [] 0 0 := Stand.of_body Bd
  have e0 : s₁.heap = h0 := by rw [← hh, Bd.state]; rfl
  have N0 := Fr.nil n0
  refine own_start (ef_rm0 m q1 q2 p3 q4 q5 q6) ?_
  intro F hF
  show own_Gl p.tables e below F (s₁.setTop (mkF m 0 #[.val (.long q1), .second, .val (.long q2), .second, .val (.int p3), .val (.long q4), .second, .val (.long q5), .second, .val (.long q6), .second, .unset, .unset, .unset, .unset, .unset, .unset, .unset, .unset, .unset, .unset, .unset] []))
  refine own_go (st' := s₁.setTop (mkF m 11 #[.val (.long q1), .second, .val (.long q2), .second, .val (.int p3), .val (.long q4), .second, .val (.long q5), .second, .val (.long q6), .second, .unset, .unset, .unset, .unset, .unset, .unset, .unset, .unset, .unset, .unset, .unset] [(.long (if q1 = 0 then (1 : Int64) else q1))])) (fun t k => ?_) ?_
  · by_cases hc : q1 = 0
    · simp only [if_pos hc] at k
      refine XS.lloadN X0.here hx rfl (hb hby at_0) rfl ?_
      show Steps p.tables e below (s₁.setTop (mkF m 1 #[.val (.long q1), .second, .val (.long q2), .second, .val (.int p3), .val (.long q4), .second, .val (.long q5), .second, .val (.long q6), .second, .unset, .unset, .unset, .unset, .unset, .unset, .unset, .unset, .unset, .unset, .unset] [(.long q1)])) _
      refine XS.lconst X0.here hx rfl (hb hby at_1) ?_
      show Steps p.tables e below (s₁.setTop (mkF m 2 #[.val (.long q1), .second, .val (.long q2), .second, .val (.int p3), .val (.long q4), .second, .val (.long q5), .second, .val (.long q6), .second, .unset, .unset, .unset, .unset, .unset, .unset, .unset, .unset, .unset, .unset, .unset] [(.long (0 : Int64)), (.long q1)])) _
      refine XS.lcmp X0.here hx rfl (hb hby at_2) rfl ?_
      show Steps p.tables e below (s₁.setTop (mkF m 3 #[.val (.long q1), .second, .val (.long q2), .second, .val (.int p3), .val (.long q4), .second, .val (.long q5), .second, .val (.long q6), .second, .unset, .unset, .unset, .unset, .unset, .unset, .unset, .unset, .unset, .unset, .unset] [(.int (XT.cmpL q1 (0 : Int64)))])) _
      refine XS.ifNo X0.here hx rfl (hb hby at_3) rfl (XT.ll_ne_f hc) ?_
      show Steps p.tables e below (s₁.setTop (mkF m 6 #[.val (.long q1), .second, .val (.long q2), .second, .val (.int p3), .val (.long q4), .second, .val (.long q5), .second, .val (.long q6), .second, .unset, .unset, .unset, .unset, .unset, .unset, .unset, .unset, .unset, .unset, .unset] [])) _
      refine XS.lconst X0.here hx rfl (hb hby at_6) ?_
      show Steps p.tables e below (s₁.setTop (mkF m 7 #[.val (.long q1), .second, .val (.long q2), .second, .val (.int p3), .val (.long q4), .second, .val (.long q5), .second, .val (.long q6), .second, .unset, .unset, .unset, .unset, .unset, .unset, .unset, .unset, .unset, .unset, .unset] [(.long (1 : Int64))])) _
      refine XS.goto X0.here hx rfl (pc0 := 7) (pc' := 11) rfl (hb hby at_7) (by decide) (by decide) ?_
      show Steps p.tables e below (s₁.setTop (mkF m 11 #[.val (.long q1), .second, .val (.long q2), .second, .val (.int p3), .val (.long q4), .second, .val (.long q5), .second, .val (.long q6), .second, .unset, .unset, .unset, .unset, .unset, .unset, .unset, .unset, .unset, .unset, .unset] [(.long (1 : Int64))])) _
      exact k
    · simp only [if_neg hc] at k
      refine XS.lloadN X0.here hx rfl (hb hby at_0) rfl ?_
      show Steps p.tables e below (s₁.setTop (mkF m 1 #[.val (.long q1), .second, .val (.long q2), .second, .val (.int p3), .val (.long q4), .second, .val (.long q5), .second, .val (.long q6), .second, .unset, .unset, .unset, .unset, .unset, .unset, .unset, .unset, .unset, .unset, .unset] [(.long q1)])) _
      refine XS.lconst X0.here hx rfl (hb hby at_1) ?_
      show Steps p.tables e below (s₁.setTop (mkF m 2 #[.val (.long q1), .second, .val (.long q2), .second, .val (.int p3), .val (.long q4), .second, .val (.long q5), .second, .val (.long q6), .second, .unset, .unset, .unset, .unset, .unset, .unset, .unset, .unset, .unset, .unset, .unset] [(.long (0 : Int64)), (.long q1)])) _
      refine XS.lcmp X0.here hx rfl (hb hby at_2) rfl ?_
      show Steps p.tables e below (s₁.setTop (mkF m 3 #[.val (.long q1), .second, .val (.long q2), .second, .val (.int p3), .val (.long q4), .second, .val (.long q5), .second, .val (.long q6), .second, .unset, .unset, .unset, .unset, .unset, .unset, .unset, .unset, .unset, .unset, .unset] [(.int (XT.cmpL q1 (0 : Int64)))])) _
      refine XS.ifYes X0.here hx rfl (pc0 := 3) (pc' := 10) rfl (hb hby at_3) rfl (XT.ll_ne_t hc) (by decide) (by decide) ?_
      show Steps p.tables e below (s₁.setTop (mkF m 10 #[.val (.long q1), .second, .val (.long q2), .second, .val (.int p3), .val (.long q4), .second, .val (.long q5), .second, .val (.long q6), .second, .unset, .unset, .unset, .unset, .unset, .unset, .unset, .unset, .unset, .unset, .unset] [])) _
      refine XS.lloadN X0.here hx rfl (hb hby at_10) rfl ?_
      show Steps p.tables e below (s₁.setTop (mkF m 11 #[.val (.long q1), .second, .val (.long q2), .second, .val (.int p3), .val (.long q4), .second, .val (.long q5), .second, .val (.long q6), .second, .unset, .unset, .unset, .unset, .unset, .unset, .unset, .unset, .unset, .unset, .unset] [(.long q1)])) _
      exact k
  show own_Gl p.tables e below F (s₁.setTop (mkF m 11 #[.val (.long q1), .second, .val (.long q2), .second, .val (.int p3), .val (.long q4), .second, .val (.long q5), .second, .val (.long q6), .second, .unset, .unset, .unset, .unset, .unset, .unset, .unset, .unset, .unset, .unset, .unset] [(.long (if q1 = 0 then (1 : Int64) else q1))]))
  refine own_go (fun _ k => XS.lstore X0.here hx rfl (hb hby at_11) rfl (l' := #[.val (.long q1), .second, .val (.long q2), .second, .val (.int p3), .val (.long q4), .second, .val (.long q5), .second, .val (.long q6), .second, .val (.long (if q1 = 0 then (1 : Int64) else q1)), .second, .unset, .unset, .unset, .unset, .unset, .unset, .unset, .unset, .unset]) rfl k) ?_
  show own_Gl p.tables e below F (s₁.setTop (mkF m 13 #[.val (.long q1), .second, .val (.long q2), .second, .val (.int p3), .val (.long q4), .second, .val (.long q5), .second, .val (.long q6), .second, .val (.long (if q1 = 0 then (1 : Int64) else q1)), .second, .unset, .unset, .unset, .unset, .unset, .unset, .unset, .unset, .unset] []))
  refine own_go (st' := s₁.setTop (mkF m 24 #[.val (.long q1), .second, .val (.long q2), .second, .val (.int p3), .val (.long q4), .second, .val (.long q5), .second, .val (.long q6), .second, .val (.long (if q1 = 0 then (1 : Int64) else q1)), .second, .unset, .unset, .unset, .unset, .unset, .unset, .unset, .unset, .unset] [(.long (if q2 = 0 then (1 : Int64) else q2))])) (fun t k => ?_) ?_
  · by_cases hc : q2 = 0
    · simp only [if_pos hc] at k
      refine XS.lloadN X0.here hx rfl (hb hby at_13) rfl ?_
      show Steps p.tables e below (s₁.setTop (mkF m 14 #[.val (.long q1), .second, .val (.long q2), .second, .val (.int p3), .val (.long q4), .second, .val (.long q5), .second, .val (.long q6), .second, .val (.long (if q1 = 0 then (1 : Int64) else q1)), .second, .unset, .unset, .unset, .unset, .unset, .unset, .unset, .unset, .unset] [(.long q2)])) _
      refine XS.lconst X0.here hx rfl (hb hby at_14) ?_
      show Steps p.tables e below (s₁.setTop (mkF m 15 #[.val (.long q1), .second, .val (.long q2), .second, .val (.int p3), .val (.long q4), .second, .val (.long q5), .second, .val (.long q6), .second, .val (.long (if q1 = 0 then (1 : Int64) else q1)), .second, .unset, .unset, .unset, .unset, .unset, .unset, .unset, .unset, .unset] [(.long (0 : Int64)), (.long q2)])) _
      refine XS.lcmp X0.here hx rfl (hb hby at_15) rfl ?_
      show Steps p.tables e below (s₁.setTop (mkF m 16 #[.val (.long q1), .second, .val (.long q2), .second, .val (.int p3), .val (.long q4), .second, .val (.long q5), .second, .val (.long q6), .second, .val (.long (if q1 = 0 then (1 : Int64) else q1)), .second, .unset, .unset, .unset, .unset, .unset, .unset, .unset, .unset, .unset] [(.int (XT.cmpL q2 (0 : Int64)))])) _
      refine XS.ifNo X0.here hx rfl (hb hby at_16) rfl (XT.ll_ne_f hc) ?_
      show Steps p.tables e below (s₁.setTop (mkF m 19 #[.val (.long q1), .second, .val (.long q2), .second, .val (.int p3), .val (.long q4), .second, .val (.long q5), .second, .val (.long q6), .second, .val (.long (if q1 = 0 then (1 : Int64) else q1)), .second, .unset, .unset, .unset, .unset, .unset, .unset, .unset, .unset, .unset] [])) _
      refine XS.lconst X0.here hx rfl (hb hby at_19) ?_
      show Steps p.tables e below (s₁.setTop (mkF m 20 #[.val (.long q1), .second, .val (.long q2), .second, .val (.int p3), .val (.long q4), .second, .val (.long q5), .second, .val (.long q6), .second, .val (.long (if q1 = 0 then (1 : Int64) else q1)), .second, .unset, .unset, .unset, .unset, .unset, .unset, .unset, .unset, .unset] [(.long (1 : Int64))])) _
      refine XS.goto X0.here hx rfl (pc0 := 20) (pc' := 24) rfl (hb hby at_20) (by decide) (by decide) ?_
      show Steps p.tables e below (s₁.setTop (mkF m 24 #[.val (.long q1), .second, .val (.long q2), .second, .val (.int p3), .val (.long q4), .second, .val (.long q5), .second, .val (.long q6), .second, .val (.long (if q1 = 0 then (1 : Int64) else q1)), .second, .unset, .unset, .unset, .unset, .unset, .unset, .unset, .unset, .unset] [(.long (1 : Int64))])) _
      exact k
    · simp only [if_neg hc] at k
      refine XS.lloadN X0.here hx rfl (hb hby at_13) rfl ?_
      show Steps p.tables e below (s₁.setTop (mkF m 14 #[.val (.long q1), .second, .val (.long q2), .second, .val (.int p3), .val (.long q4), .second, .val (.long q5), .second, .val (.long q6), .second, .val (.long (if q1 = 0 then (1 : Int64) else q1)), .second, .unset, .unset, .unset, .unset, .unset, .unset, .unset, .unset, .unset] [(.long q2)])) _
      refine XS.lconst X0.here hx rfl (hb hby at_14) ?_
      show Steps p.tables e below (s₁.setTop (mkF m 15 #[.val (.long q1), .second, .val (.long q2), .second, .val (.int p3), .val (.long q4), .second, .val (.long q5), .second, .val (.long q6), .second, .val (.long (if q1 = 0 then (1 : Int64) else q1)), .second, .unset, .unset, .unset, .unset, .unset, .unset, .unset, .unset, .unset] [(.long (0 : Int64)), (.long q2)])) _
      refine XS.lcmp X0.here hx rfl (hb hby at_15) rfl ?_
      show Steps p.tables e below (s₁.setTop (mkF m 16 #[.val (.long q1), .second, .val (.long q2), .second, .val (.int p3), .val (.long q4), .second, .val (.long q5), .second, .val (.long q6), .second, .val (.long (if q1 = 0 then (1 : Int64) else q1)), .second, .unset, .unset, .unset, .unset, .unset, .unset, .unset, .unset, .unset] [(.int (XT.cmpL q2 (0 : Int64)))])) _
      refine XS.ifYes X0.here hx rfl (pc0 := 16) (pc' := 23) rfl (hb hby at_16) rfl (XT.ll_ne_t hc) (by decide) (by decide) ?_
      show Steps p.tables e below (s₁.setTop (mkF m 23 #[.val (.long q1), .second, .val (.long q2), .second, .val (.int p3), .val (.long q4), .second, .val (.long q5), .second, .val (.long q6), .second, .val (.long (if q1 = 0 then (1 : Int64) else q1)), .second, .unset, .unset, .unset, .unset, .unset, .unset, .unset, .unset, .unset] [])) _
      refine XS.lloadN X0.here hx rfl (hb hby at_23) rfl ?_
      show Steps p.tables e below (s₁.setTop (mkF m 24 #[.val (.long q1), .second, .val (.long q2), .second, .val (.int p3), .val (.long q4), .second, .val (.long q5), .second, .val (.long q6), .second, .val (.long (if q1 = 0 then (1 : Int64) else q1)), .second, .unset, .unset, .unset, .unset, .unset, .unset, .unset, .unset, .unset] [(.long q2)])) _
      exact k
  show own_Gl p.tables e below F (s₁.setTop (mkF m 24 #[.val (.long q1), .second, .val (.long q2), .second, .val (.int p3), .val (.long q4), .second, .val (.long q5), .second, .val (.long q6), .second, .val (.long (if q1 = 0 then (1 : Int64) else q1)), .second, .unset, .unset, .unset, .unset, .unset, .unset, .unset, .unset, .unset] [(.long (if q2 = 0 then (1 : Int64) else q2))]))
  refine own_go (fun _ k => XS.lstore X0.here hx rfl (hb hby at_24) rfl (l' := #[.val (.long q1), .second, .val (.long q2), .second, .val (.int p3), .val (.long q4), .second, .val (.long q5), .second, .val (.long q6), .second, .val (.long (if q1 = 0 then (1 : Int64) else q1)), .second, .val (.long (if q2 = 0 then (1 : Int64) else q2)), .second, .unset, .unset, .unset, .unset, .unset, .unset, .unset]) rfl k) ?_
  show own_Gl p.tables e below F (s₁.setTop (mkF m 26 #[.val (.long q1), .second, .val (.long q2), .second, .val (.int p3), .val (.long q4), .second, .val (.long q5), .second, .val (.long q6), .second, .val (.long (if q1 = 0 then (1 : Int64) else q1)), .second, .val (.long (if q2 = 0 then (1 : Int64) else q2)), .second, .unset, .unset, .unset, .unset, .unset, .unset, .unset] []))
  have hnz := own_nz q1
  have hdf := own_nz q2
  generalize (if q1 = 0 then (1 : Int64) else q1) = nz at hnz ⊢
  generalize (if q2 = 0 then (1 : Int64) else q2) = df at hdf ⊢
  show own_Gl p.tables e below F (s₁.setTop (mkF m 26 #[.val (.long q1), .second, .val (.long q2), .second, .val (.int p3), .val (.long q4), .second, .val (.long q5), .second, .val (.long q6), .second, .val (.long nz), .second, .val (.long df), .second, .unset, .unset, .unset, .unset, .unset, .unset, .unset] []))
  refine own_go (fun _ k => XS.iload X0.here hx rfl (hb hby at_26) rfl k) ?_
  show own_Gl p.tables e below F (s₁.setTop (mkF m 28 #[.val (.long q1), .second, .val (.long q2), .second, .val (.int p3), .val (.long q4), .second, .val (.long q5), .second, .val (.long q6), .second, .val (.long nz), .second, .val (.long df), .second, .unset, .unset, .unset, .unset, .unset, .unset, .unset] [(.int p3)]))
  refine own_go (fun _ k => XS.iconst X0.here hx rfl (hb hby at_28) k) ?_
  show own_Gl p.tables e below F (s₁.setTop (mkF m 29 #[.val (.long q1), .second, .val (.long q2), .second, .val (.int p3), .val (.long q4), .second, .val (.long q5), .second, .val (.long q6), .second, .val (.long nz), .second, .val (.long df), .second, .unset, .unset, .unset, .unset, .unset, .unset, .unset] [(.int (3 : Int32)), (.int p3)]))
  refine own_go (fun _ k => XS.iand X0.here hx rfl (hb hby at_29) rfl k) ?_
  show own_Gl p.tables e below F (s₁.setTop (mkF m 30 #[.val (.long q1), .second, .val (.long q2), .second, .val (.int p3), .val (.long q4), .second, .val (.long q5), .second, .val (.long q6), .second, .val (.long nz), .second, .val (.long df), .second, .unset, .unset, .unset, .unset, .unset, .unset, .unset] [(.int (p3 &&& (3 : Int32)))]))
  refine own_go (fun _ k => XS.istore X0.here hx rfl (hb hby at_30) rfl (l' := #[.val (.long q1), .second, .val (.long q2), .second, .val (.int p3), .val (.long q4), .second, .val (.long q5), .second, .val (.long q6), .second, .val (.long nz), .second, .val (.long df), .second, .val (.int (p3 &&& (3 : Int32))), .unset, .unset, .unset, .unset, .unset, .unset]) rfl k) ?_
  show own_Gl p.tables e below F (s₁.setTop (mkF m 32 #[.val (.long q1), .second, .val (.long q2), .second, .val (.int p3), .val (.long q4), .second, .val (.long q5), .second, .val (.long q6), .second, .val (.long nz), .second, .val (.long df), .second, .val (.int (p3 &&& (3 : Int32))), .unset, .unset, .unset, .unset, .unset, .unset] []))
  have hm := own_m p3
  generalize (p3 &&& (3 : Int32)) = mm at hm ⊢
  show own_Gl p.tables e below F (s₁.setTop (mkF m 32 #[.val (.long q1), .second, .val (.long q2), .second, .val (.int p3), .val (.long q4), .second, .val (.long q5), .second, .val (.long q6), .second, .val (.long nz), .second, .val (.long df), .second, .val (.int mm), .unset, .unset, .unset, .unset, .unset, .unset] []))
  have J102 : ∀ (jo jl : Int64) (je : Int32), je = own_o jo jl → own_Gl p.tables e below F (s₁.setTop (mkF m 102 #[.val (.long q1), .second, .val (.long q2), .second, .val (.int p3), .val (.long q4), .second, .val (.long q5), .second, .val (.long q6), .second, .val (.long nz), .second, .val (.long df), .second, .val (.int mm), .val (.long jo), .second, .val (.long jl), .second, .val (.int je), .unset] [])) := by
    intro jo jl je hj
    show own_Gl p.tables e below F (s₁.setTop (mkF m 102 #[.val (.long q1), .second, .val (.long q2), .second, .val (.int p3), .val (.long q4), .second, .val (.long q5), .second, .val (.long q6), .second, .val (.long nz), .second, .val (.long df), .second, .val (.int mm), .val (.long jo), .second, .val (.long jl), .second, .val (.int je), .unset] []))
    obtain ⟨T1, h1, X1, e1, E1, A1, D1, -, st1⟩ := newO X0 hx hZ hown (hw _ (List.mem_of_getElem? (i := 0) rfl)) (hw _ (List.mem_of_getElem? (i := 1) rfl)) (hw _ (List.mem_of_getElem? (i := 2) rfl)) e0 (g := (mkF m 102 #[.val (.long q1), .second, .val (.long q2), .second, .val (.int p3), .val (.long q4), .second, .val (.long q5), .second, .val (.long q6), .second, .val (.long nz), .second, .val (.long df), .second, .val (.int mm), .val (.long jo), .second, .val (.long jl), .second, .val (.int je), .unset] [])) rfl (hb hby at_102) (by first | decide | exact Nat.le_of_ble_eq_true rfl) (by first | decide | exact Nat.le_of_ble_eq_true rfl)
    obtain ⟨b1, g1⟩ : ∃ z, z = h0.size := ⟨_, rfl⟩
    rw [← g1] at A1 D1 st1
    have ge_b1 : n0 ≤ b1 := Nat.le_trans Z0 (Nat.le_of_eq g1.symm)
    have sz_b1 : h0.size ≤ b1 := Nat.le_trans ((Keep.refl h0 [])).1 (Nat.le_of_eq g1.symm)
    have Z1 : n0 ≤ h1.size := Nat.le_trans Z0 E1.1
    have K1 := Keep.ext (Keep.refl h0 []) E1
    have F1_m_nNamespaceId : Fld Z h1 b1 "com/example/quorumhelm/quorumhelm/service/JournalState" "m_nNamespaceId" "J" (.long (0 : Int64)) := D1 (Or.inr (hw _ (List.mem_of_getElem? (i := 10) rfl))) (ty := .long) (by decide)
    have F1_m_nPromisedEpoch : Fld Z h1 b1 "com/example/quorumhelm/quorumhelm/service/JournalState" "m_nPromisedEpoch" "J" (.long (0 : Int64)) := D1 (Or.inr (hw _ (List.mem_of_getElem? (i := 12) rfl))) (ty := .long) (by decide)
    have F1_m_nLastTxId : Fld Z h1 b1 "com/example/quorumhelm/quorumhelm/service/JournalState" "m_nLastTxId" "J" (.long (0 : Int64)) := D1 (Or.inr (hw _ (List.mem_of_getElem? (i := 14) rfl))) (ty := .long) (by decide)
    have F1_m_nLastSegmentTxId : Fld Z h1 b1 "com/example/quorumhelm/quorumhelm/service/JournalState" "m_nLastSegmentTxId" "J" (.long (0 : Int64)) := D1 (Or.inr (hw _ (List.mem_of_getElem? (i := 16) rfl))) (ty := .long) (by decide)
    have F1_m_nOpenSegmentTxId : Fld Z h1 b1 "com/example/quorumhelm/quorumhelm/service/JournalState" "m_nOpenSegmentTxId" "J" (.long (0 : Int64)) := D1 (Or.inr (hw _ (List.mem_of_getElem? (i := 18) rfl))) (ty := .long) (by decide)
    have F1_m_nWriterEpoch : Fld Z h1 b1 "com/example/quorumhelm/quorumhelm/service/JournalState" "m_nWriterEpoch" "J" (.long (0 : Int64)) := D1 (Or.inr (hw _ (List.mem_of_getElem? (i := 20) rfl))) (ty := .long) (by decide)
    have F1_m_nSilentMillis : Fld Z h1 b1 "com/example/quorumhelm/quorumhelm/service/JournalState" "m_nSilentMillis" "J" (.long (0 : Int64)) := D1 (Or.inr (hw _ (List.mem_of_getElem? (i := 22) rfl))) (ty := .long) (by decide)
    refine own_go st1 ?_
    show own_Gl p.tables e below F (T1.setTop (mkF m 105 #[.val (.long q1), .second, .val (.long q2), .second, .val (.int p3), .val (.long q4), .second, .val (.long q5), .second, .val (.long q6), .second, .val (.long nz), .second, .val (.long df), .second, .val (.int mm), .val (.long jo), .second, .val (.long jl), .second, .val (.int je), .unset] [(.ref b1)]))
    refine own_go (fun _ k => XS.dup X1.here hx rfl (hb hby at_105) rfl rfl k) ?_
    show own_Gl p.tables e below F (T1.setTop (mkF m 106 #[.val (.long q1), .second, .val (.long q2), .second, .val (.int p3), .val (.long q4), .second, .val (.long q5), .second, .val (.long q6), .second, .val (.long nz), .second, .val (.long df), .second, .val (.int mm), .val (.long jo), .second, .val (.long jl), .second, .val (.int je), .unset] [(.ref b1), (.ref b1)]))
    refine own_go (fun _ k => XS.lload X1.here hx rfl (hb hby at_106) rfl k) ?_
    show own_Gl p.tables e below F (T1.setTop (mkF m 108 #[.val (.long q1), .second, .val (.long q2), .second, .val (.int p3), .val (.long q4), .second, .val (.long q5), .second, .val (.long q6), .second, .val (.long nz), .second, .val (.long df), .second, .val (.int mm), .val (.long jo), .second, .val (.long jl), .second, .val (.int je), .unset] [(.long q4), (.ref b1), (.ref b1)]))
    refine own_go (fun _ k => XS.lload X1.here hx rfl (hb hby at_108) rfl k) ?_
    show own_Gl p.tables e below F (T1.setTop (mkF m 110 #[.val (.long q1), .second, .val (.long q2), .second, .val (.int p3), .val (.long q4), .second, .val (.long q5), .second, .val (.long q6), .second, .val (.long nz), .second, .val (.long df), .second, .val (.int mm), .val (.long jo), .second, .val (.long jl), .second, .val (.int je), .unset] [(.long q5), (.long q4), (.ref b1), (.ref b1)]))
    refine own_go (fun _ k => XS.lload X1.here hx rfl (hb hby at_110) rfl k) ?_
    show own_Gl p.tables e below F (T1.setTop (mkF m 112 #[.val (.long q1), .second, .val (.long q2), .second, .val (.int p3), .val (.long q4), .second, .val (.long q5), .second, .val (.long q6), .second, .val (.long nz), .second, .val (.long df), .second, .val (.int mm), .val (.long jo), .second, .val (.long jl), .second, .val (.int je), .unset] [(.long q6), (.long q5), (.long q4), (.ref b1), (.ref b1)]))
    refine own_go (fun _ k => XS.lload X1.here hx rfl (hb hby at_112) rfl k) ?_
    show own_Gl p.tables e below F (T1.setTop (mkF m 114 #[.val (.long q1), .second, .val (.long q2), .second, .val (.int p3), .val (.long q4), .second, .val (.long q5), .second, .val (.long q6), .second, .val (.long nz), .second, .val (.long df), .second, .val (.int mm), .val (.long jo), .second, .val (.long jl), .second, .val (.int je), .unset] [(.long jl), (.long q6), (.long q5), (.long q4), (.ref b1), (.ref b1)]))
    refine own_go (fun _ k => XS.lload X1.here hx rfl (hb hby at_114) rfl k) ?_
    show own_Gl p.tables e below F (T1.setTop (mkF m 116 #[.val (.long q1), .second, .val (.long q2), .second, .val (.int p3), .val (.long q4), .second, .val (.long q5), .second, .val (.long q6), .second, .val (.long nz), .second, .val (.long df), .second, .val (.int mm), .val (.long jo), .second, .val (.long jl), .second, .val (.int je), .unset] [(.long jo), (.long jl), (.long q6), (.long q5), (.long q4), (.ref b1), (.ref b1)]))
    refine own_go (fun _ k => XS.lload X1.here hx rfl (hb hby at_116) rfl k) ?_
    show own_Gl p.tables e below F (T1.setTop (mkF m 118 #[.val (.long q1), .second, .val (.long q2), .second, .val (.int p3), .val (.long q4), .second, .val (.long q5), .second, .val (.long q6), .second, .val (.long nz), .second, .val (.long df), .second, .val (.int mm), .val (.long jo), .second, .val (.long jl), .second, .val (.int je), .unset] [(.long q4), (.long jo), (.long jl), (.long q6), (.long q5), (.long q4), (.ref b1), (.ref b1)]))
    refine own_go (fun _ k => XS.lload X1.here hx rfl (hb hby at_118) rfl k) ?_
    show own_Gl p.tables e below F (T1.setTop (mkF m 120 #[.val (.long q1), .second, .val (.long q2), .second, .val (.int p3), .val (.long q4), .second, .val (.long q5), .second, .val (.long q6), .second, .val (.long nz), .second, .val (.long df), .second, .val (.int mm), .val (.long jo), .second, .val (.long jl), .second, .val (.int je), .unset] [(.long q6), (.long q4), (.long jo), (.long jl), (.long q6), (.long q5), (.long q4), (.ref b1), (.ref b1)]))
    refine own_go (fun _ k => XS.lxor X1.here hx rfl (hb hby at_120) rfl k) ?_
    show own_Gl p.tables e below F (T1.setTop (mkF m 121 #[.val (.long q1), .second, .val (.long q2), .second, .val (.int p3), .val (.long q4), .second, .val (.long q5), .second, .val (.long q6), .second, .val (.long nz), .second, .val (.long df), .second, .val (.int mm), .val (.long jo), .second, .val (.long jl), .second, .val (.int je), .unset] [(.long (q4 ^^^ q6)), (.long jo), (.long jl), (.long q6), (.long q5), (.long q4), (.ref b1), (.ref b1)]))
    refine own_go (fun _ k => XS.lload X1.here hx rfl (hb hby at_121) rfl k) ?_
    show own_Gl p.tables e below F (T1.setTop (mkF m 123 #[.val (.long q1), .second, .val (.long q2), .second, .val (.int p3), .val (.long q4), .second, .val (.long q5), .second, .val (.long q6), .second, .val (.long nz), .second, .val (.long df), .second, .val (.int mm), .val (.long jo), .second, .val (.long jl), .second, .val (.int je), .unset] [(.long q5), (.long (q4 ^^^ q6)), (.long jo), (.long jl), (.long q6), (.long q5), (.long q4), (.ref b1), (.ref b1)]))
    obtain ⟨_, _, ⟨T2, L2, k2, n2⟩, -, X2, ⟨Lc2, hQ2, l2, y2, z2⟩, st2⟩ := X1.specialBack hx (y := (⟨"com/example/quorumhelm/quorumhelm/service/JournalState", "<init>", "(JJJJJJJ)V"⟩ : MethodName)) rfl hown (mvT hZ (hw _ (List.mem_of_getElem? (i := 3) rfl))) (mvT hZ (hw _ (List.mem_of_getElem? (i := 4) rfl))) (mvT hZ (hw _ (List.mem_of_getElem? (i := 5) rfl))) (by decide) (backOf (W := 1) (rm1 l Z a0 hw [] b1 q4 q5 q6 jl jo (q4 ^^^ q6) q5  h1 n0 Z1 A1 F1_m_nNamespaceId F1_m_nPromisedEpoch F1_m_nLastTxId F1_m_nLastSegmentTxId F1_m_nOpenSegmentTxId F1_m_nWriterEpoch F1_m_nSilentMillis ge_b1 ) hZ (hw _ (List.mem_of_getElem? (i := 5) rfl)) (hw _ (List.mem_of_getElem? (i := 2) rfl)) (by decide) (by decide)) (g := (mkF m 123 #[.val (.long q1), .second, .val (.long q2), .second, .val (.int p3), .val (.long q4), .second, .val (.long q5), .second, .val (.long q6), .second, .val (.long nz), .second, .val (.long df), .second, .val (.int mm), .val (.long jo), .second, .val (.long jl), .second, .val (.int je), .unset] [(.long q5), (.long (q4 ^^^ q6)), (.long jo), (.long jl), (.long q6), (.long q5), (.long q4), (.ref b1), (.ref b1)])) rfl (by rw [hml]; rfl) (Steps.refl _) (a := b1) (argsL := [(.long q4), (.long q5), (.long q6), (.long jl), (.long jo), (.long (q4 ^^^ q6)), (.long q5)]) (rest := [(.ref b1)]) (lenOf pd_0 rfl) rfl (by show 2 * 0 + _ ≤ _; exact Nat.le_of_eq rfl) (hb hby at_123) (fun _ _ => ⟨rfl, e1, (by first | decide | exact Nat.le_of_ble_eq_true rfl), (by first | decide | exact Nat.le_of_ble_eq_true rfl)⟩)
    dsimp only [Pt.U, Pt.locs, Pt.cells, Pt.slots] at X2 l2 y2 z2 st2 hQ2
    subst l2 y2 z2
    obtain ⟨rfl, N2, K2, G2_E, G2_m_nNamespaceId, G2_m_nPromisedEpoch, G2_m_nLastTxId, G2_m_nLastSegmentTxId, G2_m_nOpenSegmentTxId, G2_m_nWriterEpoch, G2_m_nSilentMillis⟩ := hQ2
    have NF2 := Fr.app N0 N2
    have f2_1 := A1.keep K2
    have Z2 : n0 ≤ T2.heap.size := Nat.le_trans Z1 K2.1
    have KK2 := Keep.trans K1 K2 (by intro z hz; simp at hz; rcases hz with rfl; all_goals first | (left; simp; done) | (right; assumption))
    refine own_go (fun _ k => st2.trans k) ?_
    show own_Gl p.tables e below F (T2.setTop (mkF m 126 #[.val (.long q1), .second, .val (.long q2), .second, .val (.int p3), .val (.long q4), .second, .val (.long q5), .second, .val (.long q6), .second, .val (.long nz), .second, .val (.long df), .second, .val (.int mm), .val (.long jo), .second, .val (.long jl), .second, .val (.int je), .unset] [(.ref b1)]))
    refine own_go (fun _ k => XS.astore X2.here hx rfl (hb hby at_126) rfl rfl (l' := #[.val (.long q1), .second, .val (.long q2), .second, .val (.int p3), .val (.long q4), .second, .val (.long q5), .second, .val (.long q6), .second, .val (.long nz), .second, .val (.long df), .second, .val (.int mm), .val (.long jo), .second, .val (.long jl), .second, .val (.int je), .val (.ref b1)]) rfl k) ?_
    show own_Gl p.tables e below F (T2.setTop (mkF m 128 #[.val (.long q1), .second, .val (.long q2), .second, .val (.int p3), .val (.long q4), .second, .val (.long q5), .second, .val (.long q6), .second, .val (.long nz), .second, .val (.long df), .second, .val (.int mm), .val (.long jo), .second, .val (.long jl), .second, .val (.int je), .val (.ref b1)] []))
    refine own_go (fun _ k => XS.aload X2.here hx rfl (hb hby at_128) rfl rfl k) ?_
    show own_Gl p.tables e below F (T2.setTop (mkF m 130 #[.val (.long q1), .second, .val (.long q2), .second, .val (.int p3), .val (.long q4), .second, .val (.long q5), .second, .val (.long q6), .second, .val (.long nz), .second, .val (.long df), .second, .val (.int mm), .val (.long jo), .second, .val (.long jl), .second, .val (.int je), .val (.ref b1)] [(.ref b1)]))
    obtain ⟨cq3, kq3, q3a, q3b, q3c⟩ := isOf hZ rfl G2_E
    obtain ⟨_, _, ⟨T3, L3, k3, n3⟩, -, X3, ⟨Lc3, hQ3, l3, y3, z3⟩, st3⟩ := X2.virtualBack hx (y := (⟨"com/example/quorumhelm/quorumhelm/service/JournalState", "isLastSegmentOpen", "()Z"⟩ : MethodName)) (z := (⟨"com/example/quorumhelm/quorumhelm/service/JournalState", "isLastSegmentOpen", "()Z"⟩ : MethodName)) hown (mvT hZ (hw _ (List.mem_of_getElem? (i := 23) rfl))) (mvT hZ (hw _ (List.mem_of_getElem? (i := 24) rfl))) (notFace_of_selects (args := #[]) (mvT hZ (hw _ (List.mem_of_getElem? (i := 26) rfl)))) (mvT hZ (hw _ (List.mem_of_getElem? (i := 26) rfl))) (mvT hZ (hw _ (List.mem_of_getElem? (i := 25) rfl))) (by decide) (backOf (W := 0) (rm3 l Z a0 hw [] b1 jo jl T2.heap n0 Z2 G2_m_nOpenSegmentTxId G2_m_nLastSegmentTxId) hZ (hw _ (List.mem_of_getElem? (i := 27) rfl)) (hw _ (List.mem_of_getElem? (i := 2) rfl)) (by decide) (by decide)) q3a q3c (g := (mkF m 130 #[.val (.long q1), .second, .val (.long q2), .second, .val (.int p3), .val (.long q4), .second, .val (.long q5), .second, .val (.long q6), .second, .val (.long nz), .second, .val (.long df), .second, .val (.int mm), .val (.long jo), .second, .val (.long jl), .second, .val (.int je), .val (.ref b1)] [(.ref b1)])) rfl (by rw [hml]; rfl) (Steps.refl _) (argsL := []) (rest := []) (lenOf pd_1 rfl) rfl (by show 2 * 0 + _ ≤ _; exact Nat.le_of_eq rfl) (hb hby at_130) (fun _ _ => ⟨rfl, rfl, (by first | decide | exact Nat.le_of_ble_eq_true rfl), (by first | decide | exact Nat.le_of_ble_eq_true rfl)⟩)
    dsimp only [Pt.U, Pt.locs, Pt.cells, Pt.slots] at X3 l3 y3 z3 st3 hQ3
    subst l3 y3 z3
    obtain ⟨rfl, N3, e3⟩ := hQ3
    have NF3 := Fr.app NF2 N3
    refine own_go (fun _ k => st3.trans k) ?_
    show own_Gl p.tables e below F (T3.setTop (mkF m 133 #[.val (.long q1), .second, .val (.long q2), .second, .val (.int p3), .val (.long q4), .second, .val (.long q5), .second, .val (.long q6), .second, .val (.long nz), .second, .val (.long df), .second, .val (.int mm), .val (.long jo), .second, .val (.long jl), .second, .val (.int je), .val (.ref b1)] [(.int (own_o jo jl))]))
    refine own_go (fun _ k => XS.iload X3.here hx rfl (hb hby at_133) rfl k) ?_
    show own_Gl p.tables e below F (T3.setTop (mkF m 135 #[.val (.long q1), .second, .val (.long q2), .second, .val (.int p3), .val (.long q4), .second, .val (.long q5), .second, .val (.long q6), .second, .val (.long nz), .second, .val (.long df), .second, .val (.int mm), .val (.long jo), .second, .val (.long jl), .second, .val (.int je), .val (.ref b1)] [(.int je), (.int (own_o jo jl))]))
    refine own_go (fun _ k => XS.icmpNo X3.here hx rfl (hb hby at_135) rfl (XT.ii_ne_f hj.symm) k) ?_
    show own_Gl p.tables e below F (T3.setTop (mkF m 138 #[.val (.long q1), .second, .val (.long q2), .second, .val (.int p3), .val (.long q4), .second, .val (.long q5), .second, .val (.long q6), .second, .val (.long nz), .second, .val (.long df), .second, .val (.int mm), .val (.long jo), .second, .val (.long jl), .second, .val (.int je), .val (.ref b1)] []))
    refine own_go (fun _ k => XS.iconst X3.here hx rfl (hb hby at_138) k) ?_
    show own_Gl p.tables e below F (T3.setTop (mkF m 139 #[.val (.long q1), .second, .val (.long q2), .second, .val (.int p3), .val (.long q4), .second, .val (.long q5), .second, .val (.long q6), .second, .val (.long nz), .second, .val (.long df), .second, .val (.int mm), .val (.long jo), .second, .val (.long jl), .second, .val (.int je), .val (.ref b1)] [(.int (1 : Int32))]))
    refine own_go (fun _ k => XS.goto X3.here hx rfl (pc0 := 139) (pc' := 143) rfl (hb hby at_139) (by decide) (by decide) k) ?_
    show own_Gl p.tables e below F (T3.setTop (mkF m 143 #[.val (.long q1), .second, .val (.long q2), .second, .val (.int p3), .val (.long q4), .second, .val (.long q5), .second, .val (.long q6), .second, .val (.long nz), .second, .val (.long df), .second, .val (.int mm), .val (.long jo), .second, .val (.long jl), .second, .val (.int je), .val (.ref b1)] [(.int (1 : Int32))]))
    obtain ⟨fs, hr, hrun, hended, hW, hsame⟩ := X3.leave (v := some (.int (1 : Int32))) (fun h => by rw [Bd.returns] at h; cases h)
    subst hF
    refine own_fin ?_ ⟨hrun, hended, _, _, rfl, ?_, ⟨_, rfl⟩, hW, hsame.mono (by first | decide | exact Nat.le_of_ble_eq_true rfl) (by first | decide | exact Nat.le_of_ble_eq_true rfl)⟩
    · exact own_retN X3 hx (t := .boolean) Bd.returns (by simp) rfl (hb hby at_143) hr
    · show Q_rm0 Z q1 q2 p3 q4 q5 q6 h0 n0 _ T3.heap _
      rw [e3]
      exact ⟨rfl, NF3⟩
  show own_Gl p.tables e below F (s₁.setTop (mkF m 32 #[.val (.long q1), .second, .val (.long q2), .second, .val (.int p3), .val (.long q4), .second, .val (.long q5), .second, .val (.long q6), .second, .val (.long nz), .second, .val (.long df), .second, .val (.int mm), .unset, .unset, .unset, .unset, .unset, .unset] []))
  rcases hm with rfl | rfl | rfl | rfl
  · show own_Gl p.tables e below F (s₁.setTop (mkF m 32 #[.val (.long q1), .second, .val (.long q2), .second, .val (.int p3), .val (.long q4), .second, .val (.long q5), .second, .val (.long q6), .second, .val (.long nz), .second, .val (.long df), .second, .val (.int (0 : Int32)), .unset, .unset, .unset, .unset, .unset, .unset] []))
    refine own_go (fun _ k => XS.iload X0.here hx rfl (hb hby at_32) rfl k) ?_
    show own_Gl p.tables e below F (s₁.setTop (mkF m 34 #[.val (.long q1), .second, .val (.long q2), .second, .val (.int p3), .val (.long q4), .second, .val (.long q5), .second, .val (.long q6), .second, .val (.long nz), .second, .val (.long df), .second, .val (.int (0 : Int32)), .unset, .unset, .unset, .unset, .unset, .unset] [(.int (0 : Int32))]))
    refine own_go (fun _ k => XS.ifNo X0.here hx rfl (hb hby at_34) rfl (XT.i0_ne_f rfl) k) ?_
    show own_Gl p.tables e below F (s₁.setTop (mkF m 37 #[.val (.long q1), .second, .val (.long q2), .second, .val (.int p3), .val (.long q4), .second, .val (.long q5), .second, .val (.long q6), .second, .val (.long nz), .second, .val (.long df), .second, .val (.int (0 : Int32)), .unset, .unset, .unset, .unset, .unset, .unset] []))
    refine own_go (fun _ k => XS.lconst X0.here hx rfl (hb hby at_37) k) ?_
    show own_Gl p.tables e below F (s₁.setTop (mkF m 38 #[.val (.long q1), .second, .val (.long q2), .second, .val (.int p3), .val (.long q4), .second, .val (.long q5), .second, .val (.long q6), .second, .val (.long nz), .second, .val (.long df), .second, .val (.int (0 : Int32)), .unset, .unset, .unset, .unset, .unset, .unset] [(.long (0 : Int64))]))
    refine own_go (fun _ k => XS.lstore X0.here hx rfl (hb hby at_38) rfl (l' := #[.val (.long q1), .second, .val (.long q2), .second, .val (.int p3), .val (.long q4), .second, .val (.long q5), .second, .val (.long q6), .second, .val (.long nz), .second, .val (.long df), .second, .val (.int (0 : Int32)), .val (.long (0 : Int64)), .second, .unset, .unset, .unset, .unset]) rfl k) ?_
    show own_Gl p.tables e below F (s₁.setTop (mkF m 40 #[.val (.long q1), .second, .val (.long q2), .second, .val (.int p3), .val (.long q4), .second, .val (.long q5), .second, .val (.long q6), .second, .val (.long nz), .second, .val (.long df), .second, .val (.int (0 : Int32)), .val (.long (0 : Int64)), .second, .unset, .unset, .unset, .unset] []))
    refine own_go (fun _ k => XS.lloadN X0.here hx rfl (hb hby at_40) rfl k) ?_
    show own_Gl p.tables e below F (s₁.setTop (mkF m 41 #[.val (.long q1), .second, .val (.long q2), .second, .val (.int p3), .val (.long q4), .second, .val (.long q5), .second, .val (.long q6), .second, .val (.long nz), .second, .val (.long df), .second, .val (.int (0 : Int32)), .val (.long (0 : Int64)), .second, .unset, .unset, .unset, .unset] [(.long q1)]))
    refine own_go (fun _ k => XS.lstore X0.here hx rfl (hb hby at_41) rfl (l' := #[.val (.long q1), .second, .val (.long q2), .second, .val (.int p3), .val (.long q4), .second, .val (.long q5), .second, .val (.long q6), .second, .val (.long nz), .second, .val (.long df), .second, .val (.int (0 : Int32)), .val (.long (0 : Int64)), .second, .val (.long q1), .second, .unset, .unset]) rfl k) ?_
    show own_Gl p.tables e below F (s₁.setTop (mkF m 43 #[.val (.long q1), .second, .val (.long q2), .second, .val (.int p3), .val (.long q4), .second, .val (.long q5), .second, .val (.long q6), .second, .val (.long nz), .second, .val (.long df), .second, .val (.int (0 : Int32)), .val (.long (0 : Int64)), .second, .val (.long q1), .second, .unset, .unset] []))
    refine own_go (fun _ k => XS.iconst X0.here hx rfl (hb hby at_43) k) ?_
    show own_Gl p.tables e below F (s₁.setTop (mkF m 44 #[.val (.long q1), .second, .val (.long q2), .second, .val (.int p3), .val (.long q4), .second, .val (.long q5), .second, .val (.long q6), .second, .val (.long nz), .second, .val (.long df), .second, .val (.int (0 : Int32)), .val (.long (0 : Int64)), .second, .val (.long q1), .second, .unset, .unset] [(.int (0 : Int32))]))
    refine own_go (fun _ k => XS.istore X0.here hx rfl (hb hby at_44) rfl (l' := #[.val (.long q1), .second, .val (.long q2), .second, .val (.int p3), .val (.long q4), .second, .val (.long q5), .second, .val (.long q6), .second, .val (.long nz), .second, .val (.long df), .second, .val (.int (0 : Int32)), .val (.long (0 : Int64)), .second, .val (.long q1), .second, .val (.int (0 : Int32)), .unset]) rfl k) ?_
    show own_Gl p.tables e below F (s₁.setTop (mkF m 46 #[.val (.long q1), .second, .val (.long q2), .second, .val (.int p3), .val (.long q4), .second, .val (.long q5), .second, .val (.long q6), .second, .val (.long nz), .second, .val (.long df), .second, .val (.int (0 : Int32)), .val (.long (0 : Int64)), .second, .val (.long q1), .second, .val (.int (0 : Int32)), .unset] []))
    refine own_go (fun _ k => XS.goto X0.here hx rfl (pc0 := 46) (pc' := 102) rfl (hb hby at_46) (by decide) (by decide) k) ?_
    show own_Gl p.tables e below F (s₁.setTop (mkF m 102 #[.val (.long q1), .second, .val (.long q2), .second, .val (.int p3), .val (.long q4), .second, .val (.long q5), .second, .val (.long q6), .second, .val (.long nz), .second, .val (.long df), .second, .val (.int (0 : Int32)), .val (.long (0 : Int64)), .second, .val (.long q1), .second, .val (.int (0 : Int32)), .unset] []))
    exact J102 _ _ _ (by simp [own_o])
  · show own_Gl p.tables e below F (s₁.setTop (mkF m 32 #[.val (.long q1), .second, .val (.long q2), .second, .val (.int p3), .val (.long q4), .second, .val (.long q5), .second, .val (.long q6), .second, .val (.long nz), .second, .val (.long df), .second, .val (.int (1 : Int32)), .unset, .unset, .unset, .unset, .unset, .unset] []))
    refine own_go (fun _ k => XS.iload X0.here hx rfl (hb hby at_32) rfl k) ?_
    show own_Gl p.tables e below F (s₁.setTop (mkF m 34 #[.val (.long q1), .second, .val (.long q2), .second, .val (.int p3), .val (.long q4), .second, .val (.long q5), .second, .val (.long q6), .second, .val (.long nz), .second, .val (.long df), .second, .val (.int (1 : Int32)), .unset, .unset, .unset, .unset, .unset, .unset] [(.int (1 : Int32))]))
    refine own_go (fun _ k => XS.ifYes X0.here hx rfl (pc0 := 34) (pc' := 49) rfl (hb hby at_34) rfl (XT.i0_ne_t (by decide)) (by decide) (by decide) k) ?_
    show own_Gl p.tables e below F (s₁.setTop (mkF m 49 #[.val (.long q1), .second, .val (.long q2), .second, .val (.int p3), .val (.long q4), .second, .val (.long q5), .second, .val (.long q6), .second, .val (.long nz), .second, .val (.long df), .second, .val (.int (1 : Int32)), .unset, .unset, .unset, .unset, .unset, .unset] []))
    refine own_go (fun _ k => XS.iload X0.here hx rfl (hb hby at_49) rfl k) ?_
    show own_Gl p.tables e below F (s₁.setTop (mkF m 51 #[.val (.long q1), .second, .val (.long q2), .second, .val (.int p3), .val (.long q4), .second, .val (.long q5), .second, .val (.long q6), .second, .val (.long nz), .second, .val (.long df), .second, .val (.int (1 : Int32)), .unset, .unset, .unset, .unset, .unset, .unset] [(.int (1 : Int32))]))
    refine own_go (fun _ k => XS.iconst X0.here hx rfl (hb hby at_51) k) ?_
    show own_Gl p.tables e below F (s₁.setTop (mkF m 52 #[.val (.long q1), .second, .val (.long q2), .second, .val (.int p3), .val (.long q4), .second, .val (.long q5), .second, .val (.long q6), .second, .val (.long nz), .second, .val (.long df), .second, .val (.int (1 : Int32)), .unset, .unset, .unset, .unset, .unset, .unset] [(.int (1 : Int32)), (.int (1 : Int32))]))
    refine own_go (fun _ k => XS.icmpNo X0.here hx rfl (hb hby at_52) rfl (XT.ii_ne_f rfl) k) ?_
    show own_Gl p.tables e below F (s₁.setTop (mkF m 55 #[.val (.long q1), .second, .val (.long q2), .second, .val (.int p3), .val (.long q4), .second, .val (.long q5), .second, .val (.long q6), .second, .val (.long nz), .second, .val (.long df), .second, .val (.int (1 : Int32)), .unset, .unset, .unset, .unset, .unset, .unset] []))
    refine own_go (fun _ k => XS.lload X0.here hx rfl (hb hby at_55) rfl k) ?_
    show own_Gl p.tables e below F (s₁.setTop (mkF m 57 #[.val (.long q1), .second, .val (.long q2), .second, .val (.int p3), .val (.long q4), .second, .val (.long q5), .second, .val (.long q6), .second, .val (.long nz), .second, .val (.long df), .second, .val (.int (1 : Int32)), .unset, .unset, .unset, .unset, .unset, .unset] [(.long nz)]))
    refine own_go (fun _ k => XS.lstore X0.here hx rfl (hb hby at_57) rfl (l' := #[.val (.long q1), .second, .val (.long q2), .second, .val (.int p3), .val (.long q4), .second, .val (.long q5), .second, .val (.long q6), .second, .val (.long nz), .second, .val (.long df), .second, .val (.int (1 : Int32)), .val (.long nz), .second, .unset, .unset, .unset, .unset]) rfl k) ?_
    show own_Gl p.tables e below F (s₁.setTop (mkF m 59 #[.val (.long q1), .second, .val (.long q2), .second, .val (.int p3), .val (.long q4), .second, .val (.long q5), .second, .val (.long q6), .second, .val (.long nz), .second, .val (.long df), .second, .val (.int (1 : Int32)), .val (.long nz), .second, .unset, .unset, .unset, .unset] []))
    refine own_go (fun _ k => XS.lload X0.here hx rfl (hb hby at_59) rfl k) ?_
    show own_Gl p.tables e below F (s₁.setTop (mkF m 61 #[.val (.long q1), .second, .val (.long q2), .second, .val (.int p3), .val (.long q4), .second, .val (.long q5), .second, .val (.long q6), .second, .val (.long nz), .second, .val (.long df), .second, .val (.int (1 : Int32)), .val (.long nz), .second, .unset, .unset, .unset, .unset] [(.long nz)]))
    refine own_go (fun _ k => XS.lstore X0.here hx rfl (hb hby at_61) rfl (l' := #[.val (.long q1), .second, .val (.long q2), .second, .val (.int p3), .val (.long q4), .second, .val (.long q5), .second, .val (.long q6), .second, .val (.long nz), .second, .val (.long df), .second, .val (.int (1 : Int32)), .val (.long nz), .second, .val (.long nz), .second, .unset, .unset]) rfl k) ?_
    show own_Gl p.tables e below F (s₁.setTop (mkF m 63 #[.val (.long q1), .second, .val (.long q2), .second, .val (.int p3), .val (.long q4), .second, .val (.long q5), .second, .val (.long q6), .second, .val (.long nz), .second, .val (.long df), .second, .val (.int (1 : Int32)), .val (.long nz), .second, .val (.long nz), .second, .unset, .unset] []))
    refine own_go (fun _ k => XS.iconst X0.here hx rfl (hb hby at_63) k) ?_
    show own_Gl p.tables e below F (s₁.setTop (mkF m 64 #[.val (.long q1), .second, .val (.long q2), .second, .val (.int p3), .val (.long q4), .second, .val (.long q5), .second, .val (.long q6), .second, .val (.long nz), .second, .val (.long df), .second, .val (.int (1 : Int32)), .val (.long nz), .second, .val (.long nz), .second, .unset, .unset] [(.int (1 : Int32))]))
    refine own_go (fun _ k => XS.istore X0.here hx rfl (hb hby at_64) rfl (l' := #[.val (.long q1), .second, .val (.long q2), .second, .val (.int p3), .val (.long q4), .second, .val (.long q5), .second, .val (.long q6), .second, .val (.long nz), .second, .val (.long df), .second, .val (.int (1 : Int32)), .val (.long nz), .second, .val (.long nz), .second, .val (.int (1 : Int32)), .unset]) rfl k) ?_
    show own_Gl p.tables e below F (s₁.setTop (mkF m 66 #[.val (.long q1), .second, .val (.long q2), .second, .val (.int p3), .val (.long q4), .second, .val (.long q5), .second, .val (.long q6), .second, .val (.long nz), .second, .val (.long df), .second, .val (.int (1 : Int32)), .val (.long nz), .second, .val (.long nz), .second, .val (.int (1 : Int32)), .unset] []))
    refine own_go (fun _ k => XS.goto X0.here hx rfl (pc0 := 66) (pc' := 102) rfl (hb hby at_66) (by decide) (by decide) k) ?_
    show own_Gl p.tables e below F (s₁.setTop (mkF m 102 #[.val (.long q1), .second, .val (.long q2), .second, .val (.int p3), .val (.long q4), .second, .val (.long q5), .second, .val (.long q6), .second, .val (.long nz), .second, .val (.long df), .second, .val (.int (1 : Int32)), .val (.long nz), .second, .val (.long nz), .second, .val (.int (1 : Int32)), .unset] []))
    exact J102 _ _ _ (by rw [own_o, if_neg hnz, if_pos rfl])
  · show own_Gl p.tables e below F (s₁.setTop (mkF m 32 #[.val (.long q1), .second, .val (.long q2), .second, .val (.int p3), .val (.long q4), .second, .val (.long q5), .second, .val (.long q6), .second, .val (.long nz), .second, .val (.long df), .second, .val (.int (2 : Int32)), .unset, .unset, .unset, .unset, .unset, .unset] []))
    refine own_go (fun _ k => XS.iload X0.here hx rfl (hb hby at_32) rfl k) ?_
    show own_Gl p.tables e below F (s₁.setTop (mkF m 34 #[.val (.long q1), .second, .val (.long q2), .second, .val (.int p3), .val (.long q4), .second, .val (.long q5), .second, .val (.long q6), .second, .val (.long nz), .second, .val (.long df), .second, .val (.int (2 : Int32)), .unset, .unset, .unset, .unset, .unset, .unset] [(.int (2 : Int32))]))
    refine own_go (fun _ k => XS.ifYes X0.here hx rfl (pc0 := 34) (pc' := 49) rfl (hb hby at_34) rfl (XT.i0_ne_t (by decide)) (by decide) (by decide) k) ?_
    show own_Gl p.tables e below F (s₁.setTop (mkF m 49 #[.val (.long q1), .second, .val (.long q2), .second, .val (.int p3), .val (.long q4), .second, .val (.long q5), .second, .val (.long q6), .second, .val (.long nz), .second, .val (.long df), .second, .val (.int (2 : Int32)), .unset, .unset, .unset, .unset, .unset, .unset] []))
    refine own_go (fun _ k => XS.iload X0.here hx rfl (hb hby at_49) rfl k) ?_
    show own_Gl p.tables e below F (s₁.setTop (mkF m 51 #[.val (.long q1), .second, .val (.long q2), .second, .val (.int p3), .val (.long q4), .second, .val (.long q5), .second, .val (.long q6), .second, .val (.long nz), .second, .val (.long df), .second, .val (.int (2 : Int32)), .unset, .unset, .unset, .unset, .unset, .unset] [(.int (2 : Int32))]))
    refine own_go (fun _ k => XS.iconst X0.here hx rfl (hb hby at_51) k) ?_
    show own_Gl p.tables e below F (s₁.setTop (mkF m 52 #[.val (.long q1), .second, .val (.long q2), .second, .val (.int p3), .val (.long q4), .second, .val (.long q5), .second, .val (.long q6), .second, .val (.long nz), .second, .val (.long df), .second, .val (.int (2 : Int32)), .unset, .unset, .unset, .unset, .unset, .unset] [(.int (1 : Int32)), (.int (2 : Int32))]))
    refine own_go (fun _ k => XS.icmpYes X0.here hx rfl (pc0 := 52) (pc' := 69) rfl (hb hby at_52) rfl (XT.ii_ne_t (by decide)) (by decide) (by decide) k) ?_
    show own_Gl p.tables e below F (s₁.setTop (mkF m 69 #[.val (.long q1), .second, .val (.long q2), .second, .val (.int p3), .val (.long q4), .second, .val (.long q5), .second, .val (.long q6), .second, .val (.long nz), .second, .val (.long df), .second, .val (.int (2 : Int32)), .unset, .unset, .unset, .unset, .unset, .unset] []))
    refine own_go (fun _ k => XS.iload X0.here hx rfl (hb hby at_69) rfl k) ?_
    show own_Gl p.tables e below F (s₁.setTop (mkF m 71 #[.val (.long q1), .second, .val (.long q2), .second, .val (.int p3), .val (.long q4), .second, .val (.long q5), .second, .val (.long q6), .second, .val (.long nz), .second, .val (.long df), .second, .val (.int (2 : Int32)), .unset, .unset, .unset, .unset, .unset, .unset] [(.int (2 : Int32))]))
    refine own_go (fun _ k => XS.iconst X0.here hx rfl (hb hby at_71) k) ?_
    show own_Gl p.tables e below F (s₁.setTop (mkF m 72 #[.val (.long q1), .second, .val (.long q2), .second, .val (.int p3), .val (.long q4), .second, .val (.long q5), .second, .val (.long q6), .second, .val (.long nz), .second, .val (.long df), .second, .val (.int (2 : Int32)), .unset, .unset, .unset, .unset, .unset, .unset] [(.int (2 : Int32)), (.int (2 : Int32))]))
    refine own_go (fun _ k => XS.icmpNo X0.here hx rfl (hb hby at_72) rfl (XT.ii_ne_f rfl) k) ?_
    show own_Gl p.tables e below F (s₁.setTop (mkF m 75 #[.val (.long q1), .second, .val (.long q2), .second, .val (.int p3), .val (.long q4), .second, .val (.long q5), .second, .val (.long q6), .second, .val (.long nz), .second, .val (.long df), .second, .val (.int (2 : Int32)), .unset, .unset, .unset, .unset, .unset, .unset] []))
    refine own_go (fun _ k => XS.lload X0.here hx rfl (hb hby at_75) rfl k) ?_
    show own_Gl p.tables e below F (s₁.setTop (mkF m 77 #[.val (.long q1), .second, .val (.long q2), .second, .val (.int p3), .val (.long q4), .second, .val (.long q5), .second, .val (.long q6), .second, .val (.long nz), .second, .val (.long df), .second, .val (.int (2 : Int32)), .unset, .unset, .unset, .unset, .unset, .unset] [(.long nz)]))
    refine own_go (fun _ k => XS.lstore X0.here hx rfl (hb hby at_77) rfl (l' := #[.val (.long q1), .second, .val (.long q2), .second, .val (.int p3), .val (.long q4), .second, .val (.long q5), .second, .val (.long q6), .second, .val (.long nz), .second, .val (.long df), .second, .val (.int (2 : Int32)), .val (.long nz), .second, .unset, .unset, .unset, .unset]) rfl k) ?_
    show own_Gl p.tables e below F (s₁.setTop (mkF m 79 #[.val (.long q1), .second, .val (.long q2), .second, .val (.int p3), .val (.long q4), .second, .val (.long q5), .second, .val (.long q6), .second, .val (.long nz), .second, .val (.long df), .second, .val (.int (2 : Int32)), .val (.long nz), .second, .unset, .unset, .unset, .unset] []))
    refine own_go (fun _ k => XS.lload X0.here hx rfl (hb hby at_79) rfl k) ?_
    show own_Gl p.tables e below F (s₁.setTop (mkF m 81 #[.val (.long q1), .second, .val (.long q2), .second, .val (.int p3), .val (.long q4), .second, .val (.long q5), .second, .val (.long q6), .second, .val (.long nz), .second, .val (.long df), .second, .val (.int (2 : Int32)), .val (.long nz), .second, .unset, .unset, .unset, .unset] [(.long nz)]))
    refine own_go (fun _ k => XS.lload X0.here hx rfl (hb hby at_81) rfl k) ?_
    show own_Gl p.tables e below F (s₁.setTop (mkF m 83 #[.val (.long q1), .second, .val (.long q2), .second, .val (.int p3), .val (.long q4), .second, .val (.long q5), .second, .val (.long q6), .second, .val (.long nz), .second, .val (.long df), .second, .val (.int (2 : Int32)), .val (.long nz), .second, .unset, .unset, .unset, .unset] [(.long df), (.long nz)]))
    refine own_go (fun _ k => XS.lxor X0.here hx rfl (hb hby at_83) rfl k) ?_
    show own_Gl p.tables e below F (s₁.setTop (mkF m 84 #[.val (.long q1), .second, .val (.long q2), .second, .val (.int p3), .val (.long q4), .second, .val (.long q5), .second, .val (.long q6), .second, .val (.long nz), .second, .val (.long df), .second, .val (.int (2 : Int32)), .val (.long nz), .second, .unset, .unset, .unset, .unset] [(.long (nz ^^^ df))]))
    refine own_go (fun _ k => XS.lstore X0.here hx rfl (hb hby at_84) rfl (l' := #[.val (.long q1), .second, .val (.long q2), .second, .val (.int p3), .val (.long q4), .second, .val (.long q5), .second, .val (.long q6), .second, .val (.long nz), .second, .val (.long df), .second, .val (.int (2 : Int32)), .val (.long nz), .second, .val (.long (nz ^^^ df)), .second, .unset, .unset]) rfl k) ?_
    show own_Gl p.tables e below F (s₁.setTop (mkF m 86 #[.val (.long q1), .second, .val (.long q2), .second, .val (.int p3), .val (.long q4), .second, .val (.long q5), .second, .val (.long q6), .second, .val (.long nz), .second, .val (.long df), .second, .val (.int (2 : Int32)), .val (.long nz), .second, .val (.long (nz ^^^ df)), .second, .unset, .unset] []))
    refine own_go (fun _ k => XS.iconst X0.here hx rfl (hb hby at_86) k) ?_
    show own_Gl p.tables e below F (s₁.setTop (mkF m 87 #[.val (.long q1), .second, .val (.long q2), .second, .val (.int p3), .val (.long q4), .second, .val (.long q5), .second, .val (.long q6), .second, .val (.long nz), .second, .val (.long df), .second, .val (.int (2 : Int32)), .val (.long nz), .second, .val (.long (nz ^^^ df)), .second, .unset, .unset] [(.int (0 : Int32))]))
    refine own_go (fun _ k => XS.istore X0.here hx rfl (hb hby at_87) rfl (l' := #[.val (.long q1), .second, .val (.long q2), .second, .val (.int p3), .val (.long q4), .second, .val (.long q5), .second, .val (.long q6), .second, .val (.long nz), .second, .val (.long df), .second, .val (.int (2 : Int32)), .val (.long nz), .second, .val (.long (nz ^^^ df)), .second, .val (.int (0 : Int32)), .unset]) rfl k) ?_
    show own_Gl p.tables e below F (s₁.setTop (mkF m 89 #[.val (.long q1), .second, .val (.long q2), .second, .val (.int p3), .val (.long q4), .second, .val (.long q5), .second, .val (.long q6), .second, .val (.long nz), .second, .val (.long df), .second, .val (.int (2 : Int32)), .val (.long nz), .second, .val (.long (nz ^^^ df)), .second, .val (.int (0 : Int32)), .unset] []))
    refine own_go (fun _ k => XS.goto X0.here hx rfl (pc0 := 89) (pc' := 102) rfl (hb hby at_89) (by decide) (by decide) k) ?_
    show own_Gl p.tables e below F (s₁.setTop (mkF m 102 #[.val (.long q1), .second, .val (.long q2), .second, .val (.int p3), .val (.long q4), .second, .val (.long q5), .second, .val (.long q6), .second, .val (.long nz), .second, .val (.long df), .second, .val (.int (2 : Int32)), .val (.long nz), .second, .val (.long (nz ^^^ df)), .second, .val (.int (0 : Int32)), .unset] []))
    exact J102 _ _ _ (by rw [own_o, if_neg hnz, if_neg (own_xor hdf)])
  · show own_Gl p.tables e below F (s₁.setTop (mkF m 32 #[.val (.long q1), .second, .val (.long q2), .second, .val (.int p3), .val (.long q4), .second, .val (.long q5), .second, .val (.long q6), .second, .val (.long nz), .second, .val (.long df), .second, .val (.int (3 : Int32)), .unset, .unset, .unset, .unset, .unset, .unset] []))
    refine own_go (fun _ k => XS.iload X0.here hx rfl (hb hby at_32) rfl k) ?_
    show own_Gl p.tables e below F (s₁.setTop (mkF m 34 #[.val (.long q1), .second, .val (.long q2), .second, .val (.int p3), .val (.long q4), .second, .val (.long q5), .second, .val (.long q6), .second, .val (.long nz), .second, .val (.long df), .second, .val (.int (3 : Int32)), .unset, .unset, .unset, .unset, .unset, .unset] [(.int (3 : Int32))]))
    refine own_go (fun _ k => XS.ifYes X0.here hx rfl (pc0 := 34) (pc' := 49) rfl (hb hby at_34) rfl (XT.i0_ne_t (by decide)) (by decide) (by decide) k) ?_
    show own_Gl p.tables e below F (s₁.setTop (mkF m 49 #[.val (.long q1), .second, .val (.long q2), .second, .val (.int p3), .val (.long q4), .second, .val (.long q5), .second, .val (.long q6), .second, .val (.long nz), .second, .val (.long df), .second, .val (.int (3 : Int32)), .unset, .unset, .unset, .unset, .unset, .unset] []))
    refine own_go (fun _ k => XS.iload X0.here hx rfl (hb hby at_49) rfl k) ?_
    show own_Gl p.tables e below F (s₁.setTop (mkF m 51 #[.val (.long q1), .second, .val (.long q2), .second, .val (.int p3), .val (.long q4), .second, .val (.long q5), .second, .val (.long q6), .second, .val (.long nz), .second, .val (.long df), .second, .val (.int (3 : Int32)), .unset, .unset, .unset, .unset, .unset, .unset] [(.int (3 : Int32))]))
    refine own_go (fun _ k => XS.iconst X0.here hx rfl (hb hby at_51) k) ?_
    show own_Gl p.tables e below F (s₁.setTop (mkF m 52 #[.val (.long q1), .second, .val (.long q2), .second, .val (.int p3), .val (.long q4), .second, .val (.long q5), .second, .val (.long q6), .second, .val (.long nz), .second, .val (.long df), .second, .val (.int (3 : Int32)), .unset, .unset, .unset, .unset, .unset, .unset] [(.int (1 : Int32)), (.int (3 : Int32))]))
    refine own_go (fun _ k => XS.icmpYes X0.here hx rfl (pc0 := 52) (pc' := 69) rfl (hb hby at_52) rfl (XT.ii_ne_t (by decide)) (by decide) (by decide) k) ?_
    show own_Gl p.tables e below F (s₁.setTop (mkF m 69 #[.val (.long q1), .second, .val (.long q2), .second, .val (.int p3), .val (.long q4), .second, .val (.long q5), .second, .val (.long q6), .second, .val (.long nz), .second, .val (.long df), .second, .val (.int (3 : Int32)), .unset, .unset, .unset, .unset, .unset, .unset] []))
    refine own_go (fun _ k => XS.iload X0.here hx rfl (hb hby at_69) rfl k) ?_
    show own_Gl p.tables e below F (s₁.setTop (mkF m 71 #[.val (.long q1), .second, .val (.long q2), .second, .val (.int p3), .val (.long q4), .second, .val (.long q5), .second, .val (.long q6), .second, .val (.long nz), .second, .val (.long df), .second, .val (.int (3 : Int32)), .unset, .unset, .unset, .unset, .unset, .unset] [(.int (3 : Int32))]))
    refine own_go (fun _ k => XS.iconst X0.here hx rfl (hb hby at_71) k) ?_
    show own_Gl p.tables e below F (s₁.setTop (mkF m 72 #[.val (.long q1), .second, .val (.long q2), .second, .val (.int p3), .val (.long q4), .second, .val (.long q5), .second, .val (.long q6), .second, .val (.long nz), .second, .val (.long df), .second, .val (.int (3 : Int32)), .unset, .unset, .unset, .unset, .unset, .unset] [(.int (2 : Int32)), (.int (3 : Int32))]))
    refine own_go (fun _ k => XS.icmpYes X0.here hx rfl (pc0 := 72) (pc' := 92) rfl (hb hby at_72) rfl (XT.ii_ne_t (by decide)) (by decide) (by decide) k) ?_
    show own_Gl p.tables e below F (s₁.setTop (mkF m 92 #[.val (.long q1), .second, .val (.long q2), .second, .val (.int p3), .val (.long q4), .second, .val (.long q5), .second, .val (.long q6), .second, .val (.long nz), .second, .val (.long df), .second, .val (.int (3 : Int32)), .unset, .unset, .unset, .unset, .unset, .unset] []))
    refine own_go (fun _ k => XS.lload X0.here hx rfl (hb hby at_92) rfl k) ?_
    show own_Gl p.tables e below F (s₁.setTop (mkF m 94 #[.val (.long q1), .second, .val (.long q2), .second, .val (.int p3), .val (.long q4), .second, .val (.long q5), .second, .val (.long q6), .second, .val (.long nz), .second, .val (.long df), .second, .val (.int (3 : Int32)), .unset, .unset, .unset, .unset, .unset, .unset] [(.long nz)]))
    refine own_go (fun _ k => XS.lstore X0.here hx rfl (hb hby at_94) rfl (l' := #[.val (.long q1), .second, .val (.long q2), .second, .val (.int p3), .val (.long q4), .second, .val (.long q5), .second, .val (.long q6), .second, .val (.long nz), .second, .val (.long df), .second, .val (.int (3 : Int32)), .val (.long nz), .second, .unset, .unset, .unset, .unset]) rfl k) ?_
    show own_Gl p.tables e below F (s₁.setTop (mkF m 96 #[.val (.long q1), .second, .val (.long q2), .second, .val (.int p3), .val (.long q4), .second, .val (.long q5), .second, .val (.long q6), .second, .val (.long nz), .second, .val (.long df), .second, .val (.int (3 : Int32)), .val (.long nz), .second, .unset, .unset, .unset, .unset] []))
    refine own_go (fun _ k => XS.lconst X0.here hx rfl (hb hby at_96) k) ?_
    show own_Gl p.tables e below F (s₁.setTop (mkF m 97 #[.val (.long q1), .second, .val (.long q2), .second, .val (.int p3), .val (.long q4), .second, .val (.long q5), .second, .val (.long q6), .second, .val (.long nz), .second, .val (.long df), .second, .val (.int (3 : Int32)), .val (.long nz), .second, .unset, .unset, .unset, .unset] [(.long (0 : Int64))]))
    refine own_go (fun _ k => XS.lstore X0.here hx rfl (hb hby at_97) rfl (l' := #[.val (.long q1), .second, .val (.long q2), .second, .val (.int p3), .val (.long q4), .second, .val (.long q5), .second, .val (.long q6), .second, .val (.long nz), .second, .val (.long df), .second, .val (.int (3 : Int32)), .val (.long nz), .second, .val (.long (0 : Int64)), .second, .unset, .unset]) rfl k) ?_
    show own_Gl p.tables e below F (s₁.setTop (mkF m 99 #[.val (.long q1), .second, .val (.long q2), .second, .val (.int p3), .val (.long q4), .second, .val (.long q5), .second, .val (.long q6), .second, .val (.long nz), .second, .val (.long df), .second, .val (.int (3 : Int32)), .val (.long nz), .second, .val (.long (0 : Int64)), .second, .unset, .unset] []))
    refine own_go (fun _ k => XS.iconst X0.here hx rfl (hb hby at_99) k) ?_
    show own_Gl p.tables e below F (s₁.setTop (mkF m 100 #[.val (.long q1), .second, .val (.long q2), .second, .val (.int p3), .val (.long q4), .second, .val (.long q5), .second, .val (.long q6), .second, .val (.long nz), .second, .val (.long df), .second, .val (.int (3 : Int32)), .val (.long nz), .second, .val (.long (0 : Int64)), .second, .unset, .unset] [(.int (0 : Int32))]))
    refine own_go (fun _ k => XS.istore X0.here hx rfl (hb hby at_100) rfl (l' := #[.val (.long q1), .second, .val (.long q2), .second, .val (.int p3), .val (.long q4), .second, .val (.long q5), .second, .val (.long q6), .second, .val (.long nz), .second, .val (.long df), .second, .val (.int (3 : Int32)), .val (.long nz), .second, .val (.long (0 : Int64)), .second, .val (.int (0 : Int32)), .unset]) rfl k) ?_
    show own_Gl p.tables e below F (s₁.setTop (mkF m 102 #[.val (.long q1), .second, .val (.long q2), .second, .val (.int p3), .val (.long q4), .second, .val (.long q5), .second, .val (.long q6), .second, .val (.long nz), .second, .val (.long df), .second, .val (.int (3 : Int32)), .val (.long nz), .second, .val (.long (0 : Int64)), .second, .val (.int (0 : Int32)), .unset] []))
    exact J102 _ _ _ (by rw [own_o, if_neg hnz, if_neg hnz])
set_option maxRecDepth 65536 in
set_option maxHeartbeats 40000000 in
theorem comes_1 {Post : Tables → Env → Array Value → State → Outcome → State → Prop} (hpost : ∀ tb e args s v u, (limb_1_1.after args s (.returned v) u = true ∧ limb_1_2.after args s (.returned v) u = true ∧ True) → FrameEnd s (.returned v) u (Jvm.fieldLocs frame_1_writes args s ++ Jvm.arrayLocs frame_1_arrays args s ++ Jvm.staticLocs frame_1_statics s) 16 128 → Post tb e args s (.returned v) u) :
    ArmFor flags0 classFile x code maxLocals ret World_1 tables_1 room_1 Calls_1 rest_1 Pre_1 Post := by
  intro l hfl _ _ p e ha hc hk s m args below hf hA hF happ hP
  obtain ⟨hcalls, hrest, hpre⟩ := hP
  obtain ⟨-, -, -, hnamed, -, -, -, hat⟩ := (Spec.applies_iff hf).mp happ
  obtain ⟨hg, hn⟩ := and_e (Cond.before_iff.mp (show (Jvm.Cond.and given_1 narrow_1).before args s = true from hpre))
  obtain ⟨gv1, gv2⟩ := and_e hg
  obtain ⟨gv3, gv4⟩ := and_e gv2
  obtain ⟨gv5, gv6⟩ := and_e gv4
  obtain ⟨gv7, gv8⟩ := and_e gv6
  obtain ⟨gv9, gv10⟩ := and_e gv8
  obtain ⟨gv11, gv12⟩ := and_e gv10
  obtain ⟨w0, w1, w2, w3, w4, w5, rfl⟩ : ∃ w0 w1 w2 w3 w4 w5 : Value, args = #[w0, w1, w2, w3, w4, w5] := by
    have hs : args.size = 6 := by simpa [Cond.value, given_1] using gv1
    obtain ⟨L⟩ := args
    match L, hs with
    | [w0, w1, w2, w3, w4, w5], _ => exact ⟨w0, w1, w2, w3, w4, w5, rfl⟩
  have hw := fun d (hd : d ∈ tables_1) => atoms_spec (ws := Jvm.Cond.code x code maxLocals ret :: tables_1) hat d (List.mem_cons_of_mem _ hd)
  have hfit : Fit s := fun {y c} hc i hi => by
    obtain ⟨ha, rfl⟩ := Array.getElem?_eq_some_iff.mp hc
    have q := List.all_eq_true.mp ((Array.all_eq_true_iff_forall_mem.mp hF) _ (Array.getElem_mem ha)) i (List.mem_range.mpr hi)
    simpa [Array.getElem?_eq_getElem hi] using q
  obtain ⟨i0, ei0⟩ := isL_v gv3
  obtain rfl : w0 = (.long i0) := Option.some.inj ei0
  obtain ⟨i1, ei1⟩ := isL_v gv5
  obtain rfl : w1 = (.long i1) := Option.some.inj ei1
  obtain ⟨i2, ei2⟩ := is_v gv7
  obtain rfl : w2 = (.int i2) := Option.some.inj ei2
  obtain ⟨i3, ei3⟩ := isL_v gv9
  obtain rfl : w3 = (.long i3) := Option.some.inj ei3
  obtain ⟨i4, ei4⟩ := isL_v gv11
  obtain rfl : w4 = (.long i4) := Option.some.inj ei4
  obtain ⟨i5, ei5⟩ := isL_v gv12
  obtain rfl : w5 = (.long i5) := Option.some.inj ei5
  obtain ⟨n, o, h1, h2, h3, _, L, rfl, ⟨rfl, N⟩, hq⟩ := rm0 l s _ hw tables_1 i0 i1 i2 i3 i4 i5  s.heap s.heap.size (Nat.le_refl _)  p e ha hc hk s m _ below hf ((Spec.applies_iff_loose hf).mp happ).1 ⟨rfl, State.Warmed39.refl s, rfl⟩ trivial
  refine ⟨n, _, h1, h2, h3, hpost _ _ _ _ _ _ ⟨Cond.after_iff.mpr rfl, Cond.after_iff.mpr (eq_i res_at (Term.int_eval (1)) rfl), trivial⟩ ⟨hq.1, hq.2.1, (hq.2.2.sift fun y hy => Or.inr (N y hy)).mono (by decide) (by decide)⟩⟩
theorem main_1_1 : Claimed_1_1 := comes_1 fun _ _ _ _ _ _ h hF => ⟨h.1, hF⟩
theorem main_1_2 : Claimed_1_2 := comes_1 fun _ _ _ _ _ _ h hF => ⟨h.2.1, hF⟩
end Jvm.Pilot.@@N@@
namespace Jvm.Pilot.@@N@@
open Jvm Jvm.ClassFile Sem Op Lib Jvm.Free Jvm.Stand Jvm.Pilot.@@N@@.Jvm.D
/-! MADE BY PROGRAM (witnessworld.py) out of the Statement's table words and the real class files: 9 classes; the members and pool entries that the words name. The judged class is class 1, her method 1. -/
namespace start1
open Jvm.ClassFile
def u (s : String) : CpInfo := .utf8 (stringToUtf16 s)
/-- a pool by its gaps: so many unusable entries, then the entry; so many at the end -/
def gap : Nat → List CpInfo → List CpInfo
  | 0, r => r
  | n + 1, r => .unusable :: gap n r
def poolList (es : List (Nat × CpInfo)) (last : Nat) : List CpInfo := es.foldr (fun e r => gap e.1 (e.2 :: r)) (gap last [])
def pool (es : List (Nat × CpInfo)) (last : Nat) : Array CpInfo := ⟨poolList es last⟩
def fileOf (pool : Array CpInfo) (this : Nat) (attrs : Array Attribute := #[]) (ms : Array MethodInfo := #[]) (fl : Nat := 33) (sup : Nat := 0) (ifs : Array Nat := #[]) (fds : Array FieldInfo := #[]) : ClassFile where
  minorVersion := 0
  majorVersion := 65
  constantPool := pool
  accessFlags := fl
  thisClass := this
  superClass := sup
  interfaces := ifs
  fields := fds
  methods := ms
  attributes := attrs
def plain (name : String) (sup : Option ClassId) : Class where
  name := name
  kind := .ordinary
  loader := none
  accessFlags := 33
  super := sup
  interfaces := #[]
  cf := none
  fields := #[]
  methods := #[]
  instanceTypes := #[]
  staticTypes := #[]
  resolved := #[]
  callSites := []
  init := .initialized
  statics := none
  mirror := none

def pool0 : Array CpInfo := pool [(5, u "<init>"), (0, u "()V"), (1, .class_ 10), (1, u "java/lang/Object")] 113

def k0c0 : Code := { maxStack := 0, maxLocals := 1, code := object_method_1_code, exceptionTable := #[], attributes := #[] }
def k0m0 : Method := { name := "<init>", desc := "()V", sig := { parameters := [], returnType := none }, accessFlags := 1, code := some k0c0 }
/-- java/lang/Object -/
def k0 : Class := { plain "java/lang/Object" none with
  accessFlags := 33
  interfaces := #[]
  cf := some (fileOf pool0 8 #[] #[{ accessFlags := 1, nameIndex := 5, descriptorIndex := 6, attributes := #[] }] 33 0 #[] #[])
  fields := #[]
  methods := #[k0m0]
  instanceTypes := #[]
  staticTypes := #[]
  resolved := Array.replicate 124 none
  statics := none }

def pool1 : Array CpInfo := pool [(2, .class_ 4), (1, u "java/lang/Object"), (0, u "<init>"), (0, u "()V"), (0, .class_ 8), (0, u "com/example/quorumhelm/quorumhelm/service/JournalState"), (0, .methodref 7 10), (0, .nameAndType 5 11), (0, u "(JJJJJJJ)V"), (0, .methodref 7 13), (0, .nameAndType 14 15), (0, u "isLastSegmentOpen"), (0, u "()Z"), (0, .class_ 17), (0, u "com/example/quorumhelm/quorumhelm/service/JournalStateIsLastSegmentOpenPinLaw"), (2, u "law"), (0, u "(JJIJJJ)Z")] 3

def k1m0 : Method := { name := "<init>", desc := "()V", sig := { parameters := [], returnType := none }, accessFlags := 1, code := none }
def k1c1 : Code := { maxStack := 16, maxLocals := 22, code := code, exceptionTable := #[], attributes := #[] }
def k1m1 : Method := { name := "law", desc := "(JJIJJJ)Z", sig := { parameters := [.long, .long, .int, .long, .long, .long], returnType := some .boolean }, accessFlags := 9, code := some k1c1 }
/-- com/example/quorumhelm/quorumhelm/service/JournalStateIsLastSegmentOpenPinLaw -/
def k1 : Class := { plain "com/example/quorumhelm/quorumhelm/service/JournalStateIsLastSegmentOpenPinLaw" (some 0) with
  accessFlags := 49
  interfaces := #[]
  cf := some (fileOf pool1 16 #[] #[{ accessFlags := 1, nameIndex := 5, descriptorIndex := 6, attributes := #[] }, { accessFlags := 9, nameIndex := 20, descriptorIndex := 21, attributes := #[] }] 49 2 #[] #[])
  fields := #[]
  methods := #[k1m0, k1m1]
  instanceTypes := #[]
  staticTypes := #[]
  resolved := Array.replicate 25 none
  statics := none }

def pool2 : Array CpInfo := pool [(1, .methodref 2 3), (0, .class_ 4), (0, .nameAndType 5 6), (0, u "java/lang/Object"), (0, u "<init>"), (0, u "()V"), (0, .fieldref 8 9), (0, .class_ 10), (0, .nameAndType 11 12), (0, u "com/example/quorumhelm/quorumhelm/service/JournalState"), (0, u "m_nNamespaceId"), (0, u "J"), (0, .fieldref 8 14), (0, .nameAndType 15 12), (0, u "m_nPromisedEpoch"), (0, .fieldref 8 17), (0, .nameAndType 18 12), (0, u "m_nLastTxId"), (0, .fieldref 8 20), (0, .nameAndType 21 12), (0, u "m_nLastSegmentTxId"), (0, .fieldref 8 23), (0, .nameAndType 24 12), (0, u "m_nOpenSegmentTxId"), (0, .fieldref 8 26), (0, .nameAndType 27 12), (0, u "m_nWriterEpoch"), (0, .fieldref 8 29), (0, .nameAndType 30 12), (0, u "m_nSilentMillis"), (0, u "(JJJJJJJ)V"), (10, u "isLastSegmentOpen"), (0, u "()Z")] 3

def k2c0 : Code := { maxStack := 3, maxLocals := 15, code := prog_75_method_1_code, exceptionTable := #[], attributes := #[] }
def k2m0 : Method := { name := "<init>", desc := "(JJJJJJJ)V", sig := { parameters := [.long, .long, .long, .long, .long, .long, .long], returnType := none }, accessFlags := 1, code := some k2c0 }
def k2c1 : Code := { maxStack := 4, maxLocals := 1, code := prog_75_method_9_code, exceptionTable := #[], attributes := #[] }
def k2m1 : Method := { name := "isLastSegmentOpen", desc := "()Z", sig := { parameters := [], returnType := some .boolean }, accessFlags := 1, code := some k2c1 }
/-- com/example/quorumhelm/quorumhelm/service/JournalState -/
def k2 : Class := { plain "com/example/quorumhelm/quorumhelm/service/JournalState" (some 0) with
  accessFlags := 49
  interfaces := #[]
  cf := some (fileOf pool2 8 #[] #[{ accessFlags := 1, nameIndex := 5, descriptorIndex := 31, attributes := #[] }, { accessFlags := 1, nameIndex := 42, descriptorIndex := 43, attributes := #[] }] 49 2 #[] #[{ accessFlags := 18, nameIndex := 11, descriptorIndex := 12, attributes := #[] }, { accessFlags := 18, nameIndex := 15, descriptorIndex := 12, attributes := #[] }, { accessFlags := 18, nameIndex := 18, descriptorIndex := 12, attributes := #[] }, { accessFlags := 18, nameIndex := 21, descriptorIndex := 12, attributes := #[] }, { accessFlags := 18, nameIndex := 24, descriptorIndex := 12, attributes := #[] }, { accessFlags := 18, nameIndex := 27, descriptorIndex := 12, attributes := #[] }, { accessFlags := 18, nameIndex := 30, descriptorIndex := 12, attributes := #[] }])
  fields := #[{ name := "m_nNamespaceId", type := .long, accessFlags := 18, slot := 0, constantValue := 0 }, { name := "m_nPromisedEpoch", type := .long, accessFlags := 18, slot := 1, constantValue := 0 }, { name := "m_nLastTxId", type := .long, accessFlags := 18, slot := 2, constantValue := 0 }, { name := "m_nLastSegmentTxId", type := .long, accessFlags := 18, slot := 3, constantValue := 0 }, { name := "m_nOpenSegmentTxId", type := .long, accessFlags := 18, slot := 4, constantValue := 0 }, { name := "m_nWriterEpoch", type := .long, accessFlags := 18, slot := 5, constantValue := 0 }, { name := "m_nSilentMillis", type := .long, accessFlags := 18, slot := 6, constantValue := 0 }]
  methods := #[k2m0, k2m1]
  instanceTypes := #[.long, .long, .long, .long, .long, .long, .long]
  staticTypes := #[]
  resolved := Array.replicate 47 none
  statics := none }

def pool3 : Array CpInfo := pool [(1, u "java/lang/Cloneable"), (0, .class_ 1), (0, u "java/lang/Object"), (0, .class_ 3)] 3

/-- java/lang/Cloneable -/
def k3 : Class := { plain "java/lang/Cloneable" (some 0) with
  accessFlags := 1537
  interfaces := #[]
  cf := some (fileOf pool3 2 #[] #[] 1537 4 #[] #[])
  fields := #[]
  methods := #[]
  instanceTypes := #[]
  staticTypes := #[]
  resolved := Array.replicate 8 none
  statics := none }

def pool4 : Array CpInfo := pool [(1, u "java/io/Serializable"), (0, .class_ 1), (0, u "java/lang/Object"), (0, .class_ 3)] 3

/-- java/io/Serializable -/
def k4 : Class := { plain "java/io/Serializable" (some 0) with
  accessFlags := 1537
  interfaces := #[]
  cf := some (fileOf pool4 2 #[] #[] 1537 4 #[] #[])
  fields := #[]
  methods := #[]
  instanceTypes := #[]
  staticTypes := #[]
  resolved := Array.replicate 8 none
  statics := none }

/-- the primitive byte -/
def k5 : Class := { plain "byte" none with kind := .primitive 'B', accessFlags := 0x411 }
/-- [B -/
def k6 : Class := { plain "[B" (some 0) with kind := .array 5 .byte, interfaces := #[3, 4], accessFlags := 1041 }

/-- the primitive int -/
def k7 : Class := { plain "int" none with kind := .primitive 'I', accessFlags := 0x411 }
/-- [I -/
def k8 : Class := { plain "[I" (some 0) with kind := .array 7 .int, interfaces := #[3, 4], accessFlags := 1041 }

def heap : Heap := #[]
def classes : Array Class := #[k0, k1, k2, k3, k4, k5, k6, k7, k8]
def interned : List (Array UInt16 × Addr) := []
def slotsUsed : Nat := 0
def theMethod : MethodId := ⟨1, 1⟩
def args0 : Array Value := #[.long 5, .long 9, .int 1, .long 2, .long 3, .long 4]
def aboutOver (below : List Frame) : State where
  vm := { classes := classes, interned := interned.toArray }
  heap := heap
  slotsUsed := slotsUsed
  threads := #[{ frames := .invoking theMethod args0 :: below }]
def below0 : List Frame := [.native { method := ⟨0, 0⟩, args := #[] }]
def about1 : State := aboutOver below0
def p0 : Program := .bare "" "" ""
def e0 : Env := launch0.env 0 0 0
theorem w_frames : about1.frames = Frame.invoking theMethod args0 :: below0 := rfl
set_option maxRecDepth 65536 in
theorem w_args : argsFit about1.vm theMethod args0 = true := by decide +kernel
set_option maxRecDepth 65536 in
theorem w_heap : heapFits about1 = true := by decide +kernel
set_option maxRecDepth 65536 in
theorem w_runnable : about1.curStatus? = some .runnable := by decide +kernel
set_option maxRecDepth 65536 in
theorem w_alone : about1.alone = true := by decide +kernel
set_option maxRecDepth 65536 in
theorem w_named : about1.methodNamed? x = some theMethod := by decide +kernel
set_option maxRecDepth 65536 in
theorem w_hears : about1.hears theMethod below0 = true := by decide +kernel
set_option maxRecDepth 65536 in
theorem w_ripe : about1.ripe theMethod args0 below0 = true := by decide +kernel
theorem w_running : about1.status = .running := rfl
set_option maxRecDepth 65536 in
theorem w_room : about1.hasRoom e0.platform room_1 = true :=
  launch0.hasRoom_least _ room_1 (by decide +kernel) (by decide +kernel) (by decide +kernel) (by decide +kernel) (by decide +kernel) (by decide +kernel)
theorem allAtoms_all (ts : List Jvm.Cond) (a : Array Jvm.Value) (st : Jvm.State) : (allAtoms ts).before a st = ts.all (fun c => c.before a st) := by
  induction ts with
  | nil => rfl
  | cons c t ih =>
    show (Jvm.Cond.and c (allAtoms t)).before a st = _
    rw [Jvm.Cond.before_and, ih, List.all_cons]
def words1 : List Jvm.Cond := Jvm.Cond.code x code maxLocals ret :: tables_1
/-- a 'code' word, met by the world's own term for the bytes: nothing is compared byte by byte -/
theorem code_word {y : MethodName} {bytes : ByteArray} {mx : Nat} {rt : Option FieldType} {a : Array Value} {s : State} {m : MethodId} {meth : Method} {c : Code} (h1 : s.methodNamed? y = some m) (h2 : s.vm.method? m = some meth) (h3 : meth.code = some c) (h4 : c.code = bytes)
    (h5 : (c.maxLocals == mx && c.exceptionTable.isEmpty && decide (c.maxStack ≤ mostOperands) && decide (meth.sig.returnType = rt) && !meth.locks && decide (parseMethodDescriptor y.desc = some meth.sig)) = true) : (Jvm.Cond.code y bytes mx rt).before a s = true := by
  simp only [Bool.and_eq_true, beq_iff_eq, Bool.not_eq_true', decide_eq_true_eq] at h5
  obtain ⟨⟨⟨⟨⟨g1, g2⟩, g3⟩, g4⟩, g5⟩, g6⟩ := h5
  simp [Cond.before, Cond.holds, Cond.value, h1, h2, h3, h4, g1, g2, g3, g4, g5, g6]
def isCode : Jvm.Cond → Bool
  | .code _ _ _ _ => true
  | _ => false
theorem all_split {L : List Jvm.Cond} {P : Jvm.Cond → Bool} (h1 : L.all (fun c => isCode c || P c) = true) (h2 : ∀ c ∈ L.filter isCode, P c = true) : L.all P = true := by
  refine List.all_eq_true.mpr fun c hc => ?_
  have h := List.all_eq_true.mp h1 c hc
  rcases Bool.eq_false_or_eq_true (isCode c) with hi | hi
  · exact h2 c (List.mem_filter.mpr ⟨hc, hi⟩)
  · simpa [hi] using h
set_option maxRecDepth 65536 in
theorem w_c0 : (Jvm.Cond.code x code maxLocals ret).before args0 about1 = true := code_word (m := ⟨1, 1⟩) (meth := k1m1) (c := k1c1) (by decide +kernel) rfl rfl rfl (by decide +kernel)
set_option maxRecDepth 65536 in
theorem w_c1 : (Jvm.Cond.code ({ cls := "com/example/quorumhelm/quorumhelm/service/JournalState", name := "<init>", desc := "(JJJJJJJ)V" } : Jvm.MethodName) prog_75_method_1_code (15 : Nat) (Option.none : Option Jvm.ClassFile.FieldType)).before args0 about1 = true := code_word (m := ⟨2, 0⟩) (meth := k2m0) (c := k2c0) (by decide +kernel) rfl rfl rfl (by decide +kernel)
set_option maxRecDepth 65536 in
theorem w_c2 : (Jvm.Cond.code ({ cls := "java/lang/Object", name := "<init>", desc := "()V" } : Jvm.MethodName) object_method_1_code (1 : Nat) (Option.none : Option Jvm.ClassFile.FieldType)).before args0 about1 = true := code_word (m := ⟨0, 0⟩) (meth := k0m0) (c := k0c0) (by decide +kernel) rfl rfl rfl (by decide +kernel)
set_option maxRecDepth 65536 in
theorem w_c3 : (Jvm.Cond.code ({ cls := "com/example/quorumhelm/quorumhelm/service/JournalState", name := "isLastSegmentOpen", desc := "()Z" } : Jvm.MethodName) prog_75_method_9_code (1 : Nat) (Option.some Jvm.ClassFile.FieldType.boolean)).before args0 about1 = true := code_word (m := ⟨2, 1⟩) (meth := k2m1) (c := k2c1) (by decide +kernel) rfl rfl rfl (by decide +kernel)
def codes1 : List Jvm.Cond := [Jvm.Cond.code x code maxLocals ret, Jvm.Cond.code ({ cls := "com/example/quorumhelm/quorumhelm/service/JournalState", name := "<init>", desc := "(JJJJJJJ)V" } : Jvm.MethodName) prog_75_method_1_code (15 : Nat) (Option.none : Option Jvm.ClassFile.FieldType), Jvm.Cond.code ({ cls := "java/lang/Object", name := "<init>", desc := "()V" } : Jvm.MethodName) object_method_1_code (1 : Nat) (Option.none : Option Jvm.ClassFile.FieldType), Jvm.Cond.code ({ cls := "com/example/quorumhelm/quorumhelm/service/JournalState", name := "isLastSegmentOpen", desc := "()Z" } : Jvm.MethodName) prog_75_method_9_code (1 : Nat) (Option.some Jvm.ClassFile.FieldType.boolean)]
set_option maxRecDepth 65536 in
theorem codes_eq : words1.filter isCode = codes1 := rfl
theorem w_codes : ∀ c ∈ words1.filter isCode, c.before args0 about1 = true := by
  rw [codes_eq]
  intro c hc
  simp only [codes1, List.mem_cons, List.not_mem_nil, or_false] at hc
  rcases hc with rfl | rfl | rfl | rfl
  · exact w_c0
  · exact w_c1
  · exact w_c2
  · exact w_c3
set_option maxRecDepth 65536 in
theorem w_t1 : (words1.take 24).all (fun c => isCode c || c.before args0 about1) = true := by decide +kernel
set_option maxRecDepth 65536 in
theorem w_t2 : (words1.drop 24).all (fun c => isCode c || c.before args0 about1) = true := by decide +kernel
theorem w_tables : (allAtoms (Jvm.Cond.code x code maxLocals ret :: tables_1)).before args0 about1 = true := by
  rw [allAtoms_all]
  show words1.all (fun c => c.before args0 about1) = true
  refine all_split ?_ w_codes
  rw [← List.take_append_drop 24 words1, List.all_append, w_t1, w_t2]
  rfl
set_option maxRecDepth 65536 in
theorem w_case : (Jvm.Cond.and given_1 narrow_1).before args0 about1 = true := by decide +kernel
theorem w_applies : (headSpec (Jvm.Cond.code x code maxLocals ret :: tables_1) room_1).applies x e0.platform about1 = true :=
  (Spec.applies_iff w_frames).mpr ⟨w_running, w_runnable, w_alone, w_named, w_hears, w_ripe, w_room, w_tables⟩
theorem atStart : AtStart classFile x code maxLocals ret World_1 tables_1 room_1 Calls_1 rest_1 Pre_1 launch0 p0 e0 about1 theMethod args0 below0 :=
  ⟨lists_1, trivial, launch0.admits_env _ _ _, launch0.least_env, fairChoices_fair.cas, fairChoices_fair.clock, w_frames, w_args, w_heap, w_applies, trivial, trivial, w_case⟩
end start1
theorem witness_1 : WitnessClaimed_1 := ⟨start1.p0, start1.e0, start1.about1, start1.theMethod, start1.args0, start1.below0, start1.atStart⟩
end Jvm.Pilot.@@N@@
