import JvmDerived
import JvmDerived.Pilot.@@N@@Statement
import JvmDerived.Pilot.@@N@@Code
set_option linter.unusedVariables false
set_option linter.unusedSimpArgs false
namespace Jvm.RoadKit
open Sem ClassFile Op Lib Jvm.Stand Jvm.Free Jvm.LawKit
section New
variable {p : Program} {l : Launch} {e : Env} {R : Room} {s : State} {m : MethodId} {args : Array Value} {below : List Frame} {meth : Method} {c : Code} {T : State} {locs : List Loc} {cells slots : Nat}
theorem retI (X : Stand p l e R s m args below meth c T locs cells slots) (hx : p.tables.exec = Jvm.exec) {pc : Nat} {Ls : Array Slot} {z : Int32} {rest : List Value} (hret : meth.sig.returnType = some .int) (hd : decode c.code pc = .ok (.ireturn, 1)) {fs : List Frame}
    (hl : ∀ (f : JFrame) (acts : List Action), f.method = m → f.locked = none → f.entered = [] → (doReturn e (T.setTop f) acts (some (.int z))).1 = T.setFrames fs) : Steps p.tables e below (T.setTop (mkF m pc Ls (.int z :: rest))) (T.setFrames fs) := by
  have hm' : T.vm.method? m = some meth := X.method'
  have hn : narrow .int (.int z) = .int z := rfl
  show Steps p.tables e below (T.setTop { method := m, pc := pc, locals := Ls, stack := _ :: rest, locked := none }) _
  jvm_step X.here [X.here.top, hx, hd, hm', hret, hn]
  first | (intro acts; rw [hl _ acts rfl rfl rfl]) | rw [hl _ _ rfl rfl rfl]
  exact Steps.refl _
theorem own_retJ (X : Stand p l e R s m args below meth c T locs cells slots) (hx : p.tables.exec = Jvm.exec) {pc : Nat} {Ls : Array Slot} {z : Int64} {rest : List Value} (hret : meth.sig.returnType = some .long) (hd : decode c.code pc = .ok (.lreturn, 1)) {fs : List Frame}
    (hl : ∀ (f : JFrame) (acts : List Action), f.method = m → f.locked = none → f.entered = [] → (doReturn e (T.setTop f) acts (some (.long z))).1 = T.setFrames fs) : Steps p.tables e below (T.setTop (mkF m pc Ls (.long z :: rest))) (T.setFrames fs) :=
  retOut X hx hret rfl (Or.inr (Or.inl ⟨rfl, rfl, z, rfl⟩)) hd hl
theorem own_retA (X : Stand p l e R s m args below meth c T locs cells slots) (hx : p.tables.exec = Jvm.exec) {pc : Nat} {Ls : Array Slot} {w : Value} {t : FieldType} {rest : List Value} (hret : meth.sig.returnType = some t) (ht : t.isReference = true) (hw : w.isRef = true) (hd : decode c.code pc = .ok (.areturn, 1)) {fs : List Frame}
    (hl : ∀ (f : JFrame) (acts : List Action), f.method = m → f.locked = none → f.entered = [] → (doReturn e (T.setTop f) acts (some w)).1 = T.setFrames fs) : Steps p.tables e below (T.setTop (mkF m pc Ls (w :: rest))) (T.setFrames fs) :=
  retOut X hx hret (by rcases ref_cases hw with rfl | ⟨a, rfl⟩ <;> cases t <;> first | rfl | (simp [FieldType.isReference] at ht)) (Or.inr (Or.inr (Or.inr (Or.inr ⟨rfl, ht, hw⟩)))) hd hl
theorem own_retN (X : Stand p l e R s m args below meth c T locs cells slots) (hx : p.tables.exec = Jvm.exec) {pc : Nat} {Ls : Array Slot} {z z' : Int32} {t : FieldType} {rest : List Value} (hret : meth.sig.returnType = some t) (ht : t = .boolean ∨ t = .byte ∨ t = .char ∨ t = .short) (hz : nar t z = z')
    (hd : decode c.code pc = .ok (.ireturn, 1)) {fs : List Frame} (hl : ∀ (f : JFrame) (acts : List Action), f.method = m → f.locked = none → f.entered = [] → (doReturn e (T.setTop f) acts (some (.int z'))).1 = T.setFrames fs) :
    Steps p.tables e below (T.setTop (mkF m pc Ls (.int z :: rest))) (T.setFrames fs) := by subst hz; exact retN X hx hret ht hd hl
/-- from a state, some run leads to an end that F takes -/
def own_Gl (tb : Tables) (e : Env) (below : List Frame) (F : State → Outcome → Prop) (st : State) : Prop := ∃ s₂ o, Steps tb e below st s₂ ∧ F s₂ o
theorem own_go {tb : Tables} {F : State → Outcome → Prop} {st st' : State} (h : ∀ t, Steps tb e below st' t → Steps tb e below st t) (g : own_Gl tb e below F st') : own_Gl tb e below F st := by
  obtain ⟨t, o, k, r⟩ := g; exact ⟨t, o, h t k, r⟩
theorem own_fin {tb : Tables} {F : State → Outcome → Prop} {st t : State} {o : Outcome} (h : Steps tb e below st t) (r : F t o) : own_Gl tb e below F st := ⟨t, o, h, r⟩
theorem own_start {tb : Tables} {G : State → Outcome → Prop} {g g' : JFrame} (q : g = g') (k : ∀ F, F = G → own_Gl tb e below F (T.setTop g')) : ∃ s₂ o, Steps tb e below (T.setTop g) s₂ ∧ G s₂ o := by subst q; exact k G rfl
/-- the counts of a stand as plain numbers -/
theorem own_sn {k k' n n' : Nat} {L : List Loc} (X : Stand p l e R s m args below meth c T L k n) (hk : k = k') (hn : n = n') : Stand p l e R s m args below meth c T L k' n' := by subst hk hn; exact X
theorem own_fr {n0 : Nat} {L A B : List Loc} (q : L = A ++ B) (NA : Fr n0 A) (NB : Fr n0 B) : Fr n0 L := by subst q; exact Fr.app NA NB
theorem own_frn {n0 : Nat} {L : List Loc} (q : L = []) : Fr n0 L := by subst q; exact Fr.nil n0
end New
/-- an array of length z whose place j holds g j -/
def own_A (Z : State) (h : Heap) (a : Addr) (ty : FieldType) (z : Int32) (g : Nat → Value) : Prop := ∃ c : Cell, Arr Z h a c ty ∧ c.slots.size = z.toNatClampNeg ∧ ¬ z < 0 ∧ ∀ j, j < c.slots.size → c.slots[j]? = some (g j)
section OwnA
variable {Z : State} {h h' : Heap} {a b : Addr} {ty : FieldType} {z : Int32} {g : Nat → Value} {sl : Nat} {v : Value} {ws : List Addr}
theorem own_A.lt (F : own_A Z h a ty z g) : a < h.size := by obtain ⟨c, A, -⟩ := F; exact A.lt
theorem own_A.ext (F : own_A Z h a ty z g) (E : Ext h h') : own_A Z h' a ty z g := by obtain ⟨c, A, r⟩ := F; exact ⟨c, A.ext E, r⟩
theorem own_A.other (F : own_A Z h b ty z g) (W : Wr h h' a sl v) (q : b ≠ a) : own_A Z h' b ty z g := by obtain ⟨c, A, r⟩ := F; exact ⟨c, A.other W q, r⟩
theorem own_A.keep (F : own_A Z h a ty z g) (K : Keep h h' ws) (q : a ∉ ws) : own_A Z h' a ty z g := by obtain ⟨c, A, r⟩ := F; exact ⟨c, ⟨K.2.1 a c A.1 q, A.2⟩, r⟩
theorem own_A.set (F : own_A Z h a ty z g) {i : Nat} (W : Wr h h' a i v) : own_A Z h' a ty z (fun k => if k = i then v else g k) := by
  obtain ⟨c, A, S, N, H⟩ := F
  refine ⟨_, A.same W, by rw [sz_set]; exact S, N, fun j hj => ?_⟩
  rw [sz_set] at hj
  by_cases u : j = i
  · subst u; simp [Cell.setSlot, hj]
  · show _ = some (if j = i then v else g j)
    rw [if_neg u]; simp only [Cell.setSlot]; rw [Array.getElem?_setIfInBounds_ne (fun q => u q.symm)]; exact H j hj
theorem own_A.new {k : ClassId} (A : Arr Z h a (newA k ty z) ty) (q : ¬ z < 0) : own_A Z h a ty z (fun _ => defaultValue ty) := by
  obtain ⟨c, A', -, S, N, H, -⟩ := Arv.new A q
  exact ⟨c, A', S, N, fun j hj => H j hj⟩
theorem own_A.of (F : own_A Z h a ty z g) {g' : Nat → Value} (q : ∀ j, j < z.toNatClampNeg → g j = g' j) : own_A Z h a ty z g' := by
  obtain ⟨c, A, S, N, H⟩ := F; exact ⟨c, A, S, N, fun j hj => by rw [← q j (S ▸ hj)]; exact H j hj⟩
end OwnA
end Jvm.RoadKit
namespace Jvm.Pilot.@@N@@
open Jvm Jvm.ClassFile Sem Op Lib Jvm.Free Jvm.Stand Jvm.LawKit Jvm.RoadKit Bundle Jvm.Pilot.@@N@@.Jvm.D

theorem own_m (x : Int32) : x &&& 3 = 0 ∨ x &&& 3 = 1 ∨ x &&& 3 = 2 ∨ x &&& 3 = 3 := by
  have h : (x &&& 3).toBitVec = 0#32 ∨ (x &&& 3).toBitVec = 1#32 ∨ (x &&& 3).toBitVec = 2#32 ∨ (x &&& 3).toBitVec = 3#32 := by
    have e : (x &&& 3).toBitVec = x.toBitVec &&& 3#32 := rfl
    rw [e]
    have hb : (x.toBitVec &&& 3#32).toNat = x.toBitVec.toNat % 4 := by
      rw [BitVec.toNat_and]; exact Nat.and_two_pow_sub_one_eq_mod _ 2
    have hl : x.toBitVec.toNat % 4 < 4 := Nat.mod_lt _ (by decide)
    rcases (by omega : x.toBitVec.toNat % 4 = 0 ∨ x.toBitVec.toNat % 4 = 1 ∨ x.toBitVec.toNat % 4 = 2 ∨ x.toBitVec.toNat % 4 = 3) with q | q | q | q
    · exact Or.inl (BitVec.eq_of_toNat_eq (by rw [hb, q]; rfl))
    · exact Or.inr (Or.inl (BitVec.eq_of_toNat_eq (by rw [hb, q]; rfl)))
    · exact Or.inr (Or.inr (Or.inl (BitVec.eq_of_toNat_eq (by rw [hb, q]; rfl))))
    · exact Or.inr (Or.inr (Or.inr (BitVec.eq_of_toNat_eq (by rw [hb, q]; rfl))))
  rcases h with h | h | h | h
  · exact Or.inl (Int32.toBitVec_inj.mp h)
  · exact Or.inr (Or.inl (Int32.toBitVec_inj.mp h))
  · exact Or.inr (Or.inr (Or.inl (Int32.toBitVec_inj.mp h)))
  · exact Or.inr (Or.inr (Or.inr (Int32.toBitVec_inj.mp h)))
theorem own_cn (x : Int32) : (x &&& 3) + 1 = 1 ∨ (x &&& 3) + 1 = 2 ∨ (x &&& 3) + 1 = 3 ∨ (x &&& 3) + 1 = 4 := by
  rcases own_m x with h | h | h | h <;> rw [h] <;> decide
def own_C (c : Int32) : Prop := c = 1 ∨ c = 2 ∨ c = 3 ∨ c = 4
def own_I (i c : Int32) : Prop := (i = 0 ∧ own_C c) ∨ (i = 1 ∧ (c = 2 ∨ c = 3 ∨ c = 4)) ∨ (i = 2 ∧ (c = 3 ∨ c = 4)) ∨ (i = 3 ∧ c = 4)
theorem own_ix (y : Int32) {c : Int32} (hc : own_C c) : own_I ((y &&& 3) % c) c := by
  rcases own_m y with h | h | h | h <;> rw [h] <;> rcases hc with rfl | rfl | rfl | rfl <;> simp only [own_I, own_C] <;> decide
theorem own_nz {c : Int32} (hc : own_C c) : c ≠ 0 := by rcases hc with rfl | rfl | rfl | rfl <;> decide
theorem own_neg {c : Int32} (hc : own_C c) : ¬ ((4 : Int32) * c < 0) := by rcases hc with rfl | rfl | rfl | rfl <;> decide
theorem own_neg' {c : Int32} (hc : own_C c) : ¬ (c < 0) := by rcases hc with rfl | rfl | rfl | rfl <;> decide
theorem own_cap {c : Int32} (hc : own_C c) : ((4 : Int32) * c).toNatClampNeg ≤ 16 := by rcases hc with rfl | rfl | rfl | rfl <;> decide
theorem own_cap' {c : Int32} (hc : own_C c) : c.toNatClampNeg ≤ 4 := by rcases hc with rfl | rfl | rfl | rfl <;> decide
theorem own_div {c : Int32} (hc : own_C c) : ((4 : Int32) * c) / (4 : Int32) = c := by rcases hc with rfl | rfl | rfl | rfl <;> decide
theorem own_in {i c k : Int32} (hi : own_I i c) (hk : k = 0 ∨ k = 1 ∨ k = 2 ∨ k = 3) : ¬ ((((4 : Int32) * i) + k) < 0) ∧ (((4 : Int32) * i) + k) < (4 : Int32) * c := by
  rcases hi with ⟨rfl, rfl | rfl | rfl | rfl⟩ | ⟨rfl, rfl | rfl | rfl⟩ | ⟨rfl, rfl | rfl⟩ | ⟨rfl, rfl⟩ <;> rcases hk with rfl | rfl | rfl | rfl <;> decide
def own_put (g : Nat → Value) (i a b c d : Int32) : Nat → Value :=
  (fun k => if k = (((4 : Int32) * i) + (3 : Int32)).toNatClampNeg then (.int d) else (fun k => if k = (((4 : Int32) * i) + (2 : Int32)).toNatClampNeg then (.int c) else (fun k => if k = (((4 : Int32) * i) + (1 : Int32)).toNatClampNeg then (.int b) else (fun k => if k = (((4 : Int32) * i) + (0 : Int32)).toNatClampNeg then (.int a) else g k) k) k) k)
theorem own_put0 (g : Nat → Value) {i z : Int32} (hi : own_I i z) (a b c d : Int32) : own_put g i a b c d (((4 : Int32) * i) + (0 : Int32)).toNatClampNeg = .int a := by
  rcases hi with ⟨rfl, -⟩ | ⟨rfl, -⟩ | ⟨rfl, -⟩ | ⟨rfl, -⟩ <;> rfl
theorem own_put1 (g : Nat → Value) {i z : Int32} (hi : own_I i z) (a b c d : Int32) : own_put g i a b c d (((4 : Int32) * i) + (1 : Int32)).toNatClampNeg = .int b := by
  rcases hi with ⟨rfl, -⟩ | ⟨rfl, -⟩ | ⟨rfl, -⟩ | ⟨rfl, -⟩ <;> rfl
theorem own_put2 (g : Nat → Value) {i z : Int32} (hi : own_I i z) (a b c d : Int32) : own_put g i a b c d (((4 : Int32) * i) + (2 : Int32)).toNatClampNeg = .int c := by
  rcases hi with ⟨rfl, -⟩ | ⟨rfl, -⟩ | ⟨rfl, -⟩ | ⟨rfl, -⟩ <;> rfl
theorem own_put3 (g : Nat → Value) {i z : Int32} (hi : own_I i z) (a b c d : Int32) : own_put g i a b c d (((4 : Int32) * i) + (3 : Int32)).toNatClampNeg = .int d := by
  rcases hi with ⟨rfl, -⟩ | ⟨rfl, -⟩ | ⟨rfl, -⟩ | ⟨rfl, -⟩ <;> rfl
/-- what 'untouched' asks of an array: outside lo .. hi it holds 0 -/
def own_U (g : Nat → Value) (lo hi : Int32) : Prop := ∀ j : Int32, ¬ j < 0 → (j < lo ∨ ¬ j < hi) → g j.toNatClampNeg = .int 0
theorem own_putU {i z : Int32} (hi : own_I i z) (a b c d : Int32) : own_U (own_put (fun _ => .int 0) i a b c d) ((4 : Int32) * i) (((4 : Int32) * i) + (4 : Int32)) := by
  intro j hj hlh
  rw [Int32.lt_iff_toInt_lt] at hj
  have e0 : (0 : Int32).toInt = 0 := rfl
  have key : ∀ n : Nat, (n : Int) < ((4 : Int32) * i).toInt ∨ (((4 : Int32) * i) + (4 : Int32)).toInt ≤ n → own_put (fun _ => .int 0) i a b c d n = .int 0 := by
    intro n hn
    rcases hi with ⟨rfl, -⟩ | ⟨rfl, -⟩ | ⟨rfl, -⟩ | ⟨rfl, -⟩
    · have h1 : ((4 : Int32) * 0).toInt = 0 := rfl
      have h2 : (((4 : Int32) * 0) + (4 : Int32)).toInt = 4 := rfl
      rw [h1, h2] at hn
      have a3 : n ≠ (((4 : Int32) * 0) + (3 : Int32)).toNatClampNeg := by show n ≠ 3; omega
      have a2 : n ≠ (((4 : Int32) * 0) + (2 : Int32)).toNatClampNeg := by show n ≠ 2; omega
      have a1 : n ≠ (((4 : Int32) * 0) + (1 : Int32)).toNatClampNeg := by show n ≠ 1; omega
      have a0 : n ≠ (((4 : Int32) * 0) + (0 : Int32)).toNatClampNeg := by show n ≠ 0; omega
      simp only [own_put, if_neg a3, if_neg a2, if_neg a1, if_neg a0]
    · have h1 : ((4 : Int32) * 1).toInt = 4 := rfl
      have h2 : (((4 : Int32) * 1) + (4 : Int32)).toInt = 8 := rfl
      rw [h1, h2] at hn
      have a3 : n ≠ (((4 : Int32) * 1) + (3 : Int32)).toNatClampNeg := by show n ≠ 7; omega
      have a2 : n ≠ (((4 : Int32) * 1) + (2 : Int32)).toNatClampNeg := by show n ≠ 6; omega
      have a1 : n ≠ (((4 : Int32) * 1) + (1 : Int32)).toNatClampNeg := by show n ≠ 5; omega
      have a0 : n ≠ (((4 : Int32) * 1) + (0 : Int32)).toNatClampNeg := by show n ≠ 4; omega
      simp only [own_put, if_neg a3, if_neg a2, if_neg a1, if_neg a0]
    · have h1 : ((4 : Int32) * 2).toInt = 8 := rfl
      have h2 : (((4 : Int32) * 2) + (4 : Int32)).toInt = 12 := rfl
      rw [h1, h2] at hn
      have a3 : n ≠ (((4 : Int32) * 2) + (3 : Int32)).toNatClampNeg := by show n ≠ 11; omega
      have a2 : n ≠ (((4 : Int32) * 2) + (2 : Int32)).toNatClampNeg := by show n ≠ 10; omega
      have a1 : n ≠ (((4 : Int32) * 2) + (1 : Int32)).toNatClampNeg := by show n ≠ 9; omega
      have a0 : n ≠ (((4 : Int32) * 2) + (0 : Int32)).toNatClampNeg := by show n ≠ 8; omega
      simp only [own_put, if_neg a3, if_neg a2, if_neg a1, if_neg a0]
    · have h1 : ((4 : Int32) * 3).toInt = 12 := rfl
      have h2 : (((4 : Int32) * 3) + (4 : Int32)).toInt = 16 := rfl
      rw [h1, h2] at hn
      have a3 : n ≠ (((4 : Int32) * 3) + (3 : Int32)).toNatClampNeg := by show n ≠ 15; omega
      have a2 : n ≠ (((4 : Int32) * 3) + (2 : Int32)).toNatClampNeg := by show n ≠ 14; omega
      have a1 : n ≠ (((4 : Int32) * 3) + (1 : Int32)).toNatClampNeg := by show n ≠ 13; omega
      have a0 : n ≠ (((4 : Int32) * 3) + (0 : Int32)).toNatClampNeg := by show n ≠ 12; omega
      simp only [own_put, if_neg a3, if_neg a2, if_neg a1, if_neg a0]
  apply key
  have en : ((j.toNatClampNeg : Nat) : Int) = j.toInt := by simp only [Int32.toNatClampNeg]; omega
  rw [en]
  rcases hlh with q | q
  · rw [Int32.lt_iff_toInt_lt] at q; exact Or.inl q
  · rw [Int32.lt_iff_toInt_lt] at q; exact Or.inr (by omega)
theorem ef_rm1 (m : MethodId) (x0 : Int32) : entryFrame m #[(.int x0)] 1 = mkF m 0 #[.val (.int x0)] [] := by first | (simp [entryFrame, mkF, argsToLocals, Value.category]; done) | rfl
theorem pn_0 : plainName "com/example/palimpsest/palimpsest/storage/RecordWrites" = true := by first | (simp [plainName, overriddenIn]; done) | decide +kernel
theorem d1_0 : decode prog_159_method_2_code 0 = .ok (.iconst 4, 1) := by decide +kernel
theorem d1_1 : decode prog_159_method_2_code 1 = .ok (.iload_n 0, 1) := by decide +kernel
theorem d1_2 : decode prog_159_method_2_code 2 = .ok (.imul, 1) := by decide +kernel
theorem d1_3 : decode prog_159_method_2_code 3 = .ok (.newarray .int, 2) := by decide +kernel
theorem d1_5 : decode prog_159_method_2_code 5 = .ok (.areturn, 1) := by decide +kernel
def Q_rm1 (Z : State) (p1 : Int32) (h0 : Heap) (n0 : Nat) (v : Option Value) (h : Heap) (L : List Loc) : Prop := ∃ b : Addr, v = some (.ref b) ∧ Fr n0 L ∧ Keep h0 h [] ∧ h0.size ≤ b ∧ own_A Z h b .int ((4 : Int32) * p1) (fun _ => (.int (0 : Int32)))
set_option maxRecDepth 65536 in
set_option maxHeartbeats 40000000 in
theorem rm1 (l : Launch) (Z : State) (a0 : Array Value) (hw : ∀ d ∈ tables_1, d.before a0 Z = true) (ws : List Jvm.Cond) (p1 : Int32) (h0 : Heap) (n0 : Nat) (Z0 : n0 ≤ h0.size) (hc : own_C p1) :
    MetFree l (⟨"com/example/palimpsest/palimpsest/storage/RecordWrites", "places", "(I)[I"⟩ : MethodName) (head1 (Jvm.Cond.code (⟨"com/example/palimpsest/palimpsest/storage/RecordWrites", "places", "(I)[I"⟩ : MethodName) prog_159_method_2_code 1 (some (.array .int)) :: ws) ({ frames := 0, cells := 1, slots := 16, locals := 0 } : Room)) (fun ag U => ag = #[(.int p1)] ∧ Z.Warmed39 U.vm ∧ U.heap = h0) (fun _ _ _ _ _ => True) (fun _ U o U' => ∃ v L, o = .returned v ∧ Q_rm1 Z p1 h0 n0 v U'.heap L ∧ FrameEnd U o U' L ({ frames := 0, cells := 1, slots := 16, locals := 0 } : Room).cells ({ frames := 0, cells := 1, slots := 16, locals := 0 } : Room).slots) := by
  refine MetFree.of_bodySF (plainFor_of_name pn_0) hisR ?_
  intro p e s m args below meth c s₁ Bd hml0 hP hK
  obtain ⟨rfl, hZ, hh⟩ := hP
  have hx := Bd.exec
  have hby := Bd.bytes
  have hml : c.maxLocals = 1 := hml0
  have hown : s.vm.findClass "com/example/palimpsest/palimpsest/storage/RecordWrites" = some m.cls := findClass_of_methodNamed Bd.named
  have hnm := (name_of_methodNamed Bd.named Bd.method).1
  have X0 : Stand p l e ({ frames := 0, cells := 1, slots := 16, locals := 0 } : Room) s m #[(.int p1)] below meth c s₁ [] 0 0 := Stand.of_body Bd
  have e0 : s₁.heap = h0 := by rw [← hh, Bd.state]; rfl
  have N0 := Fr.nil n0
  refine own_start (ef_rm1 m p1) ?_
  intro F hF
  show own_Gl p.tables e below F (s₁.setTop (mkF m 0 #[.val (.int p1)] []))
  refine own_go (fun _ k => XS.iconst X0.here hx rfl (hb hby d1_0) k) ?_
  show own_Gl p.tables e below F (s₁.setTop (mkF m 1 #[.val (.int p1)] [(.int (4 : Int32))]))
  refine own_go (fun _ k => XS.iloadN X0.here hx rfl (hb hby d1_1) rfl k) ?_
  show own_Gl p.tables e below F (s₁.setTop (mkF m 2 #[.val (.int p1)] [(.int p1), (.int (4 : Int32))]))
  refine own_go (fun _ k => XS.imul X0.here hx rfl (hb hby d1_2) rfl k) ?_
  show own_Gl p.tables e below F (s₁.setTop (mkF m 3 #[.val (.int p1)] [(.int ((4 : Int32) * p1))]))
  obtain ⟨T1, h1, k1, X1, e1, E1, A1, st1⟩ := newP X0 hx hZ (hw _ (List.mem_of_getElem? (i := 4) rfl)) e0 (g := (mkF m 3 #[.val (.int p1)] [(.int ((4 : Int32) * p1))])) rfl (hb hby d1_3) rfl (own_neg hc) (cap := 16) (own_cap hc) (by decide) (by decide) (by decide)
  obtain ⟨b1, g1⟩ : ∃ z, z = h0.size := ⟨_, rfl⟩
  rw [← g1] at A1 st1
  have ge_b1 : n0 ≤ b1 := Nat.le_trans Z0 (Nat.le_of_eq g1.symm)
  have sz_b1 : h0.size ≤ b1 := Nat.le_trans ((Keep.refl h0 [])).1 (Nat.le_of_eq g1.symm)
  have Z1 : n0 ≤ h1.size := Nat.le_trans Z0 E1.1
  have K1 := Keep.ext (Keep.refl h0 []) E1
  have V1 : own_A Z h1 b1 .int ((4 : Int32) * p1) (fun _ => (.int (0 : Int32))) := own_A.new A1 (own_neg hc)
  have X1 : Stand _ _ _ _ _ _ _ _ _ _ _ _ 1 16 := X1
  refine own_go st1 ?_
  show own_Gl p.tables e below F (T1.setTop (mkF m 5 #[.val (.int p1)] [(.ref b1)]))
  obtain ⟨fs, hr, hrun, hended, hW, hsame⟩ := X1.leave (v := some (.ref b1)) (fun h => by rw [Bd.returns] at h; cases h)
  subst hF
  refine own_fin ?_ ⟨hrun, hended, _, _, rfl, ?_, ⟨_, rfl⟩, hW, hsame.mono (by first | decide | exact Nat.le_of_ble_eq_true rfl) (by first | decide | exact Nat.le_of_ble_eq_true rfl)⟩
  · exact own_retA X1 hx Bd.returns rfl rfl (hb hby d1_5) hr
  · show Q_rm1 Z _ h0 n0 _ T1.heap _
    rw [e1]
    exact ⟨b1, rfl, N0, K1, sz_b1, V1⟩
theorem ef_rm2 (m : MethodId) (x0 : Addr) (x1 : Int32) (x2 : Int32) (x3 : Int32) (x4 : Int32) (x5 : Int32) : entryFrame m #[(.ref x0), (.int x1), (.int x2), (.int x3), (.int x4), (.int x5)] 7 = mkF m 0 #[.val (.ref x0), .val (.int x1), .val (.int x2), .val (.int x3), .val (.int x4), .val (.int x5), .unset] [] := by first | (simp [entryFrame, mkF, argsToLocals, Value.category]; done) | rfl
theorem d2_0 : decode prog_159_method_3_code 0 = .ok (.iconst 4, 1) := by decide +kernel
theorem d2_1 : decode prog_159_method_3_code 1 = .ok (.iload_n 1, 1) := by decide +kernel
theorem d2_2 : decode prog_159_method_3_code 2 = .ok (.imul, 1) := by decide +kernel
theorem d2_3 : decode prog_159_method_3_code 3 = .ok (.istore 6, 2) := by decide +kernel
theorem d2_5 : decode prog_159_method_3_code 5 = .ok (.aload_n 0, 1) := by decide +kernel
theorem d2_6 : decode prog_159_method_3_code 6 = .ok (.iload 6, 2) := by decide +kernel
theorem d2_8 : decode prog_159_method_3_code 8 = .ok (.iconst 0, 1) := by decide +kernel
theorem d2_9 : decode prog_159_method_3_code 9 = .ok (.iadd, 1) := by decide +kernel
theorem d2_10 : decode prog_159_method_3_code 10 = .ok (.iload_n 2, 1) := by decide +kernel
theorem d2_11 : decode prog_159_method_3_code 11 = .ok (.iastore, 1) := by decide +kernel
theorem d2_12 : decode prog_159_method_3_code 12 = .ok (.aload_n 0, 1) := by decide +kernel
theorem d2_13 : decode prog_159_method_3_code 13 = .ok (.iload 6, 2) := by decide +kernel
theorem d2_15 : decode prog_159_method_3_code 15 = .ok (.iconst 1, 1) := by decide +kernel
theorem d2_16 : decode prog_159_method_3_code 16 = .ok (.iadd, 1) := by decide +kernel
theorem d2_17 : decode prog_159_method_3_code 17 = .ok (.iload_n 3, 1) := by decide +kernel
theorem d2_18 : decode prog_159_method_3_code 18 = .ok (.iastore, 1) := by decide +kernel
theorem d2_19 : decode prog_159_method_3_code 19 = .ok (.aload_n 0, 1) := by decide +kernel
theorem d2_20 : decode prog_159_method_3_code 20 = .ok (.iload 6, 2) := by decide +kernel
theorem d2_22 : decode prog_159_method_3_code 22 = .ok (.iconst 2, 1) := by decide +kernel
theorem d2_23 : decode prog_159_method_3_code 23 = .ok (.iadd, 1) := by decide +kernel
theorem d2_24 : decode prog_159_method_3_code 24 = .ok (.iload 4, 2) := by decide +kernel
theorem d2_26 : decode prog_159_method_3_code 26 = .ok (.iastore, 1) := by decide +kernel
theorem d2_27 : decode prog_159_method_3_code 27 = .ok (.aload_n 0, 1) := by decide +kernel
theorem d2_28 : decode prog_159_method_3_code 28 = .ok (.iload 6, 2) := by decide +kernel
theorem d2_30 : decode prog_159_method_3_code 30 = .ok (.iconst 3, 1) := by decide +kernel
theorem d2_31 : decode prog_159_method_3_code 31 = .ok (.iadd, 1) := by decide +kernel
theorem d2_32 : decode prog_159_method_3_code 32 = .ok (.iload 5, 2) := by decide +kernel
theorem d2_34 : decode prog_159_method_3_code 34 = .ok (.iastore, 1) := by decide +kernel
theorem d2_35 : decode prog_159_method_3_code 35 = .ok (.return_, 1) := by decide +kernel
def Q_rm2 (Z : State) (a : Addr) (p1 p2 p3 p4 p5 : Int32) (c0 : Int32) (g : Nat → Value) (h0 : Heap) (n0 : Nat) (v : Option Value) (h : Heap) (L : List Loc) : Prop := v = none ∧ Fr n0 L ∧ Keep h0 h [a] ∧ own_A Z h a .int ((4 : Int32) * c0) (own_put g p1 p2 p3 p4 p5)
set_option maxRecDepth 65536 in
set_option maxHeartbeats 40000000 in
theorem rm2 (l : Launch) (Z : State) (a0 : Array Value) (hw : ∀ d ∈ tables_1, d.before a0 Z = true) (ws : List Jvm.Cond) (a : Addr) (p1 p2 p3 p4 p5 : Int32) (c0 : Int32) (g : Nat → Value) (h0 : Heap) (n0 : Nat) (Z0 : n0 ≤ h0.size) (A0 : own_A Z h0 a .int ((4 : Int32) * c0) g) (hi : own_I p1 c0) (g_a : n0 ≤ a) :
    MetFree l (⟨"com/example/palimpsest/palimpsest/storage/RecordWrites", "place", "([IIIIII)V"⟩ : MethodName) (head1 (Jvm.Cond.code (⟨"com/example/palimpsest/palimpsest/storage/RecordWrites", "place", "([IIIIII)V"⟩ : MethodName) prog_159_method_3_code 7 none :: ws) ({ frames := 0, cells := 0, slots := 0, locals := 0 } : Room)) (fun ag U => ag = #[(.ref a), (.int p1), (.int p2), (.int p3), (.int p4), (.int p5)] ∧ Z.Warmed39 U.vm ∧ U.heap = h0) (fun _ _ _ _ _ => True) (fun _ U o U' => ∃ v L, o = .returned v ∧ Q_rm2 Z a p1 p2 p3 p4 p5 c0 g h0 n0 v U'.heap L ∧ FrameEnd U o U' L ({ frames := 0, cells := 0, slots := 0, locals := 0 } : Room).cells ({ frames := 0, cells := 0, slots := 0, locals := 0 } : Room).slots) := by
  refine MetFree.of_bodySF (plainFor_of_name pn_0) hisR ?_
  intro p e s m args below meth c s₁ Bd hml0 hP hK
  obtain ⟨rfl, hZ, hh⟩ := hP
  have hx := Bd.exec
  have hby := Bd.bytes
  have hml : c.maxLocals = 7 := hml0
  have hown : s.vm.findClass "com/example/palimpsest/palimpsest/storage/RecordWrites" = some m.cls := findClass_of_methodNamed Bd.named
  have hnm := (name_of_methodNamed Bd.named Bd.method).1
  have X0 : Stand p l e ({ frames := 0, cells := 0, slots := 0, locals := 0 } : Room) s m #[(.ref a), (.int p1), (.int p2), (.int p3), (.int p4), (.int p5)] below meth c s₁ [] 0 0 := Stand.of_body Bd
  have e0 : s₁.heap = h0 := by rw [← hh, Bd.state]; rfl
  have N0 := Fr.nil n0
  refine own_start (ef_rm2 m a p1 p2 p3 p4 p5) ?_
  intro F hF
  show own_Gl p.tables e below F (s₁.setTop (mkF m 0 #[.val (.ref a), .val (.int p1), .val (.int p2), .val (.int p3), .val (.int p4), .val (.int p5), .unset] []))
  refine own_go (fun _ k => XS.iconst X0.here hx rfl (hb hby d2_0) k) ?_
  show own_Gl p.tables e below F (s₁.setTop (mkF m 1 #[.val (.ref a), .val (.int p1), .val (.int p2), .val (.int p3), .val (.int p4), .val (.int p5), .unset] [(.int (4 : Int32))]))
  refine own_go (fun _ k => XS.iloadN X0.here hx rfl (hb hby d2_1) rfl k) ?_
  show own_Gl p.tables e below F (s₁.setTop (mkF m 2 #[.val (.ref a), .val (.int p1), .val (.int p2), .val (.int p3), .val (.int p4), .val (.int p5), .unset] [(.int p1), (.int (4 : Int32))]))
  refine own_go (fun _ k => XS.imul X0.here hx rfl (hb hby d2_2) rfl k) ?_
  show own_Gl p.tables e below F (s₁.setTop (mkF m 3 #[.val (.ref a), .val (.int p1), .val (.int p2), .val (.int p3), .val (.int p4), .val (.int p5), .unset] [(.int ((4 : Int32) * p1))]))
  refine own_go (fun _ k => XS.istore X0.here hx rfl (hb hby d2_3) rfl (l' := #[.val (.ref a), .val (.int p1), .val (.int p2), .val (.int p3), .val (.int p4), .val (.int p5), .val (.int ((4 : Int32) * p1))]) rfl k) ?_
  show own_Gl p.tables e below F (s₁.setTop (mkF m 5 #[.val (.ref a), .val (.int p1), .val (.int p2), .val (.int p3), .val (.int p4), .val (.int p5), .val (.int ((4 : Int32) * p1))] []))
  refine own_go (fun _ k => XS.aloadN X0.here hx rfl (hb hby d2_5) rfl rfl k) ?_
  show own_Gl p.tables e below F (s₁.setTop (mkF m 6 #[.val (.ref a), .val (.int p1), .val (.int p2), .val (.int p3), .val (.int p4), .val (.int p5), .val (.int ((4 : Int32) * p1))] [(.ref a)]))
  refine own_go (fun _ k => XS.iload X0.here hx rfl (hb hby d2_6) rfl k) ?_
  show own_Gl p.tables e below F (s₁.setTop (mkF m 8 #[.val (.ref a), .val (.int p1), .val (.int p2), .val (.int p3), .val (.int p4), .val (.int p5), .val (.int ((4 : Int32) * p1))] [(.int ((4 : Int32) * p1)), (.ref a)]))
  refine own_go (fun _ k => XS.iconst X0.here hx rfl (hb hby d2_8) k) ?_
  show own_Gl p.tables e below F (s₁.setTop (mkF m 9 #[.val (.ref a), .val (.int p1), .val (.int p2), .val (.int p3), .val (.int p4), .val (.int p5), .val (.int ((4 : Int32) * p1))] [(.int (0 : Int32)), (.int ((4 : Int32) * p1)), (.ref a)]))
  refine own_go (fun _ k => XS.iadd X0.here hx rfl (hb hby d2_9) rfl k) ?_
  show own_Gl p.tables e below F (s₁.setTop (mkF m 10 #[.val (.ref a), .val (.int p1), .val (.int p2), .val (.int p3), .val (.int p4), .val (.int p5), .val (.int ((4 : Int32) * p1))] [(.int (((4 : Int32) * p1) + (0 : Int32))), (.ref a)]))
  refine own_go (fun _ k => XS.iloadN X0.here hx rfl (hb hby d2_10) rfl k) ?_
  show own_Gl p.tables e below F (s₁.setTop (mkF m 11 #[.val (.ref a), .val (.int p1), .val (.int p2), .val (.int p3), .val (.int p4), .val (.int p5), .val (.int ((4 : Int32) * p1))] [(.int p2), (.int (((4 : Int32) * p1) + (0 : Int32))), (.ref a)]))
  obtain ⟨cl1, Ar1, aS1, aN1, aH1⟩ := id A0
  have hin1 : ¬ ((((4 : Int32) * p1) + (0 : Int32)) < 0 ∨ cl1.slots.size ≤ ((((4 : Int32) * p1) + (0 : Int32))).toNatClampNeg) := inb_of aS1 (own_in hi (by decide))
  obtain ⟨T1, h1, X1, e1, W1, st1⟩ := stI X0 hx hZ e0 Ar1 (j := (((4 : Int32) * p1) + (0 : Int32))) hin1 (g := (mkF m 11 #[.val (.ref a), .val (.int p1), .val (.int p2), .val (.int p3), .val (.int p4), .val (.int p5), .val (.int ((4 : Int32) * p1))] [(.int p2), (.int (((4 : Int32) * p1) + (0 : Int32))), (.ref a)])) rfl rfl (hb hby d2_11)
  have V1 : own_A Z h1 a .int ((4 : Int32) * c0) (fun k => if k = ((((4 : Int32) * p1) + (0 : Int32))).toNatClampNeg then (.int p2) else g k) := own_A.set (g := g) ⟨cl1, Ar1, aS1, aN1, aH1⟩ W1
  have Z1 : n0 ≤ h1.size := by rw [W1.size]; exact Z0
  have K1 := Keep.wr (Keep.refl h0 [a]) W1 (Or.inl (by simp))
  have N1 := Fr.snoc X1 N0 g_a
  refine own_go st1 ?_
  show own_Gl p.tables e below F (T1.setTop (mkF m 12 #[.val (.ref a), .val (.int p1), .val (.int p2), .val (.int p3), .val (.int p4), .val (.int p5), .val (.int ((4 : Int32) * p1))] []))
  refine own_go (fun _ k => XS.aloadN X1.here hx rfl (hb hby d2_12) rfl rfl k) ?_
  show own_Gl p.tables e below F (T1.setTop (mkF m 13 #[.val (.ref a), .val (.int p1), .val (.int p2), .val (.int p3), .val (.int p4), .val (.int p5), .val (.int ((4 : Int32) * p1))] [(.ref a)]))
  refine own_go (fun _ k => XS.iload X1.here hx rfl (hb hby d2_13) rfl k) ?_
  show own_Gl p.tables e below F (T1.setTop (mkF m 15 #[.val (.ref a), .val (.int p1), .val (.int p2), .val (.int p3), .val (.int p4), .val (.int p5), .val (.int ((4 : Int32) * p1))] [(.int ((4 : Int32) * p1)), (.ref a)]))
  refine own_go (fun _ k => XS.iconst X1.here hx rfl (hb hby d2_15) k) ?_
  show own_Gl p.tables e below F (T1.setTop (mkF m 16 #[.val (.ref a), .val (.int p1), .val (.int p2), .val (.int p3), .val (.int p4), .val (.int p5), .val (.int ((4 : Int32) * p1))] [(.int (1 : Int32)), (.int ((4 : Int32) * p1)), (.ref a)]))
  refine own_go (fun _ k => XS.iadd X1.here hx rfl (hb hby d2_16) rfl k) ?_
  show own_Gl p.tables e below F (T1.setTop (mkF m 17 #[.val (.ref a), .val (.int p1), .val (.int p2), .val (.int p3), .val (.int p4), .val (.int p5), .val (.int ((4 : Int32) * p1))] [(.int (((4 : Int32) * p1) + (1 : Int32))), (.ref a)]))
  refine own_go (fun _ k => XS.iloadN X1.here hx rfl (hb hby d2_17) rfl k) ?_
  show own_Gl p.tables e below F (T1.setTop (mkF m 18 #[.val (.ref a), .val (.int p1), .val (.int p2), .val (.int p3), .val (.int p4), .val (.int p5), .val (.int ((4 : Int32) * p1))] [(.int p3), (.int (((4 : Int32) * p1) + (1 : Int32))), (.ref a)]))
  obtain ⟨cl2, Ar2, aS2, aN2, aH2⟩ := id V1
  have hin2 : ¬ ((((4 : Int32) * p1) + (1 : Int32)) < 0 ∨ cl2.slots.size ≤ ((((4 : Int32) * p1) + (1 : Int32))).toNatClampNeg) := inb_of aS2 (own_in hi (by decide))
  obtain ⟨T2, h2, X2, e2, W2, st2⟩ := stI X1 hx hZ e1 Ar2 (j := (((4 : Int32) * p1) + (1 : Int32))) hin2 (g := (mkF m 18 #[.val (.ref a), .val (.int p1), .val (.int p2), .val (.int p3), .val (.int p4), .val (.int p5), .val (.int ((4 : Int32) * p1))] [(.int p3), (.int (((4 : Int32) * p1) + (1 : Int32))), (.ref a)])) rfl rfl (hb hby d2_18)
  have V2 : own_A Z h2 a .int ((4 : Int32) * c0) (fun k => if k = ((((4 : Int32) * p1) + (1 : Int32))).toNatClampNeg then (.int p3) else (fun k => if k = ((((4 : Int32) * p1) + (0 : Int32))).toNatClampNeg then (.int p2) else g k) k) := own_A.set (g := (fun k => if k = ((((4 : Int32) * p1) + (0 : Int32))).toNatClampNeg then (.int p2) else g k)) ⟨cl2, Ar2, aS2, aN2, aH2⟩ W2
  have Z2 : n0 ≤ h2.size := by rw [W2.size]; exact Z1
  have K2 := Keep.wr K1 W2 (Or.inl (by simp))
  have N2 := Fr.snoc X2 N1 g_a
  refine own_go st2 ?_
  show own_Gl p.tables e below F (T2.setTop (mkF m 19 #[.val (.ref a), .val (.int p1), .val (.int p2), .val (.int p3), .val (.int p4), .val (.int p5), .val (.int ((4 : Int32) * p1))] []))
  refine own_go (fun _ k => XS.aloadN X2.here hx rfl (hb hby d2_19) rfl rfl k) ?_
  show own_Gl p.tables e below F (T2.setTop (mkF m 20 #[.val (.ref a), .val (.int p1), .val (.int p2), .val (.int p3), .val (.int p4), .val (.int p5), .val (.int ((4 : Int32) * p1))] [(.ref a)]))
  refine own_go (fun _ k => XS.iload X2.here hx rfl (hb hby d2_20) rfl k) ?_
  show own_Gl p.tables e below F (T2.setTop (mkF m 22 #[.val (.ref a), .val (.int p1), .val (.int p2), .val (.int p3), .val (.int p4), .val (.int p5), .val (.int ((4 : Int32) * p1))] [(.int ((4 : Int32) * p1)), (.ref a)]))
  refine own_go (fun _ k => XS.iconst X2.here hx rfl (hb hby d2_22) k) ?_
  show own_Gl p.tables e below F (T2.setTop (mkF m 23 #[.val (.ref a), .val (.int p1), .val (.int p2), .val (.int p3), .val (.int p4), .val (.int p5), .val (.int ((4 : Int32) * p1))] [(.int (2 : Int32)), (.int ((4 : Int32) * p1)), (.ref a)]))
  refine own_go (fun _ k => XS.iadd X2.here hx rfl (hb hby d2_23) rfl k) ?_
  show own_Gl p.tables e below F (T2.setTop (mkF m 24 #[.val (.ref a), .val (.int p1), .val (.int p2), .val (.int p3), .val (.int p4), .val (.int p5), .val (.int ((4 : Int32) * p1))] [(.int (((4 : Int32) * p1) + (2 : Int32))), (.ref a)]))
  refine own_go (fun _ k => XS.iload X2.here hx rfl (hb hby d2_24) rfl k) ?_
  show own_Gl p.tables e below F (T2.setTop (mkF m 26 #[.val (.ref a), .val (.int p1), .val (.int p2), .val (.int p3), .val (.int p4), .val (.int p5), .val (.int ((4 : Int32) * p1))] [(.int p4), (.int (((4 : Int32) * p1) + (2 : Int32))), (.ref a)]))
  obtain ⟨cl3, Ar3, aS3, aN3, aH3⟩ := id V2
  have hin3 : ¬ ((((4 : Int32) * p1) + (2 : Int32)) < 0 ∨ cl3.slots.size ≤ ((((4 : Int32) * p1) + (2 : Int32))).toNatClampNeg) := inb_of aS3 (own_in hi (by decide))
  obtain ⟨T3, h3, X3, e3, W3, st3⟩ := stI X2 hx hZ e2 Ar3 (j := (((4 : Int32) * p1) + (2 : Int32))) hin3 (g := (mkF m 26 #[.val (.ref a), .val (.int p1), .val (.int p2), .val (.int p3), .val (.int p4), .val (.int p5), .val (.int ((4 : Int32) * p1))] [(.int p4), (.int (((4 : Int32) * p1) + (2 : Int32))), (.ref a)])) rfl rfl (hb hby d2_26)
  have V3 : own_A Z h3 a .int ((4 : Int32) * c0) (fun k => if k = ((((4 : Int32) * p1) + (2 : Int32))).toNatClampNeg then (.int p4) else (fun k => if k = ((((4 : Int32) * p1) + (1 : Int32))).toNatClampNeg then (.int p3) else (fun k => if k = ((((4 : Int32) * p1) + (0 : Int32))).toNatClampNeg then (.int p2) else g k) k) k) := own_A.set (g := (fun k => if k = ((((4 : Int32) * p1) + (1 : Int32))).toNatClampNeg then (.int p3) else (fun k => if k = ((((4 : Int32) * p1) + (0 : Int32))).toNatClampNeg then (.int p2) else g k) k)) ⟨cl3, Ar3, aS3, aN3, aH3⟩ W3
  have Z3 : n0 ≤ h3.size := by rw [W3.size]; exact Z2
  have K3 := Keep.wr K2 W3 (Or.inl (by simp))
  have N3 := Fr.snoc X3 N2 g_a
  refine own_go st3 ?_
  show own_Gl p.tables e below F (T3.setTop (mkF m 27 #[.val (.ref a), .val (.int p1), .val (.int p2), .val (.int p3), .val (.int p4), .val (.int p5), .val (.int ((4 : Int32) * p1))] []))
  refine own_go (fun _ k => XS.aloadN X3.here hx rfl (hb hby d2_27) rfl rfl k) ?_
  show own_Gl p.tables e below F (T3.setTop (mkF m 28 #[.val (.ref a), .val (.int p1), .val (.int p2), .val (.int p3), .val (.int p4), .val (.int p5), .val (.int ((4 : Int32) * p1))] [(.ref a)]))
  refine own_go (fun _ k => XS.iload X3.here hx rfl (hb hby d2_28) rfl k) ?_
  show own_Gl p.tables e below F (T3.setTop (mkF m 30 #[.val (.ref a), .val (.int p1), .val (.int p2), .val (.int p3), .val (.int p4), .val (.int p5), .val (.int ((4 : Int32) * p1))] [(.int ((4 : Int32) * p1)), (.ref a)]))
  refine own_go (fun _ k => XS.iconst X3.here hx rfl (hb hby d2_30) k) ?_
  show own_Gl p.tables e below F (T3.setTop (mkF m 31 #[.val (.ref a), .val (.int p1), .val (.int p2), .val (.int p3), .val (.int p4), .val (.int p5), .val (.int ((4 : Int32) * p1))] [(.int (3 : Int32)), (.int ((4 : Int32) * p1)), (.ref a)]))
  refine own_go (fun _ k => XS.iadd X3.here hx rfl (hb hby d2_31) rfl k) ?_
  show own_Gl p.tables e below F (T3.setTop (mkF m 32 #[.val (.ref a), .val (.int p1), .val (.int p2), .val (.int p3), .val (.int p4), .val (.int p5), .val (.int ((4 : Int32) * p1))] [(.int (((4 : Int32) * p1) + (3 : Int32))), (.ref a)]))
  refine own_go (fun _ k => XS.iload X3.here hx rfl (hb hby d2_32) rfl k) ?_
  show own_Gl p.tables e below F (T3.setTop (mkF m 34 #[.val (.ref a), .val (.int p1), .val (.int p2), .val (.int p3), .val (.int p4), .val (.int p5), .val (.int ((4 : Int32) * p1))] [(.int p5), (.int (((4 : Int32) * p1) + (3 : Int32))), (.ref a)]))
  obtain ⟨cl4, Ar4, aS4, aN4, aH4⟩ := id V3
  have hin4 : ¬ ((((4 : Int32) * p1) + (3 : Int32)) < 0 ∨ cl4.slots.size ≤ ((((4 : Int32) * p1) + (3 : Int32))).toNatClampNeg) := inb_of aS4 (own_in hi (by decide))
  obtain ⟨T4, h4, X4, e4, W4, st4⟩ := stI X3 hx hZ e3 Ar4 (j := (((4 : Int32) * p1) + (3 : Int32))) hin4 (g := (mkF m 34 #[.val (.ref a), .val (.int p1), .val (.int p2), .val (.int p3), .val (.int p4), .val (.int p5), .val (.int ((4 : Int32) * p1))] [(.int p5), (.int (((4 : Int32) * p1) + (3 : Int32))), (.ref a)])) rfl rfl (hb hby d2_34)
  have V4 : own_A Z h4 a .int ((4 : Int32) * c0) (fun k => if k = ((((4 : Int32) * p1) + (3 : Int32))).toNatClampNeg then (.int p5) else (fun k => if k = ((((4 : Int32) * p1) + (2 : Int32))).toNatClampNeg then (.int p4) else (fun k => if k = ((((4 : Int32) * p1) + (1 : Int32))).toNatClampNeg then (.int p3) else (fun k => if k = ((((4 : Int32) * p1) + (0 : Int32))).toNatClampNeg then (.int p2) else g k) k) k) k) := own_A.set (g := (fun k => if k = ((((4 : Int32) * p1) + (2 : Int32))).toNatClampNeg then (.int p4) else (fun k => if k = ((((4 : Int32) * p1) + (1 : Int32))).toNatClampNeg then (.int p3) else (fun k => if k = ((((4 : Int32) * p1) + (0 : Int32))).toNatClampNeg then (.int p2) else g k) k) k)) ⟨cl4, Ar4, aS4, aN4, aH4⟩ W4
  have Z4 : n0 ≤ h4.size := by rw [W4.size]; exact Z3
  have K4 := Keep.wr K3 W4 (Or.inl (by simp))
  have N4 := Fr.snoc X4 N3 g_a
  refine own_go st4 ?_
  show own_Gl p.tables e below F (T4.setTop (mkF m 35 #[.val (.ref a), .val (.int p1), .val (.int p2), .val (.int p3), .val (.int p4), .val (.int p5), .val (.int ((4 : Int32) * p1))] []))
  obtain ⟨fs, hr, hrun, hended, hW, hsame⟩ := X4.leave (v := none) (fun _ => rfl)
  subst hF
  refine own_fin ?_ ⟨hrun, hended, _, _, rfl, ?_, ⟨_, rfl⟩, hW, hsame.mono (by first | decide | exact Nat.le_of_ble_eq_true rfl) (by first | decide | exact Nat.le_of_ble_eq_true rfl)⟩
  · exact X4.returnOut hx Bd.returns (hb hby d2_35) hr
  · show Q_rm2 Z _ _ _ _ _ _ _ _ h0 n0 _ T4.heap _
    rw [e4]
    exact ⟨rfl, N4, K4, V4⟩
theorem ef_rm3 (m : MethodId) (x0 : Addr) (x1 : Addr) (x2 : Addr) (x3 : Addr) (x5 : Int64) : entryFrame m #[(.ref x0), (.ref x1), (.ref x2), (.ref x3), .null, (.long x5)] 7 = mkF m 0 #[.val (.ref x0), .val (.ref x1), .val (.ref x2), .val (.ref x3), .val .null, .val (.long x5), .second] [] := by first | (simp [entryFrame, mkF, argsToLocals, Value.category]; done) | rfl
theorem d3_0 : decode prog_159_method_1_code 0 = .ok (.aload_n 0, 1) := by decide +kernel
theorem d3_1 : decode prog_159_method_1_code 1 = .ok (.invokespecial 1, 3) := by decide +kernel
theorem d3_4 : decode prog_159_method_1_code 4 = .ok (.aload_n 0, 1) := by decide +kernel
theorem d3_5 : decode prog_159_method_1_code 5 = .ok (.aload_n 1, 1) := by decide +kernel
theorem d3_6 : decode prog_159_method_1_code 6 = .ok (.putfield 7, 3) := by decide +kernel
theorem d3_9 : decode prog_159_method_1_code 9 = .ok (.aload_n 0, 1) := by decide +kernel
theorem d3_10 : decode prog_159_method_1_code 10 = .ok (.aload_n 2, 1) := by decide +kernel
theorem d3_11 : decode prog_159_method_1_code 11 = .ok (.putfield 13, 3) := by decide +kernel
theorem d3_14 : decode prog_159_method_1_code 14 = .ok (.aload_n 0, 1) := by decide +kernel
theorem d3_15 : decode prog_159_method_1_code 15 = .ok (.aload_n 3, 1) := by decide +kernel
theorem d3_16 : decode prog_159_method_1_code 16 = .ok (.putfield 17, 3) := by decide +kernel
theorem d3_19 : decode prog_159_method_1_code 19 = .ok (.aload_n 0, 1) := by decide +kernel
theorem d3_20 : decode prog_159_method_1_code 20 = .ok (.aload 4, 2) := by decide +kernel
theorem d3_22 : decode prog_159_method_1_code 22 = .ok (.putfield 20, 3) := by decide +kernel
theorem d3_25 : decode prog_159_method_1_code 25 = .ok (.aload_n 0, 1) := by decide +kernel
theorem d3_26 : decode prog_159_method_1_code 26 = .ok (.lload 5, 2) := by decide +kernel
theorem d3_28 : decode prog_159_method_1_code 28 = .ok (.putfield 24, 3) := by decide +kernel
theorem d3_31 : decode prog_159_method_1_code 31 = .ok (.return_, 1) := by decide +kernel
def Q_rm3 (Z : State) (a b1 b2 b3 : Addr) (q1 : Int64) (h0 : Heap) (n0 : Nat) (v : Option Value) (h : Heap) (L : List Loc) : Prop := v = none ∧ Fr n0 L ∧ Keep h0 h [a] ∧ Exa Z h a "com/example/palimpsest/palimpsest/storage/RecordWrites" ∧ Fld Z h a "com/example/palimpsest/palimpsest/storage/RecordWrites" "bytes" "[B" (.ref b1) ∧ Fld Z h a "com/example/palimpsest/palimpsest/storage/RecordWrites" "places" "[I" (.ref b2) ∧ Fld Z h a "com/example/palimpsest/palimpsest/storage/RecordWrites" "checksums" "[I" (.ref b3) ∧ Fld Z h a "com/example/palimpsest/palimpsest/storage/RecordWrites" "file" "Lcom/example/palimpsest/palimpsest/storage/ValueFile;" .null ∧ Fld Z h a "com/example/palimpsest/palimpsest/storage/RecordWrites" "valuesAt" "J" (.long q1)
set_option maxRecDepth 65536 in
set_option maxHeartbeats 40000000 in
theorem rm3 (l : Launch) (Z : State) (a0 : Array Value) (hw : ∀ d ∈ tables_1, d.before a0 Z = true) (ws : List Jvm.Cond) (a b1 b2 b3 : Addr) (q1 : Int64) (h0 : Heap) (n0 : Nat) (Z0 : n0 ≤ h0.size) (E_a : Exa Z h0 a "com/example/palimpsest/palimpsest/storage/RecordWrites") (F_bytes : Fld Z h0 a "com/example/palimpsest/palimpsest/storage/RecordWrites" "bytes" "[B" .null) (F_places : Fld Z h0 a "com/example/palimpsest/palimpsest/storage/RecordWrites" "places" "[I" .null) (F_checksums : Fld Z h0 a "com/example/palimpsest/palimpsest/storage/RecordWrites" "checksums" "[I" .null) (F_file : Fld Z h0 a "com/example/palimpsest/palimpsest/storage/RecordWrites" "file" "Lcom/example/palimpsest/palimpsest/storage/ValueFile;" .null) (F_valuesAt : Fld Z h0 a "com/example/palimpsest/palimpsest/storage/RecordWrites" "valuesAt" "J" (.long 0)) (g_a : n0 ≤ a) :
    MetFree l (⟨"com/example/palimpsest/palimpsest/storage/RecordWrites", "<init>", "([B[I[ILcom/example/palimpsest/palimpsest/storage/ValueFile;J)V"⟩ : MethodName) (head1 (Jvm.Cond.code (⟨"com/example/palimpsest/palimpsest/storage/RecordWrites", "<init>", "([B[I[ILcom/example/palimpsest/palimpsest/storage/ValueFile;J)V"⟩ : MethodName) prog_159_method_1_code 7 none :: ws) ({ frames := 1, cells := 0, slots := 0, locals := 12 } : Room)) (fun ag U => ag = #[(.ref a), (.ref b1), (.ref b2), (.ref b3), .null, (.long q1)] ∧ Z.Warmed39 U.vm ∧ U.heap = h0) (fun _ _ _ _ _ => True) (fun _ U o U' => ∃ v L, o = .returned v ∧ Q_rm3 Z a b1 b2 b3 q1 h0 n0 v U'.heap L ∧ FrameEnd U o U' L ({ frames := 1, cells := 0, slots := 0, locals := 12 } : Room).cells ({ frames := 1, cells := 0, slots := 0, locals := 12 } : Room).slots) := by
  refine MetFree.of_bodySF (plainFor_of_name pn_0) hisR ?_
  intro p e s m args below meth c s₁ Bd hml0 hP hK
  obtain ⟨rfl, hZ, hh⟩ := hP
  have hx := Bd.exec
  have hby := Bd.bytes
  have hml : c.maxLocals = 7 := hml0
  have hown : s.vm.findClass "com/example/palimpsest/palimpsest/storage/RecordWrites" = some m.cls := findClass_of_methodNamed Bd.named
  have hnm := (name_of_methodNamed Bd.named Bd.method).1
  have X0 : Stand p l e ({ frames := 1, cells := 0, slots := 0, locals := 12 } : Room) s m #[(.ref a), (.ref b1), (.ref b2), (.ref b3), .null, (.long q1)] below meth c s₁ [] 0 0 := Stand.of_body Bd
  have e0 : s₁.heap = h0 := by rw [← hh, Bd.state]; rfl
  have N0 := Fr.nil n0
  refine own_start (ef_rm3 m a b1 b2 b3 q1) ?_
  intro F hF
  show own_Gl p.tables e below F (s₁.setTop (mkF m 0 #[.val (.ref a), .val (.ref b1), .val (.ref b2), .val (.ref b3), .val .null, .val (.long q1), .second] []))
  refine own_go (fun _ k => XS.aloadN X0.here hx rfl (hb hby d3_0) rfl rfl k) ?_
  show own_Gl p.tables e below F (s₁.setTop (mkF m 1 #[.val (.ref a), .val (.ref b1), .val (.ref b2), .val (.ref b3), .val .null, .val (.long q1), .second] [(.ref a)]))
  obtain ⟨T1, X1, e1, st1⟩ := initO X0 hx hZ hown (hw _ (List.mem_of_getElem? (i := 14) rfl)) (hw _ (List.mem_of_getElem? (i := 15) rfl)) (hw _ (List.mem_of_getElem? (i := 16) rfl)) e0 (g := (mkF m 1 #[.val (.ref a), .val (.ref b1), .val (.ref b2), .val (.ref b3), .val .null, .val (.long q1), .second] [(.ref a)])) rfl (by rw [hml]; rfl) rfl (hb hby d3_1) (by decide) (W := 0) (by show 2 * 0 + _ ≤ _; exact Nat.le_of_eq rfl) (by decide)
  refine own_go st1 ?_
  show own_Gl p.tables e below F (T1.setTop (mkF m 4 #[.val (.ref a), .val (.ref b1), .val (.ref b2), .val (.ref b3), .val .null, .val (.long q1), .second] []))
  refine own_go (fun _ k => XS.aloadN X1.here hx rfl (hb hby d3_4) rfl rfl k) ?_
  show own_Gl p.tables e below F (T1.setTop (mkF m 5 #[.val (.ref a), .val (.ref b1), .val (.ref b2), .val (.ref b3), .val .null, .val (.long q1), .second] [(.ref a)]))
  refine own_go (fun _ k => XS.aloadN X1.here hx rfl (hb hby d3_5) rfl rfl k) ?_
  show own_Gl p.tables e below F (T1.setTop (mkF m 6 #[.val (.ref a), .val (.ref b1), .val (.ref b2), .val (.ref b3), .val .null, .val (.long q1), .second] [(.ref b1), (.ref a)]))
  obtain ⟨T2, h2, X2, e2, W2, st2⟩ := putF X1 hx hZ hown (host := "") (Or.inl (hw _ (List.mem_of_getElem? (i := 17) rfl))) Via.refl e1 F_bytes E_a (Or.inr ⟨(hw _ (List.mem_of_getElem? (i := 18) rfl)), rfl, hnm⟩) (hw _ (List.mem_of_getElem? (i := 9) rfl)) (ty := (.array .byte)) (by decide) rfl rfl (g := (mkF m 6 #[.val (.ref a), .val (.ref b1), .val (.ref b2), .val (.ref b3), .val .null, .val (.long q1), .second] [(.ref b1), (.ref a)])) rfl rfl (hb hby d3_6)
  have Fw2 := F_bytes.same W2
  have f2_1 := E_a.wr W2
  have f2_3 := F_places.other W2 (Or.inr (slot_ne (Or.inr (hw _ (List.mem_of_getElem? (i := 20) rfl))) (Or.inr (hw _ (List.mem_of_getElem? (i := 18) rfl))) (by decide) (t := (.array .int)) (t' := (.array .byte)) (by decide) (by decide)))
  have f2_4 := F_checksums.other W2 (Or.inr (slot_ne (Or.inr (hw _ (List.mem_of_getElem? (i := 22) rfl))) (Or.inr (hw _ (List.mem_of_getElem? (i := 18) rfl))) (by decide) (t := (.array .int)) (t' := (.array .byte)) (by decide) (by decide)))
  have f2_5 := F_file.other W2 (Or.inr (slot_ne (Or.inr (hw _ (List.mem_of_getElem? (i := 24) rfl))) (Or.inr (hw _ (List.mem_of_getElem? (i := 18) rfl))) (by decide) (t := (.object "com/example/palimpsest/palimpsest/storage/ValueFile")) (t' := (.array .byte)) (by decide) (by decide)))
  have f2_6 := F_valuesAt.other W2 (Or.inr (slot_ne (Or.inr (hw _ (List.mem_of_getElem? (i := 26) rfl))) (Or.inr (hw _ (List.mem_of_getElem? (i := 18) rfl))) (by decide) (t := .long) (t' := (.array .byte)) (by decide) (by decide)))
  have Z2 : n0 ≤ h2.size := by rw [W2.size]; exact Z0
  have K2 := Keep.wr (Keep.refl h0 [a]) W2 (Or.inl (by simp))
  have N2 := Fr.snoc X2 N0 g_a
  refine own_go st2 ?_
  show own_Gl p.tables e below F (T2.setTop (mkF m 9 #[.val (.ref a), .val (.ref b1), .val (.ref b2), .val (.ref b3), .val .null, .val (.long q1), .second] []))
  refine own_go (fun _ k => XS.aloadN X2.here hx rfl (hb hby d3_9) rfl rfl k) ?_
  show own_Gl p.tables e below F (T2.setTop (mkF m 10 #[.val (.ref a), .val (.ref b1), .val (.ref b2), .val (.ref b3), .val .null, .val (.long q1), .second] [(.ref a)]))
  refine own_go (fun _ k => XS.aloadN X2.here hx rfl (hb hby d3_10) rfl rfl k) ?_
  show own_Gl p.tables e below F (T2.setTop (mkF m 11 #[.val (.ref a), .val (.ref b1), .val (.ref b2), .val (.ref b3), .val .null, .val (.long q1), .second] [(.ref b2), (.ref a)]))
  obtain ⟨T3, h3, X3, e3, W3, st3⟩ := putF X2 hx hZ hown (host := "") (Or.inl (hw _ (List.mem_of_getElem? (i := 19) rfl))) Via.refl e2 f2_3 f2_1 (Or.inr ⟨(hw _ (List.mem_of_getElem? (i := 20) rfl)), rfl, hnm⟩) (hw _ (List.mem_of_getElem? (i := 9) rfl)) (ty := (.array .int)) (by decide) rfl rfl (g := (mkF m 11 #[.val (.ref a), .val (.ref b1), .val (.ref b2), .val (.ref b3), .val .null, .val (.long q1), .second] [(.ref b2), (.ref a)])) rfl rfl (hb hby d3_11)
  have Fw3 := f2_3.same W3
  have f3_1 := f2_1.wr W3
  have f3_2 := Fw2.other W3 (Or.inr (slot_ne (Or.inr (hw _ (List.mem_of_getElem? (i := 18) rfl))) (Or.inr (hw _ (List.mem_of_getElem? (i := 20) rfl))) (by decide) (t := (.array .byte)) (t' := (.array .int)) (by decide) (by decide)))
  have f3_4 := f2_4.other W3 (Or.inr (slot_ne (Or.inr (hw _ (List.mem_of_getElem? (i := 22) rfl))) (Or.inr (hw _ (List.mem_of_getElem? (i := 20) rfl))) (by decide) (t := (.array .int)) (t' := (.array .int)) (by decide) (by decide)))
  have f3_5 := f2_5.other W3 (Or.inr (slot_ne (Or.inr (hw _ (List.mem_of_getElem? (i := 24) rfl))) (Or.inr (hw _ (List.mem_of_getElem? (i := 20) rfl))) (by decide) (t := (.object "com/example/palimpsest/palimpsest/storage/ValueFile")) (t' := (.array .int)) (by decide) (by decide)))
  have f3_6 := f2_6.other W3 (Or.inr (slot_ne (Or.inr (hw _ (List.mem_of_getElem? (i := 26) rfl))) (Or.inr (hw _ (List.mem_of_getElem? (i := 20) rfl))) (by decide) (t := .long) (t' := (.array .int)) (by decide) (by decide)))
  have Z3 : n0 ≤ h3.size := by rw [W3.size]; exact Z2
  have K3 := Keep.wr K2 W3 (Or.inl (by simp))
  have N3 := Fr.snoc X3 N2 g_a
  refine own_go st3 ?_
  show own_Gl p.tables e below F (T3.setTop (mkF m 14 #[.val (.ref a), .val (.ref b1), .val (.ref b2), .val (.ref b3), .val .null, .val (.long q1), .second] []))
  refine own_go (fun _ k => XS.aloadN X3.here hx rfl (hb hby d3_14) rfl rfl k) ?_
  show own_Gl p.tables e below F (T3.setTop (mkF m 15 #[.val (.ref a), .val (.ref b1), .val (.ref b2), .val (.ref b3), .val .null, .val (.long q1), .second] [(.ref a)]))
  refine own_go (fun _ k => XS.aloadN X3.here hx rfl (hb hby d3_15) rfl rfl k) ?_
  show own_Gl p.tables e below F (T3.setTop (mkF m 16 #[.val (.ref a), .val (.ref b1), .val (.ref b2), .val (.ref b3), .val .null, .val (.long q1), .second] [(.ref b3), (.ref a)]))
  obtain ⟨T4, h4, X4, e4, W4, st4⟩ := putF X3 hx hZ hown (host := "") (Or.inl (hw _ (List.mem_of_getElem? (i := 21) rfl))) Via.refl e3 f3_4 f3_1 (Or.inr ⟨(hw _ (List.mem_of_getElem? (i := 22) rfl)), rfl, hnm⟩) (hw _ (List.mem_of_getElem? (i := 9) rfl)) (ty := (.array .int)) (by decide) rfl rfl (g := (mkF m 16 #[.val (.ref a), .val (.ref b1), .val (.ref b2), .val (.ref b3), .val .null, .val (.long q1), .second] [(.ref b3), (.ref a)])) rfl rfl (hb hby d3_16)
  have Fw4 := f3_4.same W4
  have f4_1 := f3_1.wr W4
  have f4_2 := f3_2.other W4 (Or.inr (slot_ne (Or.inr (hw _ (List.mem_of_getElem? (i := 18) rfl))) (Or.inr (hw _ (List.mem_of_getElem? (i := 22) rfl))) (by decide) (t := (.array .byte)) (t' := (.array .int)) (by decide) (by decide)))
  have f4_3 := Fw3.other W4 (Or.inr (slot_ne (Or.inr (hw _ (List.mem_of_getElem? (i := 20) rfl))) (Or.inr (hw _ (List.mem_of_getElem? (i := 22) rfl))) (by decide) (t := (.array .int)) (t' := (.array .int)) (by decide) (by decide)))
  have f4_5 := f3_5.other W4 (Or.inr (slot_ne (Or.inr (hw _ (List.mem_of_getElem? (i := 24) rfl))) (Or.inr (hw _ (List.mem_of_getElem? (i := 22) rfl))) (by decide) (t := (.object "com/example/palimpsest/palimpsest/storage/ValueFile")) (t' := (.array .int)) (by decide) (by decide)))
  have f4_6 := f3_6.other W4 (Or.inr (slot_ne (Or.inr (hw _ (List.mem_of_getElem? (i := 26) rfl))) (Or.inr (hw _ (List.mem_of_getElem? (i := 22) rfl))) (by decide) (t := .long) (t' := (.array .int)) (by decide) (by decide)))
  have Z4 : n0 ≤ h4.size := by rw [W4.size]; exact Z3
  have K4 := Keep.wr K3 W4 (Or.inl (by simp))
  have N4 := Fr.snoc X4 N3 g_a
  refine own_go st4 ?_
  show own_Gl p.tables e below F (T4.setTop (mkF m 19 #[.val (.ref a), .val (.ref b1), .val (.ref b2), .val (.ref b3), .val .null, .val (.long q1), .second] []))
  refine own_go (fun _ k => XS.aloadN X4.here hx rfl (hb hby d3_19) rfl rfl k) ?_
  show own_Gl p.tables e below F (T4.setTop (mkF m 20 #[.val (.ref a), .val (.ref b1), .val (.ref b2), .val (.ref b3), .val .null, .val (.long q1), .second] [(.ref a)]))
  refine own_go (fun _ k => XS.aload X4.here hx rfl (hb hby d3_20) rfl rfl k) ?_
  show own_Gl p.tables e below F (T4.setTop (mkF m 22 #[.val (.ref a), .val (.ref b1), .val (.ref b2), .val (.ref b3), .val .null, .val (.long q1), .second] [.null, (.ref a)]))
  obtain ⟨T5, h5, X5, e5, W5, st5⟩ := putF X4 hx hZ hown (host := "") (Or.inl (hw _ (List.mem_of_getElem? (i := 23) rfl))) Via.refl e4 f4_5 f4_1 (Or.inr ⟨(hw _ (List.mem_of_getElem? (i := 24) rfl)), rfl, hnm⟩) (hw _ (List.mem_of_getElem? (i := 9) rfl)) (ty := (.object "com/example/palimpsest/palimpsest/storage/ValueFile")) (by decide) rfl rfl (g := (mkF m 22 #[.val (.ref a), .val (.ref b1), .val (.ref b2), .val (.ref b3), .val .null, .val (.long q1), .second] [.null, (.ref a)])) rfl rfl (hb hby d3_22)
  have Fw5 := f4_5.same W5
  have f5_1 := f4_1.wr W5
  have f5_2 := f4_2.other W5 (Or.inr (slot_ne (Or.inr (hw _ (List.mem_of_getElem? (i := 18) rfl))) (Or.inr (hw _ (List.mem_of_getElem? (i := 24) rfl))) (by decide) (t := (.array .byte)) (t' := (.object "com/example/palimpsest/palimpsest/storage/ValueFile")) (by decide) (by decide)))
  have f5_3 := f4_3.other W5 (Or.inr (slot_ne (Or.inr (hw _ (List.mem_of_getElem? (i := 20) rfl))) (Or.inr (hw _ (List.mem_of_getElem? (i := 24) rfl))) (by decide) (t := (.array .int)) (t' := (.object "com/example/palimpsest/palimpsest/storage/ValueFile")) (by decide) (by decide)))
  have f5_4 := Fw4.other W5 (Or.inr (slot_ne (Or.inr (hw _ (List.mem_of_getElem? (i := 22) rfl))) (Or.inr (hw _ (List.mem_of_getElem? (i := 24) rfl))) (by decide) (t := (.array .int)) (t' := (.object "com/example/palimpsest/palimpsest/storage/ValueFile")) (by decide) (by decide)))
  have f5_6 := f4_6.other W5 (Or.inr (slot_ne (Or.inr (hw _ (List.mem_of_getElem? (i := 26) rfl))) (Or.inr (hw _ (List.mem_of_getElem? (i := 24) rfl))) (by decide) (t := .long) (t' := (.object "com/example/palimpsest/palimpsest/storage/ValueFile")) (by decide) (by decide)))
  have Z5 : n0 ≤ h5.size := by rw [W5.size]; exact Z4
  have K5 := Keep.wr K4 W5 (Or.inl (by simp))
  have N5 := Fr.snoc X5 N4 g_a
  refine own_go st5 ?_
  show own_Gl p.tables e below F (T5.setTop (mkF m 25 #[.val (.ref a), .val (.ref b1), .val (.ref b2), .val (.ref b3), .val .null, .val (.long q1), .second] []))
  refine own_go (fun _ k => XS.aloadN X5.here hx rfl (hb hby d3_25) rfl rfl k) ?_
  show own_Gl p.tables e below F (T5.setTop (mkF m 26 #[.val (.ref a), .val (.ref b1), .val (.ref b2), .val (.ref b3), .val .null, .val (.long q1), .second] [(.ref a)]))
  refine own_go (fun _ k => XS.lload X5.here hx rfl (hb hby d3_26) rfl k) ?_
  show own_Gl p.tables e below F (T5.setTop (mkF m 28 #[.val (.ref a), .val (.ref b1), .val (.ref b2), .val (.ref b3), .val .null, .val (.long q1), .second] [(.long q1), (.ref a)]))
  obtain ⟨T6, h6, X6, e6, W6, st6⟩ := putF X5 hx hZ hown (host := "") (Or.inl (hw _ (List.mem_of_getElem? (i := 25) rfl))) Via.refl e5 f5_6 f5_1 (Or.inr ⟨(hw _ (List.mem_of_getElem? (i := 26) rfl)), rfl, hnm⟩) (hw _ (List.mem_of_getElem? (i := 9) rfl)) (ty := .long) (by decide) rfl rfl (g := (mkF m 28 #[.val (.ref a), .val (.ref b1), .val (.ref b2), .val (.ref b3), .val .null, .val (.long q1), .second] [(.long q1), (.ref a)])) rfl rfl (hb hby d3_28)
  have Fw6 := f5_6.same W6
  have f6_1 := f5_1.wr W6
  have f6_2 := f5_2.other W6 (Or.inr (slot_ne (Or.inr (hw _ (List.mem_of_getElem? (i := 18) rfl))) (Or.inr (hw _ (List.mem_of_getElem? (i := 26) rfl))) (by decide) (t := (.array .byte)) (t' := .long) (by decide) (by decide)))
  have f6_3 := f5_3.other W6 (Or.inr (slot_ne (Or.inr (hw _ (List.mem_of_getElem? (i := 20) rfl))) (Or.inr (hw _ (List.mem_of_getElem? (i := 26) rfl))) (by decide) (t := (.array .int)) (t' := .long) (by decide) (by decide)))
  have f6_4 := f5_4.other W6 (Or.inr (slot_ne (Or.inr (hw _ (List.mem_of_getElem? (i := 22) rfl))) (Or.inr (hw _ (List.mem_of_getElem? (i := 26) rfl))) (by decide) (t := (.array .int)) (t' := .long) (by decide) (by decide)))
  have f6_5 := Fw5.other W6 (Or.inr (slot_ne (Or.inr (hw _ (List.mem_of_getElem? (i := 24) rfl))) (Or.inr (hw _ (List.mem_of_getElem? (i := 26) rfl))) (by decide) (t := (.object "com/example/palimpsest/palimpsest/storage/ValueFile")) (t' := .long) (by decide) (by decide)))
  have Z6 : n0 ≤ h6.size := by rw [W6.size]; exact Z5
  have K6 := Keep.wr K5 W6 (Or.inl (by simp))
  have N6 := Fr.snoc X6 N5 g_a
  refine own_go st6 ?_
  show own_Gl p.tables e below F (T6.setTop (mkF m 31 #[.val (.ref a), .val (.ref b1), .val (.ref b2), .val (.ref b3), .val .null, .val (.long q1), .second] []))
  obtain ⟨fs, hr, hrun, hended, hW, hsame⟩ := X6.leave (v := none) (fun _ => rfl)
  subst hF
  refine own_fin ?_ ⟨hrun, hended, _, _, rfl, ?_, ⟨_, rfl⟩, hW, hsame.mono (by first | decide | exact Nat.le_of_ble_eq_true rfl) (by first | decide | exact Nat.le_of_ble_eq_true rfl)⟩
  · exact X6.returnOut hx Bd.returns (hb hby d3_31) hr
  · show Q_rm3 Z _ _ _ _ _ h0 n0 _ T6.heap _
    rw [e6]
    exact ⟨rfl, N6, K6, f6_1, f6_2, f6_3, f6_4, f6_5, Fw6⟩
theorem ef_rm6 (m : MethodId) (x0 : Addr) (x1 : Int32) : entryFrame m #[(.ref x0), (.int x1)] 2 = mkF m 0 #[.val (.ref x0), .val (.int x1)] [] := by first | (simp [entryFrame, mkF, argsToLocals, Value.category]; done) | rfl
theorem d6_0 : decode prog_159_method_5_code 0 = .ok (.aload_n 0, 1) := by decide +kernel
theorem d6_1 : decode prog_159_method_5_code 1 = .ok (.getfield 13, 3) := by decide +kernel
theorem d6_4 : decode prog_159_method_5_code 4 = .ok (.iconst 4, 1) := by decide +kernel
theorem d6_5 : decode prog_159_method_5_code 5 = .ok (.iload_n 1, 1) := by decide +kernel
theorem d6_6 : decode prog_159_method_5_code 6 = .ok (.imul, 1) := by decide +kernel
theorem d6_7 : decode prog_159_method_5_code 7 = .ok (.iconst 0, 1) := by decide +kernel
theorem d6_8 : decode prog_159_method_5_code 8 = .ok (.iadd, 1) := by decide +kernel
theorem d6_9 : decode prog_159_method_5_code 9 = .ok (.iaload, 1) := by decide +kernel
theorem d6_10 : decode prog_159_method_5_code 10 = .ok (.ireturn, 1) := by decide +kernel
def Q_rm6 (Z : State) (a : Addr) (p1 : Int32) (b : Addr) (c0 : Int32) (g : Nat → Value) (x : Int32) (h0 : Heap) (n0 : Nat) (v : Option Value) (h : Heap) (L : List Loc) : Prop := v = some (.int x) ∧ Fr n0 L ∧ h = h0
set_option maxRecDepth 65536 in
set_option maxHeartbeats 40000000 in
theorem rm6 (l : Launch) (Z : State) (a0 : Array Value) (hw : ∀ d ∈ tables_1, d.before a0 Z = true) (ws : List Jvm.Cond) (a : Addr) (p1 : Int32) (b : Addr) (c0 : Int32) (g : Nat → Value) (x : Int32) (h0 : Heap) (n0 : Nat) (Z0 : n0 ≤ h0.size) (FP : Fld Z h0 a "com/example/palimpsest/palimpsest/storage/RecordWrites" "places" "[I" (.ref b)) (A0 : own_A Z h0 b .int ((4 : Int32) * c0) g) (hi : own_I p1 c0) (hv : g (((4 : Int32) * p1) + (0 : Int32)).toNatClampNeg = .int x) :
    MetFree l (⟨"com/example/palimpsest/palimpsest/storage/RecordWrites", "keyAt", "(I)I"⟩ : MethodName) (head1 (Jvm.Cond.code (⟨"com/example/palimpsest/palimpsest/storage/RecordWrites", "keyAt", "(I)I"⟩ : MethodName) prog_159_method_5_code 2 (some .int) :: ws) ({ frames := 0, cells := 0, slots := 0, locals := 0 } : Room)) (fun ag U => ag = #[(.ref a), (.int p1)] ∧ Z.Warmed39 U.vm ∧ U.heap = h0) (fun _ _ _ _ _ => True) (fun _ U o U' => ∃ v L, o = .returned v ∧ Q_rm6 Z a p1 b c0 g x h0 n0 v U'.heap L ∧ FrameEnd U o U' L ({ frames := 0, cells := 0, slots := 0, locals := 0 } : Room).cells ({ frames := 0, cells := 0, slots := 0, locals := 0 } : Room).slots) := by
  refine MetFree.of_bodySF (plainFor_of_name pn_0) hisR ?_
  intro p e s m args below meth c s₁ Bd hml0 hP hK
  obtain ⟨rfl, hZ, hh⟩ := hP
  have hx := Bd.exec
  have hby := Bd.bytes
  have hml : c.maxLocals = 2 := hml0
  have hown : s.vm.findClass "com/example/palimpsest/palimpsest/storage/RecordWrites" = some m.cls := findClass_of_methodNamed Bd.named
  have hnm := (name_of_methodNamed Bd.named Bd.method).1
  have X0 : Stand p l e ({ frames := 0, cells := 0, slots := 0, locals := 0 } : Room) s m #[(.ref a), (.int p1)] below meth c s₁ [] 0 0 := Stand.of_body Bd
  have e0 : s₁.heap = h0 := by rw [← hh, Bd.state]; rfl
  have N0 := Fr.nil n0
  refine own_start (ef_rm6 m a p1) ?_
  intro F hF
  show own_Gl p.tables e below F (s₁.setTop (mkF m 0 #[.val (.ref a), .val (.int p1)] []))
  refine own_go (fun _ k => XS.aloadN X0.here hx rfl (hb hby d6_0) rfl rfl k) ?_
  show own_Gl p.tables e below F (s₁.setTop (mkF m 1 #[.val (.ref a), .val (.int p1)] [(.ref a)]))
  obtain ⟨T1, X1, e1, st1⟩ := getF X0 hx hZ hown (host := "") (Or.inl (hw _ (List.mem_of_getElem? (i := 19) rfl))) Via.refl e0 FP (g := (mkF m 1 #[.val (.ref a), .val (.int p1)] [(.ref a)])) rfl rfl (hb hby d6_1)
  refine own_go st1 ?_
  show own_Gl p.tables e below F (T1.setTop (mkF m 4 #[.val (.ref a), .val (.int p1)] [(.ref b)]))
  refine own_go (fun _ k => XS.iconst X1.here hx rfl (hb hby d6_4) k) ?_
  show own_Gl p.tables e below F (T1.setTop (mkF m 5 #[.val (.ref a), .val (.int p1)] [(.int (4 : Int32)), (.ref b)]))
  refine own_go (fun _ k => XS.iloadN X1.here hx rfl (hb hby d6_5) rfl k) ?_
  show own_Gl p.tables e below F (T1.setTop (mkF m 6 #[.val (.ref a), .val (.int p1)] [(.int p1), (.int (4 : Int32)), (.ref b)]))
  refine own_go (fun _ k => XS.imul X1.here hx rfl (hb hby d6_6) rfl k) ?_
  show own_Gl p.tables e below F (T1.setTop (mkF m 7 #[.val (.ref a), .val (.int p1)] [(.int ((4 : Int32) * p1)), (.ref b)]))
  refine own_go (fun _ k => XS.iconst X1.here hx rfl (hb hby d6_7) k) ?_
  show own_Gl p.tables e below F (T1.setTop (mkF m 8 #[.val (.ref a), .val (.int p1)] [(.int (0 : Int32)), (.int ((4 : Int32) * p1)), (.ref b)]))
  refine own_go (fun _ k => XS.iadd X1.here hx rfl (hb hby d6_8) rfl k) ?_
  show own_Gl p.tables e below F (T1.setTop (mkF m 9 #[.val (.ref a), .val (.int p1)] [(.int (((4 : Int32) * p1) + (0 : Int32))), (.ref b)]))
  obtain ⟨cl2, Ar2, aS2, aN2, aH2⟩ := id A0
  have hin2 : ¬ ((((4 : Int32) * p1) + (0 : Int32)) < 0 ∨ cl2.slots.size ≤ ((((4 : Int32) * p1) + (0 : Int32))).toNatClampNeg) := inb_of aS2 (own_in hi (by decide))
  have hat2 : cl2.slots[((((4 : Int32) * p1) + (0 : Int32))).toNatClampNeg]? = some (.int x) := (aH2 _ (Nat.lt_of_not_le fun y => hin2 (Or.inr y))).trans (congrArg some hv)
  refine own_go (fun _ k => X1.iaload hx (j := (((4 : Int32) * p1) + (0 : Int32))) (v := (.int x)) (by rw [e1]; exact Ar2.1) (State.isArrayOf_alike hZ.alike Ar2.2.1) Ar2.2.2 hin2 hat2 (g := (mkF m 9 #[.val (.ref a), .val (.int p1)] [(.int (((4 : Int32) * p1) + (0 : Int32))), (.ref b)])) rfl rfl (hb hby d6_9) _ k) ?_
  show own_Gl p.tables e below F (T1.setTop (mkF m 10 #[.val (.ref a), .val (.int p1)] [(.int x)]))
  obtain ⟨fs, hr, hrun, hended, hW, hsame⟩ := X1.leave (v := some (.int x)) (fun h => by rw [Bd.returns] at h; cases h)
  subst hF
  refine own_fin ?_ ⟨hrun, hended, _, _, rfl, ?_, ⟨_, rfl⟩, hW, hsame.mono (by first | decide | exact Nat.le_of_ble_eq_true rfl) (by first | decide | exact Nat.le_of_ble_eq_true rfl)⟩
  · exact retI X1 hx Bd.returns (hb hby d6_10) hr
  · show Q_rm6 Z _ _ _ _ _ _ h0 n0 _ T1.heap _
    rw [e1]
    exact ⟨rfl, N0, rfl⟩
theorem ef_rm7 (m : MethodId) (x0 : Addr) (x1 : Int32) : entryFrame m #[(.ref x0), (.int x1)] 2 = mkF m 0 #[.val (.ref x0), .val (.int x1)] [] := by first | (simp [entryFrame, mkF, argsToLocals, Value.category]; done) | rfl
theorem d7_0 : decode prog_159_method_6_code 0 = .ok (.aload_n 0, 1) := by decide +kernel
theorem d7_1 : decode prog_159_method_6_code 1 = .ok (.getfield 13, 3) := by decide +kernel
theorem d7_4 : decode prog_159_method_6_code 4 = .ok (.iconst 4, 1) := by decide +kernel
theorem d7_5 : decode prog_159_method_6_code 5 = .ok (.iload_n 1, 1) := by decide +kernel
theorem d7_6 : decode prog_159_method_6_code 6 = .ok (.imul, 1) := by decide +kernel
theorem d7_7 : decode prog_159_method_6_code 7 = .ok (.iconst 1, 1) := by decide +kernel
theorem d7_8 : decode prog_159_method_6_code 8 = .ok (.iadd, 1) := by decide +kernel
theorem d7_9 : decode prog_159_method_6_code 9 = .ok (.iaload, 1) := by decide +kernel
theorem d7_10 : decode prog_159_method_6_code 10 = .ok (.ireturn, 1) := by decide +kernel
def Q_rm7 (Z : State) (a : Addr) (p1 : Int32) (b : Addr) (c0 : Int32) (g : Nat → Value) (x : Int32) (h0 : Heap) (n0 : Nat) (v : Option Value) (h : Heap) (L : List Loc) : Prop := v = some (.int x) ∧ Fr n0 L ∧ h = h0
set_option maxRecDepth 65536 in
set_option maxHeartbeats 40000000 in
theorem rm7 (l : Launch) (Z : State) (a0 : Array Value) (hw : ∀ d ∈ tables_1, d.before a0 Z = true) (ws : List Jvm.Cond) (a : Addr) (p1 : Int32) (b : Addr) (c0 : Int32) (g : Nat → Value) (x : Int32) (h0 : Heap) (n0 : Nat) (Z0 : n0 ≤ h0.size) (FP : Fld Z h0 a "com/example/palimpsest/palimpsest/storage/RecordWrites" "places" "[I" (.ref b)) (A0 : own_A Z h0 b .int ((4 : Int32) * c0) g) (hi : own_I p1 c0) (hv : g (((4 : Int32) * p1) + (1 : Int32)).toNatClampNeg = .int x) :
    MetFree l (⟨"com/example/palimpsest/palimpsest/storage/RecordWrites", "keyLength", "(I)I"⟩ : MethodName) (head1 (Jvm.Cond.code (⟨"com/example/palimpsest/palimpsest/storage/RecordWrites", "keyLength", "(I)I"⟩ : MethodName) prog_159_method_6_code 2 (some .int) :: ws) ({ frames := 0, cells := 0, slots := 0, locals := 0 } : Room)) (fun ag U => ag = #[(.ref a), (.int p1)] ∧ Z.Warmed39 U.vm ∧ U.heap = h0) (fun _ _ _ _ _ => True) (fun _ U o U' => ∃ v L, o = .returned v ∧ Q_rm7 Z a p1 b c0 g x h0 n0 v U'.heap L ∧ FrameEnd U o U' L ({ frames := 0, cells := 0, slots := 0, locals := 0 } : Room).cells ({ frames := 0, cells := 0, slots := 0, locals := 0 } : Room).slots) := by
  refine MetFree.of_bodySF (plainFor_of_name pn_0) hisR ?_
  intro p e s m args below meth c s₁ Bd hml0 hP hK
  obtain ⟨rfl, hZ, hh⟩ := hP
  have hx := Bd.exec
  have hby := Bd.bytes
  have hml : c.maxLocals = 2 := hml0
  have hown : s.vm.findClass "com/example/palimpsest/palimpsest/storage/RecordWrites" = some m.cls := findClass_of_methodNamed Bd.named
  have hnm := (name_of_methodNamed Bd.named Bd.method).1
  have X0 : Stand p l e ({ frames := 0, cells := 0, slots := 0, locals := 0 } : Room) s m #[(.ref a), (.int p1)] below meth c s₁ [] 0 0 := Stand.of_body Bd
  have e0 : s₁.heap = h0 := by rw [← hh, Bd.state]; rfl
  have N0 := Fr.nil n0
  refine own_start (ef_rm7 m a p1) ?_
  intro F hF
  show own_Gl p.tables e below F (s₁.setTop (mkF m 0 #[.val (.ref a), .val (.int p1)] []))
  refine own_go (fun _ k => XS.aloadN X0.here hx rfl (hb hby d7_0) rfl rfl k) ?_
  show own_Gl p.tables e below F (s₁.setTop (mkF m 1 #[.val (.ref a), .val (.int p1)] [(.ref a)]))
  obtain ⟨T1, X1, e1, st1⟩ := getF X0 hx hZ hown (host := "") (Or.inl (hw _ (List.mem_of_getElem? (i := 19) rfl))) Via.refl e0 FP (g := (mkF m 1 #[.val (.ref a), .val (.int p1)] [(.ref a)])) rfl rfl (hb hby d7_1)
  refine own_go st1 ?_
  show own_Gl p.tables e below F (T1.setTop (mkF m 4 #[.val (.ref a), .val (.int p1)] [(.ref b)]))
  refine own_go (fun _ k => XS.iconst X1.here hx rfl (hb hby d7_4) k) ?_
  show own_Gl p.tables e below F (T1.setTop (mkF m 5 #[.val (.ref a), .val (.int p1)] [(.int (4 : Int32)), (.ref b)]))
  refine own_go (fun _ k => XS.iloadN X1.here hx rfl (hb hby d7_5) rfl k) ?_
  show own_Gl p.tables e below F (T1.setTop (mkF m 6 #[.val (.ref a), .val (.int p1)] [(.int p1), (.int (4 : Int32)), (.ref b)]))
  refine own_go (fun _ k => XS.imul X1.here hx rfl (hb hby d7_6) rfl k) ?_
  show own_Gl p.tables e below F (T1.setTop (mkF m 7 #[.val (.ref a), .val (.int p1)] [(.int ((4 : Int32) * p1)), (.ref b)]))
  refine own_go (fun _ k => XS.iconst X1.here hx rfl (hb hby d7_7) k) ?_
  show own_Gl p.tables e below F (T1.setTop (mkF m 8 #[.val (.ref a), .val (.int p1)] [(.int (1 : Int32)), (.int ((4 : Int32) * p1)), (.ref b)]))
  refine own_go (fun _ k => XS.iadd X1.here hx rfl (hb hby d7_8) rfl k) ?_
  show own_Gl p.tables e below F (T1.setTop (mkF m 9 #[.val (.ref a), .val (.int p1)] [(.int (((4 : Int32) * p1) + (1 : Int32))), (.ref b)]))
  obtain ⟨cl2, Ar2, aS2, aN2, aH2⟩ := id A0
  have hin2 : ¬ ((((4 : Int32) * p1) + (1 : Int32)) < 0 ∨ cl2.slots.size ≤ ((((4 : Int32) * p1) + (1 : Int32))).toNatClampNeg) := inb_of aS2 (own_in hi (by decide))
  have hat2 : cl2.slots[((((4 : Int32) * p1) + (1 : Int32))).toNatClampNeg]? = some (.int x) := (aH2 _ (Nat.lt_of_not_le fun y => hin2 (Or.inr y))).trans (congrArg some hv)
  refine own_go (fun _ k => X1.iaload hx (j := (((4 : Int32) * p1) + (1 : Int32))) (v := (.int x)) (by rw [e1]; exact Ar2.1) (State.isArrayOf_alike hZ.alike Ar2.2.1) Ar2.2.2 hin2 hat2 (g := (mkF m 9 #[.val (.ref a), .val (.int p1)] [(.int (((4 : Int32) * p1) + (1 : Int32))), (.ref b)])) rfl rfl (hb hby d7_9) _ k) ?_
  show own_Gl p.tables e below F (T1.setTop (mkF m 10 #[.val (.ref a), .val (.int p1)] [(.int x)]))
  obtain ⟨fs, hr, hrun, hended, hW, hsame⟩ := X1.leave (v := some (.int x)) (fun h => by rw [Bd.returns] at h; cases h)
  subst hF
  refine own_fin ?_ ⟨hrun, hended, _, _, rfl, ?_, ⟨_, rfl⟩, hW, hsame.mono (by first | decide | exact Nat.le_of_ble_eq_true rfl) (by first | decide | exact Nat.le_of_ble_eq_true rfl)⟩
  · exact retI X1 hx Bd.returns (hb hby d7_10) hr
  · show Q_rm7 Z _ _ _ _ _ _ h0 n0 _ T1.heap _
    rw [e1]
    exact ⟨rfl, N0, rfl⟩
theorem ef_rm8 (m : MethodId) (x0 : Addr) (x1 : Int32) : entryFrame m #[(.ref x0), (.int x1)] 2 = mkF m 0 #[.val (.ref x0), .val (.int x1)] [] := by first | (simp [entryFrame, mkF, argsToLocals, Value.category]; done) | rfl
theorem d8_0 : decode prog_159_method_7_code 0 = .ok (.aload_n 0, 1) := by decide +kernel
theorem d8_1 : decode prog_159_method_7_code 1 = .ok (.getfield 13, 3) := by decide +kernel
theorem d8_4 : decode prog_159_method_7_code 4 = .ok (.iconst 4, 1) := by decide +kernel
theorem d8_5 : decode prog_159_method_7_code 5 = .ok (.iload_n 1, 1) := by decide +kernel
theorem d8_6 : decode prog_159_method_7_code 6 = .ok (.imul, 1) := by decide +kernel
theorem d8_7 : decode prog_159_method_7_code 7 = .ok (.iconst 3, 1) := by decide +kernel
theorem d8_8 : decode prog_159_method_7_code 8 = .ok (.iadd, 1) := by decide +kernel
theorem d8_9 : decode prog_159_method_7_code 9 = .ok (.iaload, 1) := by decide +kernel
theorem d8_10 : decode prog_159_method_7_code 10 = .ok (.ireturn, 1) := by decide +kernel
def Q_rm8 (Z : State) (a : Addr) (p1 : Int32) (b : Addr) (c0 : Int32) (g : Nat → Value) (x : Int32) (h0 : Heap) (n0 : Nat) (v : Option Value) (h : Heap) (L : List Loc) : Prop := v = some (.int x) ∧ Fr n0 L ∧ h = h0
set_option maxRecDepth 65536 in
set_option maxHeartbeats 40000000 in
theorem rm8 (l : Launch) (Z : State) (a0 : Array Value) (hw : ∀ d ∈ tables_1, d.before a0 Z = true) (ws : List Jvm.Cond) (a : Addr) (p1 : Int32) (b : Addr) (c0 : Int32) (g : Nat → Value) (x : Int32) (h0 : Heap) (n0 : Nat) (Z0 : n0 ≤ h0.size) (FP : Fld Z h0 a "com/example/palimpsest/palimpsest/storage/RecordWrites" "places" "[I" (.ref b)) (A0 : own_A Z h0 b .int ((4 : Int32) * c0) g) (hi : own_I p1 c0) (hv : g (((4 : Int32) * p1) + (3 : Int32)).toNatClampNeg = .int x) :
    MetFree l (⟨"com/example/palimpsest/palimpsest/storage/RecordWrites", "valueLength", "(I)I"⟩ : MethodName) (head1 (Jvm.Cond.code (⟨"com/example/palimpsest/palimpsest/storage/RecordWrites", "valueLength", "(I)I"⟩ : MethodName) prog_159_method_7_code 2 (some .int) :: ws) ({ frames := 0, cells := 0, slots := 0, locals := 0 } : Room)) (fun ag U => ag = #[(.ref a), (.int p1)] ∧ Z.Warmed39 U.vm ∧ U.heap = h0) (fun _ _ _ _ _ => True) (fun _ U o U' => ∃ v L, o = .returned v ∧ Q_rm8 Z a p1 b c0 g x h0 n0 v U'.heap L ∧ FrameEnd U o U' L ({ frames := 0, cells := 0, slots := 0, locals := 0 } : Room).cells ({ frames := 0, cells := 0, slots := 0, locals := 0 } : Room).slots) := by
  refine MetFree.of_bodySF (plainFor_of_name pn_0) hisR ?_
  intro p e s m args below meth c s₁ Bd hml0 hP hK
  obtain ⟨rfl, hZ, hh⟩ := hP
  have hx := Bd.exec
  have hby := Bd.bytes
  have hml : c.maxLocals = 2 := hml0
  have hown : s.vm.findClass "com/example/palimpsest/palimpsest/storage/RecordWrites" = some m.cls := findClass_of_methodNamed Bd.named
  have hnm := (name_of_methodNamed Bd.named Bd.method).1
  have X0 : Stand p l e ({ frames := 0, cells := 0, slots := 0, locals := 0 } : Room) s m #[(.ref a), (.int p1)] below meth c s₁ [] 0 0 := Stand.of_body Bd
  have e0 : s₁.heap = h0 := by rw [← hh, Bd.state]; rfl
  have N0 := Fr.nil n0
  refine own_start (ef_rm8 m a p1) ?_
  intro F hF
  show own_Gl p.tables e below F (s₁.setTop (mkF m 0 #[.val (.ref a), .val (.int p1)] []))
  refine own_go (fun _ k => XS.aloadN X0.here hx rfl (hb hby d8_0) rfl rfl k) ?_
  show own_Gl p.tables e below F (s₁.setTop (mkF m 1 #[.val (.ref a), .val (.int p1)] [(.ref a)]))
  obtain ⟨T1, X1, e1, st1⟩ := getF X0 hx hZ hown (host := "") (Or.inl (hw _ (List.mem_of_getElem? (i := 19) rfl))) Via.refl e0 FP (g := (mkF m 1 #[.val (.ref a), .val (.int p1)] [(.ref a)])) rfl rfl (hb hby d8_1)
  refine own_go st1 ?_
  show own_Gl p.tables e below F (T1.setTop (mkF m 4 #[.val (.ref a), .val (.int p1)] [(.ref b)]))
  refine own_go (fun _ k => XS.iconst X1.here hx rfl (hb hby d8_4) k) ?_
  show own_Gl p.tables e below F (T1.setTop (mkF m 5 #[.val (.ref a), .val (.int p1)] [(.int (4 : Int32)), (.ref b)]))
  refine own_go (fun _ k => XS.iloadN X1.here hx rfl (hb hby d8_5) rfl k) ?_
  show own_Gl p.tables e below F (T1.setTop (mkF m 6 #[.val (.ref a), .val (.int p1)] [(.int p1), (.int (4 : Int32)), (.ref b)]))
  refine own_go (fun _ k => XS.imul X1.here hx rfl (hb hby d8_6) rfl k) ?_
  show own_Gl p.tables e below F (T1.setTop (mkF m 7 #[.val (.ref a), .val (.int p1)] [(.int ((4 : Int32) * p1)), (.ref b)]))
  refine own_go (fun _ k => XS.iconst X1.here hx rfl (hb hby d8_7) k) ?_
  show own_Gl p.tables e below F (T1.setTop (mkF m 8 #[.val (.ref a), .val (.int p1)] [(.int (3 : Int32)), (.int ((4 : Int32) * p1)), (.ref b)]))
  refine own_go (fun _ k => XS.iadd X1.here hx rfl (hb hby d8_8) rfl k) ?_
  show own_Gl p.tables e below F (T1.setTop (mkF m 9 #[.val (.ref a), .val (.int p1)] [(.int (((4 : Int32) * p1) + (3 : Int32))), (.ref b)]))
  obtain ⟨cl2, Ar2, aS2, aN2, aH2⟩ := id A0
  have hin2 : ¬ ((((4 : Int32) * p1) + (3 : Int32)) < 0 ∨ cl2.slots.size ≤ ((((4 : Int32) * p1) + (3 : Int32))).toNatClampNeg) := inb_of aS2 (own_in hi (by decide))
  have hat2 : cl2.slots[((((4 : Int32) * p1) + (3 : Int32))).toNatClampNeg]? = some (.int x) := (aH2 _ (Nat.lt_of_not_le fun y => hin2 (Or.inr y))).trans (congrArg some hv)
  refine own_go (fun _ k => X1.iaload hx (j := (((4 : Int32) * p1) + (3 : Int32))) (v := (.int x)) (by rw [e1]; exact Ar2.1) (State.isArrayOf_alike hZ.alike Ar2.2.1) Ar2.2.2 hin2 hat2 (g := (mkF m 9 #[.val (.ref a), .val (.int p1)] [(.int (((4 : Int32) * p1) + (3 : Int32))), (.ref b)])) rfl rfl (hb hby d8_9) _ k) ?_
  show own_Gl p.tables e below F (T1.setTop (mkF m 10 #[.val (.ref a), .val (.int p1)] [(.int x)]))
  obtain ⟨fs, hr, hrun, hended, hW, hsame⟩ := X1.leave (v := some (.int x)) (fun h => by rw [Bd.returns] at h; cases h)
  subst hF
  refine own_fin ?_ ⟨hrun, hended, _, _, rfl, ?_, ⟨_, rfl⟩, hW, hsame.mono (by first | decide | exact Nat.le_of_ble_eq_true rfl) (by first | decide | exact Nat.le_of_ble_eq_true rfl)⟩
  · exact retI X1 hx Bd.returns (hb hby d8_10) hr
  · show Q_rm8 Z _ _ _ _ _ _ h0 n0 _ T1.heap _
    rw [e1]
    exact ⟨rfl, N0, rfl⟩
theorem ef_rm9 (m : MethodId) (x0 : Addr) (x1 : Int32) : entryFrame m #[(.ref x0), (.int x1)] 2 = mkF m 0 #[.val (.ref x0), .val (.int x1)] [] := by first | (simp [entryFrame, mkF, argsToLocals, Value.category]; done) | rfl
theorem d9_0 : decode prog_159_method_10_code 0 = .ok (.aload_n 0, 1) := by decide +kernel
theorem d9_1 : decode prog_159_method_10_code 1 = .ok (.getfield 24, 3) := by decide +kernel
theorem d9_4 : decode prog_159_method_10_code 4 = .ok (.aload_n 0, 1) := by decide +kernel
theorem d9_5 : decode prog_159_method_10_code 5 = .ok (.getfield 13, 3) := by decide +kernel
theorem d9_8 : decode prog_159_method_10_code 8 = .ok (.iconst 4, 1) := by decide +kernel
theorem d9_9 : decode prog_159_method_10_code 9 = .ok (.iload_n 1, 1) := by decide +kernel
theorem d9_10 : decode prog_159_method_10_code 10 = .ok (.imul, 1) := by decide +kernel
theorem d9_11 : decode prog_159_method_10_code 11 = .ok (.iconst 2, 1) := by decide +kernel
theorem d9_12 : decode prog_159_method_10_code 12 = .ok (.iadd, 1) := by decide +kernel
theorem d9_13 : decode prog_159_method_10_code 13 = .ok (.iaload, 1) := by decide +kernel
theorem d9_14 : decode prog_159_method_10_code 14 = .ok (.i2l, 1) := by decide +kernel
theorem d9_15 : decode prog_159_method_10_code 15 = .ok (.ladd, 1) := by decide +kernel
theorem d9_16 : decode prog_159_method_10_code 16 = .ok (.lreturn, 1) := by decide +kernel
def Q_rm9 (Z : State) (a : Addr) (p1 : Int32) (b : Addr) (c0 : Int32) (g : Nat → Value) (x : Int32) (qv : Int64) (h0 : Heap) (n0 : Nat) (v : Option Value) (h : Heap) (L : List Loc) : Prop := v = some (.long (qv + x.toInt64)) ∧ Fr n0 L ∧ h = h0
set_option maxRecDepth 65536 in
set_option maxHeartbeats 40000000 in
theorem rm9 (l : Launch) (Z : State) (a0 : Array Value) (hw : ∀ d ∈ tables_1, d.before a0 Z = true) (ws : List Jvm.Cond) (a : Addr) (p1 : Int32) (b : Addr) (c0 : Int32) (g : Nat → Value) (x : Int32) (qv : Int64) (h0 : Heap) (n0 : Nat) (Z0 : n0 ≤ h0.size) (FP : Fld Z h0 a "com/example/palimpsest/palimpsest/storage/RecordWrites" "places" "[I" (.ref b)) (A0 : own_A Z h0 b .int ((4 : Int32) * c0) g) (hi : own_I p1 c0) (hv : g (((4 : Int32) * p1) + (2 : Int32)).toNatClampNeg = .int x) (FV : Fld Z h0 a "com/example/palimpsest/palimpsest/storage/RecordWrites" "valuesAt" "J" (.long qv)) :
    MetFree l (⟨"com/example/palimpsest/palimpsest/storage/RecordWrites", "valueOffset", "(I)J"⟩ : MethodName) (head1 (Jvm.Cond.code (⟨"com/example/palimpsest/palimpsest/storage/RecordWrites", "valueOffset", "(I)J"⟩ : MethodName) prog_159_method_10_code 2 (some .long) :: ws) ({ frames := 0, cells := 0, slots := 0, locals := 0 } : Room)) (fun ag U => ag = #[(.ref a), (.int p1)] ∧ Z.Warmed39 U.vm ∧ U.heap = h0) (fun _ _ _ _ _ => True) (fun _ U o U' => ∃ v L, o = .returned v ∧ Q_rm9 Z a p1 b c0 g x qv h0 n0 v U'.heap L ∧ FrameEnd U o U' L ({ frames := 0, cells := 0, slots := 0, locals := 0 } : Room).cells ({ frames := 0, cells := 0, slots := 0, locals := 0 } : Room).slots) := by
  refine MetFree.of_bodySF (plainFor_of_name pn_0) hisR ?_
  intro p e s m args below meth c s₁ Bd hml0 hP hK
  obtain ⟨rfl, hZ, hh⟩ := hP
  have hx := Bd.exec
  have hby := Bd.bytes
  have hml : c.maxLocals = 2 := hml0
  have hown : s.vm.findClass "com/example/palimpsest/palimpsest/storage/RecordWrites" = some m.cls := findClass_of_methodNamed Bd.named
  have hnm := (name_of_methodNamed Bd.named Bd.method).1
  have X0 : Stand p l e ({ frames := 0, cells := 0, slots := 0, locals := 0 } : Room) s m #[(.ref a), (.int p1)] below meth c s₁ [] 0 0 := Stand.of_body Bd
  have e0 : s₁.heap = h0 := by rw [← hh, Bd.state]; rfl
  have N0 := Fr.nil n0
  refine own_start (ef_rm9 m a p1) ?_
  intro F hF
  show own_Gl p.tables e below F (s₁.setTop (mkF m 0 #[.val (.ref a), .val (.int p1)] []))
  refine own_go (fun _ k => XS.aloadN X0.here hx rfl (hb hby d9_0) rfl rfl k) ?_
  show own_Gl p.tables e below F (s₁.setTop (mkF m 1 #[.val (.ref a), .val (.int p1)] [(.ref a)]))
  obtain ⟨T1, X1, e1, st1⟩ := getF X0 hx hZ hown (host := "") (Or.inl (hw _ (List.mem_of_getElem? (i := 25) rfl))) Via.refl e0 FV (g := (mkF m 1 #[.val (.ref a), .val (.int p1)] [(.ref a)])) rfl rfl (hb hby d9_1)
  refine own_go st1 ?_
  show own_Gl p.tables e below F (T1.setTop (mkF m 4 #[.val (.ref a), .val (.int p1)] [(.long qv)]))
  refine own_go (fun _ k => XS.aloadN X1.here hx rfl (hb hby d9_4) rfl rfl k) ?_
  show own_Gl p.tables e below F (T1.setTop (mkF m 5 #[.val (.ref a), .val (.int p1)] [(.ref a), (.long qv)]))
  obtain ⟨T2, X2, e2, st2⟩ := getF X1 hx hZ hown (host := "") (Or.inl (hw _ (List.mem_of_getElem? (i := 19) rfl))) Via.refl e1 FP (g := (mkF m 5 #[.val (.ref a), .val (.int p1)] [(.ref a), (.long qv)])) rfl rfl (hb hby d9_5)
  refine own_go st2 ?_
  show own_Gl p.tables e below F (T2.setTop (mkF m 8 #[.val (.ref a), .val (.int p1)] [(.ref b), (.long qv)]))
  refine own_go (fun _ k => XS.iconst X2.here hx rfl (hb hby d9_8) k) ?_
  show own_Gl p.tables e below F (T2.setTop (mkF m 9 #[.val (.ref a), .val (.int p1)] [(.int (4 : Int32)), (.ref b), (.long qv)]))
  refine own_go (fun _ k => XS.iloadN X2.here hx rfl (hb hby d9_9) rfl k) ?_
  show own_Gl p.tables e below F (T2.setTop (mkF m 10 #[.val (.ref a), .val (.int p1)] [(.int p1), (.int (4 : Int32)), (.ref b), (.long qv)]))
  refine own_go (fun _ k => XS.imul X2.here hx rfl (hb hby d9_10) rfl k) ?_
  show own_Gl p.tables e below F (T2.setTop (mkF m 11 #[.val (.ref a), .val (.int p1)] [(.int ((4 : Int32) * p1)), (.ref b), (.long qv)]))
  refine own_go (fun _ k => XS.iconst X2.here hx rfl (hb hby d9_11) k) ?_
  show own_Gl p.tables e below F (T2.setTop (mkF m 12 #[.val (.ref a), .val (.int p1)] [(.int (2 : Int32)), (.int ((4 : Int32) * p1)), (.ref b), (.long qv)]))
  refine own_go (fun _ k => XS.iadd X2.here hx rfl (hb hby d9_12) rfl k) ?_
  show own_Gl p.tables e below F (T2.setTop (mkF m 13 #[.val (.ref a), .val (.int p1)] [(.int (((4 : Int32) * p1) + (2 : Int32))), (.ref b), (.long qv)]))
  obtain ⟨cl3, Ar3, aS3, aN3, aH3⟩ := id A0
  have hin3 : ¬ ((((4 : Int32) * p1) + (2 : Int32)) < 0 ∨ cl3.slots.size ≤ ((((4 : Int32) * p1) + (2 : Int32))).toNatClampNeg) := inb_of aS3 (own_in hi (by decide))
  have hat3 : cl3.slots[((((4 : Int32) * p1) + (2 : Int32))).toNatClampNeg]? = some (.int x) := (aH3 _ (Nat.lt_of_not_le fun y => hin3 (Or.inr y))).trans (congrArg some hv)
  refine own_go (fun _ k => X2.iaload hx (j := (((4 : Int32) * p1) + (2 : Int32))) (v := (.int x)) (by rw [e2]; exact Ar3.1) (State.isArrayOf_alike hZ.alike Ar3.2.1) Ar3.2.2 hin3 hat3 (g := (mkF m 13 #[.val (.ref a), .val (.int p1)] [(.int (((4 : Int32) * p1) + (2 : Int32))), (.ref b), (.long qv)])) rfl rfl (hb hby d9_13) _ k) ?_
  show own_Gl p.tables e below F (T2.setTop (mkF m 14 #[.val (.ref a), .val (.int p1)] [(.int x), (.long qv)]))
  refine own_go (fun _ k => XS.i2l X2.here hx rfl (hb hby d9_14) rfl k) ?_
  show own_Gl p.tables e below F (T2.setTop (mkF m 15 #[.val (.ref a), .val (.int p1)] [(.long (x.toInt64)), (.long qv)]))
  refine own_go (fun _ k => XS.ladd X2.here hx rfl (hb hby d9_15) rfl k) ?_
  show own_Gl p.tables e below F (T2.setTop (mkF m 16 #[.val (.ref a), .val (.int p1)] [(.long (qv + (x.toInt64)))]))
  obtain ⟨fs, hr, hrun, hended, hW, hsame⟩ := X2.leave (v := some (.long (qv + (x.toInt64)))) (fun h => by rw [Bd.returns] at h; cases h)
  subst hF
  refine own_fin ?_ ⟨hrun, hended, _, _, rfl, ?_, ⟨_, rfl⟩, hW, hsame.mono (by first | decide | exact Nat.le_of_ble_eq_true rfl) (by first | decide | exact Nat.le_of_ble_eq_true rfl)⟩
  · exact own_retJ X2 hx Bd.returns (hb hby d9_16) hr
  · show Q_rm9 Z _ _ _ _ _ _ _ h0 n0 _ T2.heap _
    rw [e2]
    exact ⟨rfl, N0, rfl⟩
theorem ef_rm5 (m : MethodId) (x0 : Addr) : entryFrame m #[(.ref x0)] 1 = mkF m 0 #[.val (.ref x0)] [] := by first | (simp [entryFrame, mkF, argsToLocals, Value.category]; done) | rfl
theorem d5_0 : decode prog_159_method_13_code 0 = .ok (.aload_n 0, 1) := by decide +kernel
theorem d5_1 : decode prog_159_method_13_code 1 = .ok (.getfield 13, 3) := by decide +kernel
theorem d5_4 : decode prog_159_method_13_code 4 = .ok (.arraylength, 1) := by decide +kernel
theorem d5_5 : decode prog_159_method_13_code 5 = .ok (.iconst 4, 1) := by decide +kernel
theorem d5_6 : decode prog_159_method_13_code 6 = .ok (.idiv, 1) := by decide +kernel
theorem d5_7 : decode prog_159_method_13_code 7 = .ok (.ireturn, 1) := by decide +kernel
def Q_rm5 (Z : State) (a b : Addr) (c0 : Int32) (g : Nat → Value) (h0 : Heap) (n0 : Nat) (v : Option Value) (h : Heap) (L : List Loc) : Prop := v = some (.int (((4 : Int32) * c0) / (4 : Int32))) ∧ Fr n0 L ∧ h = h0
set_option maxRecDepth 65536 in
set_option maxHeartbeats 40000000 in
theorem rm5 (l : Launch) (Z : State) (a0 : Array Value) (hw : ∀ d ∈ tables_1, d.before a0 Z = true) (ws : List Jvm.Cond) (a b : Addr) (c0 : Int32) (g : Nat → Value) (h0 : Heap) (n0 : Nat) (Z0 : n0 ≤ h0.size) (FP : Fld Z h0 a "com/example/palimpsest/palimpsest/storage/RecordWrites" "places" "[I" (.ref b)) (A0 : own_A Z h0 b .int ((4 : Int32) * c0) g) :
    MetFree l (⟨"com/example/palimpsest/palimpsest/storage/RecordWrites", "size", "()I"⟩ : MethodName) (head1 (Jvm.Cond.code (⟨"com/example/palimpsest/palimpsest/storage/RecordWrites", "size", "()I"⟩ : MethodName) prog_159_method_13_code 1 (some .int) :: ws) ({ frames := 0, cells := 0, slots := 0, locals := 0 } : Room)) (fun ag U => ag = #[(.ref a)] ∧ Z.Warmed39 U.vm ∧ U.heap = h0) (fun _ _ _ _ _ => True) (fun _ U o U' => ∃ v L, o = .returned v ∧ Q_rm5 Z a b c0 g h0 n0 v U'.heap L ∧ FrameEnd U o U' L ({ frames := 0, cells := 0, slots := 0, locals := 0 } : Room).cells ({ frames := 0, cells := 0, slots := 0, locals := 0 } : Room).slots) := by
  refine MetFree.of_bodySF (plainFor_of_name pn_0) hisR ?_
  intro p e s m args below meth c s₁ Bd hml0 hP hK
  obtain ⟨rfl, hZ, hh⟩ := hP
  have hx := Bd.exec
  have hby := Bd.bytes
  have hml : c.maxLocals = 1 := hml0
  have hown : s.vm.findClass "com/example/palimpsest/palimpsest/storage/RecordWrites" = some m.cls := findClass_of_methodNamed Bd.named
  have hnm := (name_of_methodNamed Bd.named Bd.method).1
  have X0 : Stand p l e ({ frames := 0, cells := 0, slots := 0, locals := 0 } : Room) s m #[(.ref a)] below meth c s₁ [] 0 0 := Stand.of_body Bd
  have e0 : s₁.heap = h0 := by rw [← hh, Bd.state]; rfl
  have N0 := Fr.nil n0
  refine own_start (ef_rm5 m a) ?_
  intro F hF
  show own_Gl p.tables e below F (s₁.setTop (mkF m 0 #[.val (.ref a)] []))
  refine own_go (fun _ k => XS.aloadN X0.here hx rfl (hb hby d5_0) rfl rfl k) ?_
  show own_Gl p.tables e below F (s₁.setTop (mkF m 1 #[.val (.ref a)] [(.ref a)]))
  obtain ⟨T1, X1, e1, st1⟩ := getF X0 hx hZ hown (host := "") (Or.inl (hw _ (List.mem_of_getElem? (i := 19) rfl))) Via.refl e0 FP (g := (mkF m 1 #[.val (.ref a)] [(.ref a)])) rfl rfl (hb hby d5_1)
  refine own_go st1 ?_
  show own_Gl p.tables e below F (T1.setTop (mkF m 4 #[.val (.ref a)] [(.ref b)]))
  obtain ⟨cl2, Ar2, aS2, aN2, aH2⟩ := id A0
  refine own_go (fun _ k => X1.arraylength hx (by rw [e1]; exact Ar2.1) (State.isArrayOf_alike hZ.alike Ar2.2.1) (g := (mkF m 4 #[.val (.ref a)] [(.ref b)])) rfl rfl (hb hby d5_4) _ k) ?_
  rw [len_of aS2 aN2]
  show own_Gl p.tables e below F (T1.setTop (mkF m 5 #[.val (.ref a)] [(.int ((4 : Int32) * c0))]))
  refine own_go (fun _ k => XS.iconst X1.here hx rfl (hb hby d5_5) k) ?_
  show own_Gl p.tables e below F (T1.setTop (mkF m 6 #[.val (.ref a)] [(.int (4 : Int32)), (.int ((4 : Int32) * c0))]))
  refine own_go (fun _ k => XS.idiv X1.here hx rfl (hb hby d5_6) rfl (by decide) k) ?_
  show own_Gl p.tables e below F (T1.setTop (mkF m 7 #[.val (.ref a)] [(.int (((4 : Int32) * c0) / (4 : Int32)))]))
  obtain ⟨fs, hr, hrun, hended, hW, hsame⟩ := X1.leave (v := some (.int (((4 : Int32) * c0) / (4 : Int32)))) (fun h => by rw [Bd.returns] at h; cases h)
  subst hF
  refine own_fin ?_ ⟨hrun, hended, _, _, rfl, ?_, ⟨_, rfl⟩, hW, hsame.mono (by first | decide | exact Nat.le_of_ble_eq_true rfl) (by first | decide | exact Nat.le_of_ble_eq_true rfl)⟩
  · exact retI X1 hx Bd.returns (hb hby d5_7) hr
  · show Q_rm5 Z _ _ _ _ h0 n0 _ T1.heap _
    rw [e1]
    exact ⟨rfl, N0, rfl⟩
theorem ef_rm10 (m : MethodId) (x0 : Addr) (x1 : Int32) : entryFrame m #[(.ref x0), (.int x1)] 2 = mkF m 0 #[.val (.ref x0), .val (.int x1)] [] := by first | (simp [entryFrame, mkF, argsToLocals, Value.category]; done) | rfl
theorem d10_0 : decode prog_159_method_8_code 0 = .ok (.aload_n 0, 1) := by decide +kernel
theorem d10_1 : decode prog_159_method_8_code 1 = .ok (.iload_n 1, 1) := by decide +kernel
theorem d10_2 : decode prog_159_method_8_code 2 = .ok (.invokevirtual 28, 3) := by decide +kernel
theorem pd_0 : parseMethodDescriptor "(I)I" = some ⟨[.int], some .int⟩ := by decide +kernel
theorem d10_5 : decode prog_159_method_8_code 5 = .ok (.iconst (-1), 1) := by decide +kernel
theorem d10_6 : decode prog_159_method_8_code 6 = .ok (.if_icmp .ne 7, 3) := by decide +kernel
theorem d10_9 : decode prog_159_method_8_code 9 = .ok (.iconst 1, 1) := by decide +kernel
theorem d10_10 : decode prog_159_method_8_code 10 = .ok (.goto 4, 3) := by decide +kernel
theorem d10_14 : decode prog_159_method_8_code 14 = .ok (.ireturn, 1) := by decide +kernel
theorem d10_13 : decode prog_159_method_8_code 13 = .ok (.iconst 0, 1) := by decide +kernel
def Q_rm10 (Z : State) (a : Addr) (p1 : Int32) (b : Addr) (c0 : Int32) (g : Nat → Value) (x : Int32) (h0 : Heap) (n0 : Nat) (v : Option Value) (h : Heap) (L : List Loc) : Prop := v = some (.int (if x = (-1 : Int32) then 1 else 0)) ∧ Fr n0 L ∧ h = h0
set_option maxRecDepth 65536 in
set_option maxHeartbeats 40000000 in
theorem rm10 (l : Launch) (Z : State) (a0 : Array Value) (hw : ∀ d ∈ tables_1, d.before a0 Z = true) (ws : List Jvm.Cond) (a : Addr) (p1 : Int32) (b : Addr) (c0 : Int32) (g : Nat → Value) (x : Int32) (h0 : Heap) (n0 : Nat) (Z0 : n0 ≤ h0.size) (EA : Exa Z h0 a "com/example/palimpsest/palimpsest/storage/RecordWrites") (FP : Fld Z h0 a "com/example/palimpsest/palimpsest/storage/RecordWrites" "places" "[I" (.ref b)) (A0 : own_A Z h0 b .int ((4 : Int32) * c0) g) (hi : own_I p1 c0) (hv : g (((4 : Int32) * p1) + (3 : Int32)).toNatClampNeg = .int x) :
    MetFree l (⟨"com/example/palimpsest/palimpsest/storage/RecordWrites", "isDeletion", "(I)Z"⟩ : MethodName) (head1 (Jvm.Cond.code (⟨"com/example/palimpsest/palimpsest/storage/RecordWrites", "isDeletion", "(I)Z"⟩ : MethodName) prog_159_method_8_code 2 (some .boolean) :: ws) ({ frames := 1, cells := 0, slots := 0, locals := 13 } : Room)) (fun ag U => ag = #[(.ref a), (.int p1)] ∧ Z.Warmed39 U.vm ∧ U.heap = h0) (fun _ _ _ _ _ => True) (fun _ U o U' => ∃ v L, o = .returned v ∧ Q_rm10 Z a p1 b c0 g x h0 n0 v U'.heap L ∧ FrameEnd U o U' L ({ frames := 1, cells := 0, slots := 0, locals := 13 } : Room).cells ({ frames := 1, cells := 0, slots := 0, locals := 13 } : Room).slots) := by
  refine MetFree.of_bodySF (plainFor_of_name pn_0) hisR ?_
  intro p e s m args below meth c s₁ Bd hml0 hP hK
  obtain ⟨rfl, hZ, hh⟩ := hP
  have hx := Bd.exec
  have hby := Bd.bytes
  have hml : c.maxLocals = 2 := hml0
  have hown : s.vm.findClass "com/example/palimpsest/palimpsest/storage/RecordWrites" = some m.cls := findClass_of_methodNamed Bd.named
  have hnm := (name_of_methodNamed Bd.named Bd.method).1
  have X0 : Stand p l e ({ frames := 1, cells := 0, slots := 0, locals := 13 } : Room) s m #[(.ref a), (.int p1)] below meth c s₁ [] 0 0 := Stand.of_body Bd
  have e0 : s₁.heap = h0 := by rw [← hh, Bd.state]; rfl
  have N0 := Fr.nil n0
  refine own_start (ef_rm10 m a p1) ?_
  intro F hF
  show own_Gl p.tables e below F (s₁.setTop (mkF m 0 #[.val (.ref a), .val (.int p1)] []))
  refine own_go (fun _ k => XS.aloadN X0.here hx rfl (hb hby d10_0) rfl rfl k) ?_
  show own_Gl p.tables e below F (s₁.setTop (mkF m 1 #[.val (.ref a), .val (.int p1)] [(.ref a)]))
  refine own_go (fun _ k => XS.iloadN X0.here hx rfl (hb hby d10_1) rfl k) ?_
  show own_Gl p.tables e below F (s₁.setTop (mkF m 2 #[.val (.ref a), .val (.int p1)] [(.int p1), (.ref a)]))
  obtain ⟨cq1, kq1, q1a, q1b, q1c⟩ := isOf hZ e0 EA
  obtain ⟨_, _, ⟨T1, L1, k1, n1⟩, -, X1, ⟨Lc1, hQ1, l1, y1, z1⟩, st1⟩ := X0.virtualBack hx (y := (⟨"com/example/palimpsest/palimpsest/storage/RecordWrites", "valueLength", "(I)I"⟩ : MethodName)) (z := (⟨"com/example/palimpsest/palimpsest/storage/RecordWrites", "valueLength", "(I)I"⟩ : MethodName)) hown (mvT hZ (hw _ (List.mem_of_getElem? (i := 57) rfl))) (mvT hZ (hw _ (List.mem_of_getElem? (i := 43) rfl))) (notFace_of_selects (args := #[]) (mvT hZ (hw _ (List.mem_of_getElem? (i := 45) rfl)))) (mvT hZ (hw _ (List.mem_of_getElem? (i := 45) rfl))) (mvT hZ (hw _ (List.mem_of_getElem? (i := 44) rfl))) (by decide) (backOf (W := 0) (rm8 l Z a0 hw [] a p1 b c0 g x h0 n0 Z0 FP A0 hi hv) hZ (hw _ (List.mem_of_getElem? (i := 46) rfl)) (hw _ (List.mem_of_getElem? (i := 2) rfl)) (by decide) (by decide)) q1a q1c (g := (mkF m 2 #[.val (.ref a), .val (.int p1)] [(.int p1), (.ref a)])) rfl (by rw [hml]; rfl) (Steps.refl _) (argsL := [(.int p1)]) (rest := []) (lenOf pd_0 rfl) rfl (by show 2 * 0 + _ ≤ _; exact Nat.le_of_eq rfl) (hb hby d10_2) (fun _ _ => ⟨rfl, e0, (by first | decide | exact Nat.le_of_ble_eq_true rfl), (by first | decide | exact Nat.le_of_ble_eq_true rfl)⟩)
  dsimp only [Pt.U, Pt.locs, Pt.cells, Pt.slots] at X1 l1 y1 z1 st1 hQ1
  obtain ⟨rfl, N1, e1⟩ := hQ1
  have X1 := own_sn X1 (k' := 0) (n' := 0) y1 z1
  have NF1 := own_fr l1 N0 N1
  refine own_go (fun _ k => st1.trans k) ?_
  show own_Gl p.tables e below F (T1.setTop (mkF m 5 #[.val (.ref a), .val (.int p1)] [(.int x)]))
  refine own_go (fun _ k => XS.iconst X1.here hx rfl (hb hby d10_5) k) ?_
  show own_Gl p.tables e below F (T1.setTop (mkF m 6 #[.val (.ref a), .val (.int p1)] [(.int (-1 : Int32)), (.int x)]))
  by_cases h1 : x = (-1 : Int32)
  · refine own_go (fun _ k => XS.icmpNo X1.here hx rfl (hb hby d10_6) rfl (XT.ii_ne_f (by assumption)) k) ?_
    show own_Gl p.tables e below F (T1.setTop (mkF m 9 #[.val (.ref a), .val (.int p1)] []))
    refine own_go (fun _ k => XS.iconst X1.here hx rfl (hb hby d10_9) k) ?_
    show own_Gl p.tables e below F (T1.setTop (mkF m 10 #[.val (.ref a), .val (.int p1)] [(.int (1 : Int32))]))
    refine own_go (fun _ k => XS.goto X1.here hx rfl (pc0 := 10) (pc' := 14) rfl (hb hby d10_10) (by decide) (by decide) k) ?_
    show own_Gl p.tables e below F (T1.setTop (mkF m 14 #[.val (.ref a), .val (.int p1)] [(.int (1 : Int32))]))
    obtain ⟨fs, hr, hrun, hended, hW, hsame⟩ := X1.leave (v := some (.int (1 : Int32))) (fun h => by rw [Bd.returns] at h; cases h)
    subst hF
    refine own_fin ?_ ⟨hrun, hended, _, _, rfl, ?_, ⟨_, rfl⟩, hW, hsame.mono (by first | decide | exact Nat.le_of_ble_eq_true rfl) (by first | decide | exact Nat.le_of_ble_eq_true rfl)⟩
    · exact own_retN X1 hx (t := .boolean) Bd.returns (by simp) rfl (hb hby d10_14) hr
    · show Q_rm10 Z _ _ _ _ _ _ h0 n0 _ T1.heap _
      rw [e1]
      exact ⟨by rw [if_pos h1], NF1, rfl⟩
  · refine own_go (fun _ k => XS.icmpYes X1.here hx rfl (pc0 := 6) (pc' := 13) rfl (hb hby d10_6) rfl (XT.ii_ne_t (by assumption)) (by decide) (by decide) k) ?_
    show own_Gl p.tables e below F (T1.setTop (mkF m 13 #[.val (.ref a), .val (.int p1)] []))
    refine own_go (fun _ k => XS.iconst X1.here hx rfl (hb hby d10_13) k) ?_
    show own_Gl p.tables e below F (T1.setTop (mkF m 14 #[.val (.ref a), .val (.int p1)] [(.int (0 : Int32))]))
    obtain ⟨fs, hr, hrun, hended, hW, hsame⟩ := X1.leave (v := some (.int (0 : Int32))) (fun h => by rw [Bd.returns] at h; cases h)
    subst hF
    refine own_fin ?_ ⟨hrun, hended, _, _, rfl, ?_, ⟨_, rfl⟩, hW, hsame.mono (by first | decide | exact Nat.le_of_ble_eq_true rfl) (by first | decide | exact Nat.le_of_ble_eq_true rfl)⟩
    · exact own_retN X1 hx (t := .boolean) Bd.returns (by simp) rfl (hb hby d10_14) hr
    · show Q_rm10 Z _ _ _ _ _ _ h0 n0 _ T1.heap _
      rw [e1]
      exact ⟨by rw [if_neg h1], NF1, rfl⟩
theorem ef_rm11 (m : MethodId) (x0 : Addr) (x1 : Int32) (x2 : Int32) (x3 : Int32) : entryFrame m #[(.ref x0), (.int x1), (.int x2), (.int x3)] 4 = mkF m 0 #[.val (.ref x0), .val (.int x1), .val (.int x2), .val (.int x3)] [] := by first | (simp [entryFrame, mkF, argsToLocals, Value.category]; done) | rfl
theorem pn_1 : plainName "com/example/palimpsest/palimpsest/storage/RecordWritesPlacePinLaw" = true := by first | (simp [plainName, overriddenIn]; done) | decide +kernel
theorem d11_0 : decode method_3_code 0 = .ok (.iload_n 1, 1) := by decide +kernel
theorem d11_1 : decode method_3_code 1 = .ok (.aload_n 0, 1) := by decide +kernel
theorem d11_2 : decode method_3_code 2 = .ok (.arraylength, 1) := by decide +kernel
theorem d11_3 : decode method_3_code 3 = .ok (.if_icmp .ge 19, 3) := by decide +kernel
theorem d11_6 : decode method_3_code 6 = .ok (.iload_n 1, 1) := by decide +kernel
theorem d11_7 : decode method_3_code 7 = .ok (.iload_n 2, 1) := by decide +kernel
theorem d11_8 : decode method_3_code 8 = .ok (.if_icmp .lt 8, 3) := by decide +kernel
theorem d11_16 : decode method_3_code 16 = .ok (.aload_n 0, 1) := by decide +kernel
theorem d11_17 : decode method_3_code 17 = .ok (.iload_n 1, 1) := by decide +kernel
theorem d11_18 : decode method_3_code 18 = .ok (.iaload, 1) := by decide +kernel
theorem d11_19 : decode method_3_code 19 = .ok (.ifCond .ne 7, 3) := by decide +kernel
theorem d11_22 : decode method_3_code 22 = .ok (.iconst 1, 1) := by decide +kernel
theorem d11_23 : decode method_3_code 23 = .ok (.goto 4, 3) := by decide +kernel
theorem d11_27 : decode method_3_code 27 = .ok (.ireturn, 1) := by decide +kernel
theorem d11_11 : decode method_3_code 11 = .ok (.iload_n 1, 1) := by decide +kernel
theorem d11_12 : decode method_3_code 12 = .ok (.iload_n 3, 1) := by decide +kernel
theorem d11_13 : decode method_3_code 13 = .ok (.if_icmp .lt 9, 3) := by decide +kernel
def Q_rm11 (Z : State) (a : Addr) (p1 p2 p3 z : Int32) (g : Nat → Value) (h0 : Heap) (n0 : Nat) (v : Option Value) (h : Heap) (L : List Loc) : Prop := v = some (.int 1) ∧ Fr n0 L ∧ h = h0
set_option maxRecDepth 65536 in
set_option maxHeartbeats 40000000 in
theorem rm11 (l : Launch) (Z : State) (a0 : Array Value) (hw : ∀ d ∈ tables_1, d.before a0 Z = true) (ws : List Jvm.Cond) (a : Addr) (p1 p2 p3 z : Int32) (g : Nat → Value) (h0 : Heap) (n0 : Nat) (Z0 : n0 ≤ h0.size) (A0 : own_A Z h0 a .int z g) (hp : ¬ p1 < 0) (hU : own_U g p2 p3) :
    MetFree l (⟨"com/example/palimpsest/palimpsest/storage/RecordWritesPlacePinLaw", "untouched", "([IIII)Z"⟩ : MethodName) (head1 (Jvm.Cond.code (⟨"com/example/palimpsest/palimpsest/storage/RecordWritesPlacePinLaw", "untouched", "([IIII)Z"⟩ : MethodName) method_3_code 4 (some .boolean) :: ws) ({ frames := 0, cells := 0, slots := 0, locals := 0 } : Room)) (fun ag U => ag = #[(.ref a), (.int p1), (.int p2), (.int p3)] ∧ Z.Warmed39 U.vm ∧ U.heap = h0) (fun _ _ _ _ _ => True) (fun _ U o U' => ∃ v L, o = .returned v ∧ Q_rm11 Z a p1 p2 p3 z g h0 n0 v U'.heap L ∧ FrameEnd U o U' L ({ frames := 0, cells := 0, slots := 0, locals := 0 } : Room).cells ({ frames := 0, cells := 0, slots := 0, locals := 0 } : Room).slots) := by
  refine MetFree.of_bodySF (plainFor_of_name pn_1) hisR ?_
  intro p e s m args below meth c s₁ Bd hml0 hP hK
  obtain ⟨rfl, hZ, hh⟩ := hP
  have hx := Bd.exec
  have hby := Bd.bytes
  have hml : c.maxLocals = 4 := hml0
  have hown : s.vm.findClass "com/example/palimpsest/palimpsest/storage/RecordWritesPlacePinLaw" = some m.cls := findClass_of_methodNamed Bd.named
  have hnm := (name_of_methodNamed Bd.named Bd.method).1
  have X0 : Stand p l e ({ frames := 0, cells := 0, slots := 0, locals := 0 } : Room) s m #[(.ref a), (.int p1), (.int p2), (.int p3)] below meth c s₁ [] 0 0 := Stand.of_body Bd
  have e0 : s₁.heap = h0 := by rw [← hh, Bd.state]; rfl
  have N0 := Fr.nil n0
  refine own_start (ef_rm11 m a p1 p2 p3) ?_
  intro F hF
  show own_Gl p.tables e below F (s₁.setTop (mkF m 0 #[.val (.ref a), .val (.int p1), .val (.int p2), .val (.int p3)] []))
  refine own_go (fun _ k => XS.iloadN X0.here hx rfl (hb hby d11_0) rfl k) ?_
  show own_Gl p.tables e below F (s₁.setTop (mkF m 1 #[.val (.ref a), .val (.int p1), .val (.int p2), .val (.int p3)] [(.int p1)]))
  refine own_go (fun _ k => XS.aloadN X0.here hx rfl (hb hby d11_1) rfl rfl k) ?_
  show own_Gl p.tables e below F (s₁.setTop (mkF m 2 #[.val (.ref a), .val (.int p1), .val (.int p2), .val (.int p3)] [(.ref a), (.int p1)]))
  obtain ⟨cl1, Ar1, aS1, aN1, aH1⟩ := id A0
  refine own_go (fun _ k => X0.arraylength hx (by rw [e0]; exact Ar1.1) (State.isArrayOf_alike hZ.alike Ar1.2.1) (g := (mkF m 2 #[.val (.ref a), .val (.int p1), .val (.int p2), .val (.int p3)] [(.ref a), (.int p1)])) rfl rfl (hb hby d11_2) _ k) ?_
  rw [len_of aS1 aN1]
  show own_Gl p.tables e below F (s₁.setTop (mkF m 3 #[.val (.ref a), .val (.int p1), .val (.int p2), .val (.int p3)] [(.int z), (.int p1)]))
  by_cases h1 : p1 < z
  · refine own_go (fun _ k => XS.icmpNo X0.here hx rfl (hb hby d11_3) rfl (XT.ii_ge_f (by assumption)) k) ?_
    show own_Gl p.tables e below F (s₁.setTop (mkF m 6 #[.val (.ref a), .val (.int p1), .val (.int p2), .val (.int p3)] []))
    refine own_go (fun _ k => XS.iloadN X0.here hx rfl (hb hby d11_6) rfl k) ?_
    show own_Gl p.tables e below F (s₁.setTop (mkF m 7 #[.val (.ref a), .val (.int p1), .val (.int p2), .val (.int p3)] [(.int p1)]))
    refine own_go (fun _ k => XS.iloadN X0.here hx rfl (hb hby d11_7) rfl k) ?_
    show own_Gl p.tables e below F (s₁.setTop (mkF m 8 #[.val (.ref a), .val (.int p1), .val (.int p2), .val (.int p3)] [(.int p2), (.int p1)]))
    by_cases h2 : p1 < p2
    · refine own_go (fun _ k => XS.icmpYes X0.here hx rfl (pc0 := 8) (pc' := 16) rfl (hb hby d11_8) rfl (XT.ii_lt_t (by assumption)) (by decide) (by decide) k) ?_
      show own_Gl p.tables e below F (s₁.setTop (mkF m 16 #[.val (.ref a), .val (.int p1), .val (.int p2), .val (.int p3)] []))
      refine own_go (fun _ k => XS.aloadN X0.here hx rfl (hb hby d11_16) rfl rfl k) ?_
      show own_Gl p.tables e below F (s₁.setTop (mkF m 17 #[.val (.ref a), .val (.int p1), .val (.int p2), .val (.int p3)] [(.ref a)]))
      refine own_go (fun _ k => XS.iloadN X0.here hx rfl (hb hby d11_17) rfl k) ?_
      show own_Gl p.tables e below F (s₁.setTop (mkF m 18 #[.val (.ref a), .val (.int p1), .val (.int p2), .val (.int p3)] [(.int p1), (.ref a)]))
      obtain ⟨cl2, Ar2, aS2, aN2, aH2⟩ := id A0
      have hin2 : ¬ (p1 < 0 ∨ cl2.slots.size ≤ (p1).toNatClampNeg) := inb_of aS2 ⟨hp, h1⟩
      have hat2 : cl2.slots[(p1).toNatClampNeg]? = some (.int (0 : Int32)) := (aH2 _ (Nat.lt_of_not_le fun y => hin2 (Or.inr y))).trans (congrArg some (hU p1 hp (Or.inl h2)))
      refine own_go (fun _ k => X0.iaload hx (j := p1) (v := (.int (0 : Int32))) (by rw [e0]; exact Ar2.1) (State.isArrayOf_alike hZ.alike Ar2.2.1) Ar2.2.2 hin2 hat2 (g := (mkF m 18 #[.val (.ref a), .val (.int p1), .val (.int p2), .val (.int p3)] [(.int p1), (.ref a)])) rfl rfl (hb hby d11_18) _ k) ?_
      show own_Gl p.tables e below F (s₁.setTop (mkF m 19 #[.val (.ref a), .val (.int p1), .val (.int p2), .val (.int p3)] [(.int (0 : Int32))]))
      refine own_go (fun _ k => XS.ifNo X0.here hx rfl (hb hby d11_19) rfl (XT.i0_ne_f rfl) k) ?_
      show own_Gl p.tables e below F (s₁.setTop (mkF m 22 #[.val (.ref a), .val (.int p1), .val (.int p2), .val (.int p3)] []))
      refine own_go (fun _ k => XS.iconst X0.here hx rfl (hb hby d11_22) k) ?_
      show own_Gl p.tables e below F (s₁.setTop (mkF m 23 #[.val (.ref a), .val (.int p1), .val (.int p2), .val (.int p3)] [(.int (1 : Int32))]))
      refine own_go (fun _ k => XS.goto X0.here hx rfl (pc0 := 23) (pc' := 27) rfl (hb hby d11_23) (by decide) (by decide) k) ?_
      show own_Gl p.tables e below F (s₁.setTop (mkF m 27 #[.val (.ref a), .val (.int p1), .val (.int p2), .val (.int p3)] [(.int (1 : Int32))]))
      obtain ⟨fs, hr, hrun, hended, hW, hsame⟩ := X0.leave (v := some (.int (1 : Int32))) (fun h => by rw [Bd.returns] at h; cases h)
      subst hF
      refine own_fin ?_ ⟨hrun, hended, _, _, rfl, ?_, ⟨_, rfl⟩, hW, hsame.mono (by first | decide | exact Nat.le_of_ble_eq_true rfl) (by first | decide | exact Nat.le_of_ble_eq_true rfl)⟩
      · exact own_retN X0 hx (t := .boolean) Bd.returns (by simp) rfl (hb hby d11_27) hr
      · show Q_rm11 Z _ _ _ _ _ _ h0 n0 _ s₁.heap _
        rw [e0]
        exact ⟨rfl, N0, rfl⟩
    · refine own_go (fun _ k => XS.icmpNo X0.here hx rfl (hb hby d11_8) rfl (XT.ii_lt_f (by assumption)) k) ?_
      show own_Gl p.tables e below F (s₁.setTop (mkF m 11 #[.val (.ref a), .val (.int p1), .val (.int p2), .val (.int p3)] []))
      refine own_go (fun _ k => XS.iloadN X0.here hx rfl (hb hby d11_11) rfl k) ?_
      show own_Gl p.tables e below F (s₁.setTop (mkF m 12 #[.val (.ref a), .val (.int p1), .val (.int p2), .val (.int p3)] [(.int p1)]))
      refine own_go (fun _ k => XS.iloadN X0.here hx rfl (hb hby d11_12) rfl k) ?_
      show own_Gl p.tables e below F (s₁.setTop (mkF m 13 #[.val (.ref a), .val (.int p1), .val (.int p2), .val (.int p3)] [(.int p3), (.int p1)]))
      by_cases h3 : p1 < p3
      · refine own_go (fun _ k => XS.icmpYes X0.here hx rfl (pc0 := 13) (pc' := 22) rfl (hb hby d11_13) rfl (XT.ii_lt_t (by assumption)) (by decide) (by decide) k) ?_
        show own_Gl p.tables e below F (s₁.setTop (mkF m 22 #[.val (.ref a), .val (.int p1), .val (.int p2), .val (.int p3)] []))
        refine own_go (fun _ k => XS.iconst X0.here hx rfl (hb hby d11_22) k) ?_
        show own_Gl p.tables e below F (s₁.setTop (mkF m 23 #[.val (.ref a), .val (.int p1), .val (.int p2), .val (.int p3)] [(.int (1 : Int32))]))
        refine own_go (fun _ k => XS.goto X0.here hx rfl (pc0 := 23) (pc' := 27) rfl (hb hby d11_23) (by decide) (by decide) k) ?_
        show own_Gl p.tables e below F (s₁.setTop (mkF m 27 #[.val (.ref a), .val (.int p1), .val (.int p2), .val (.int p3)] [(.int (1 : Int32))]))
        obtain ⟨fs, hr, hrun, hended, hW, hsame⟩ := X0.leave (v := some (.int (1 : Int32))) (fun h => by rw [Bd.returns] at h; cases h)
        subst hF
        refine own_fin ?_ ⟨hrun, hended, _, _, rfl, ?_, ⟨_, rfl⟩, hW, hsame.mono (by first | decide | exact Nat.le_of_ble_eq_true rfl) (by first | decide | exact Nat.le_of_ble_eq_true rfl)⟩
        · exact own_retN X0 hx (t := .boolean) Bd.returns (by simp) rfl (hb hby d11_27) hr
        · show Q_rm11 Z _ _ _ _ _ _ h0 n0 _ s₁.heap _
          rw [e0]
          exact ⟨rfl, N0, rfl⟩
      · refine own_go (fun _ k => XS.icmpNo X0.here hx rfl (hb hby d11_13) rfl (XT.ii_lt_f (by assumption)) k) ?_
        show own_Gl p.tables e below F (s₁.setTop (mkF m 16 #[.val (.ref a), .val (.int p1), .val (.int p2), .val (.int p3)] []))
        refine own_go (fun _ k => XS.aloadN X0.here hx rfl (hb hby d11_16) rfl rfl k) ?_
        show own_Gl p.tables e below F (s₁.setTop (mkF m 17 #[.val (.ref a), .val (.int p1), .val (.int p2), .val (.int p3)] [(.ref a)]))
        refine own_go (fun _ k => XS.iloadN X0.here hx rfl (hb hby d11_17) rfl k) ?_
        show own_Gl p.tables e below F (s₁.setTop (mkF m 18 #[.val (.ref a), .val (.int p1), .val (.int p2), .val (.int p3)] [(.int p1), (.ref a)]))
        obtain ⟨cl3, Ar3, aS3, aN3, aH3⟩ := id A0
        have hin3 : ¬ (p1 < 0 ∨ cl3.slots.size ≤ (p1).toNatClampNeg) := inb_of aS3 ⟨hp, h1⟩
        have hat3 : cl3.slots[(p1).toNatClampNeg]? = some (.int (0 : Int32)) := (aH3 _ (Nat.lt_of_not_le fun y => hin3 (Or.inr y))).trans (congrArg some (hU p1 hp (Or.inr h3)))
        refine own_go (fun _ k => X0.iaload hx (j := p1) (v := (.int (0 : Int32))) (by rw [e0]; exact Ar3.1) (State.isArrayOf_alike hZ.alike Ar3.2.1) Ar3.2.2 hin3 hat3 (g := (mkF m 18 #[.val (.ref a), .val (.int p1), .val (.int p2), .val (.int p3)] [(.int p1), (.ref a)])) rfl rfl (hb hby d11_18) _ k) ?_
        show own_Gl p.tables e below F (s₁.setTop (mkF m 19 #[.val (.ref a), .val (.int p1), .val (.int p2), .val (.int p3)] [(.int (0 : Int32))]))
        refine own_go (fun _ k => XS.ifNo X0.here hx rfl (hb hby d11_19) rfl (XT.i0_ne_f rfl) k) ?_
        show own_Gl p.tables e below F (s₁.setTop (mkF m 22 #[.val (.ref a), .val (.int p1), .val (.int p2), .val (.int p3)] []))
        refine own_go (fun _ k => XS.iconst X0.here hx rfl (hb hby d11_22) k) ?_
        show own_Gl p.tables e below F (s₁.setTop (mkF m 23 #[.val (.ref a), .val (.int p1), .val (.int p2), .val (.int p3)] [(.int (1 : Int32))]))
        refine own_go (fun _ k => XS.goto X0.here hx rfl (pc0 := 23) (pc' := 27) rfl (hb hby d11_23) (by decide) (by decide) k) ?_
        show own_Gl p.tables e below F (s₁.setTop (mkF m 27 #[.val (.ref a), .val (.int p1), .val (.int p2), .val (.int p3)] [(.int (1 : Int32))]))
        obtain ⟨fs, hr, hrun, hended, hW, hsame⟩ := X0.leave (v := some (.int (1 : Int32))) (fun h => by rw [Bd.returns] at h; cases h)
        subst hF
        refine own_fin ?_ ⟨hrun, hended, _, _, rfl, ?_, ⟨_, rfl⟩, hW, hsame.mono (by first | decide | exact Nat.le_of_ble_eq_true rfl) (by first | decide | exact Nat.le_of_ble_eq_true rfl)⟩
        · exact own_retN X0 hx (t := .boolean) Bd.returns (by simp) rfl (hb hby d11_27) hr
        · show Q_rm11 Z _ _ _ _ _ _ h0 n0 _ s₁.heap _
          rw [e0]
          exact ⟨rfl, N0, rfl⟩
  · refine own_go (fun _ k => XS.icmpYes X0.here hx rfl (pc0 := 3) (pc' := 22) rfl (hb hby d11_3) rfl (XT.ii_ge_t (by assumption)) (by decide) (by decide) k) ?_
    show own_Gl p.tables e below F (s₁.setTop (mkF m 22 #[.val (.ref a), .val (.int p1), .val (.int p2), .val (.int p3)] []))
    refine own_go (fun _ k => XS.iconst X0.here hx rfl (hb hby d11_22) k) ?_
    show own_Gl p.tables e below F (s₁.setTop (mkF m 23 #[.val (.ref a), .val (.int p1), .val (.int p2), .val (.int p3)] [(.int (1 : Int32))]))
    refine own_go (fun _ k => XS.goto X0.here hx rfl (pc0 := 23) (pc' := 27) rfl (hb hby d11_23) (by decide) (by decide) k) ?_
    show own_Gl p.tables e below F (s₁.setTop (mkF m 27 #[.val (.ref a), .val (.int p1), .val (.int p2), .val (.int p3)] [(.int (1 : Int32))]))
    obtain ⟨fs, hr, hrun, hended, hW, hsame⟩ := X0.leave (v := some (.int (1 : Int32))) (fun h => by rw [Bd.returns] at h; cases h)
    subst hF
    refine own_fin ?_ ⟨hrun, hended, _, _, rfl, ?_, ⟨_, rfl⟩, hW, hsame.mono (by first | decide | exact Nat.le_of_ble_eq_true rfl) (by first | decide | exact Nat.le_of_ble_eq_true rfl)⟩
    · exact own_retN X0 hx (t := .boolean) Bd.returns (by simp) rfl (hb hby d11_27) hr
    · show Q_rm11 Z _ _ _ _ _ _ h0 n0 _ s₁.heap _
      rw [e0]
      exact ⟨rfl, N0, rfl⟩
theorem ef_rm0 (m : MethodId) (x0 : Int32) (x1 : Int32) (x2 : Int32) (x3 : Int32) (x4 : Int32) (x5 : Int64) : entryFrame m #[(.int x0), (.int x1), (.int x2), (.int x3), (.int x4), (.long x5)] maxLocals = mkF m 0 #[.val (.int x0), .val (.int x1), .val (.int x2), .val (.int x3), .val (.int x4), .val (.long x5), .second, .unset, .unset, .unset, .unset, .unset, .unset, .unset, .unset] [] := by first | (simp [entryFrame, mkF, argsToLocals, Value.category, maxLocals]; done) | rfl
theorem pd_1 : parseMethodDescriptor "(I)[I" = some ⟨[.int], some (.array .int)⟩ := by decide +kernel
theorem pd_2 : parseMethodDescriptor "([IIIIII)V" = some ⟨[(.array .int), .int, .int, .int, .int, .int], none⟩ := by decide +kernel
theorem pd_3 : parseMethodDescriptor "([B[I[ILcom/example/palimpsest/palimpsest/storage/ValueFile;J)V" = some ⟨[(.array .byte), (.array .int), (.array .int), (.object "com/example/palimpsest/palimpsest/storage/ValueFile"), .long], none⟩ := by decide +kernel
theorem pd_4 : parseMethodDescriptor "()I" = some ⟨[], some .int⟩ := by decide +kernel
theorem pd_5 : parseMethodDescriptor "(I)J" = some ⟨[.int], some .long⟩ := by decide +kernel
theorem pd_6 : parseMethodDescriptor "(I)Z" = some ⟨[.int], some .boolean⟩ := by decide +kernel
theorem pd_7 : parseMethodDescriptor "([IIII)Z" = some ⟨[(.array .int), .int, .int, .int], some .boolean⟩ := by decide +kernel
def Q_rm0 (Z : State) (p1 p2 p3 p4 p5 : Int32) (q6 : Int64) (h0 : Heap) (n0 : Nat) (v : Option Value) (h : Heap) (L : List Loc) : Prop := v = some (.int 1) ∧ Fr n0 L
set_option maxRecDepth 65536 in
set_option maxHeartbeats 40000000 in
theorem rm0 (l : Launch) (Z : State) (a0 : Array Value) (hw : ∀ d ∈ tables_1, d.before a0 Z = true) (ws : List Jvm.Cond) (p1 p2 p3 p4 p5 : Int32) (q6 : Int64) (h0 : Heap) (n0 : Nat) (Z0 : n0 ≤ h0.size) :
    MetFree l x (head1 (Jvm.Cond.code x code maxLocals ret :: ws) room_1) (fun ag U => ag = #[(.int p1), (.int p2), (.int p3), (.int p4), (.int p5), (.long q6)] ∧ Z.Warmed39 U.vm ∧ U.heap = h0) (fun _ _ _ _ _ => True) (fun _ U o U' => ∃ v L, o = .returned v ∧ Q_rm0 Z p1 p2 p3 p4 p5 q6 h0 n0 v U'.heap L ∧ FrameEnd U o U' L room_1.cells room_1.slots) := by
  refine MetFree.of_bodySF (plainFor_of_name pn_1) hisR ?_
  intro p e s m args below meth c s₁ Bd hml0 hP hK
  obtain ⟨rfl, hZ, hh⟩ := hP
  have hx := Bd.exec
  have hby := Bd.bytes
  have hml : c.maxLocals = 15 := hml0
  have hown : s.vm.findClass "com/example/palimpsest/palimpsest/storage/RecordWritesPlacePinLaw" = some m.cls := findClass_of_methodNamed Bd.named
  have hnm := (name_of_methodNamed Bd.named Bd.method).1
  have X0 : Stand p l e room_1 s m #[(.int p1), (.int p2), (.int p3), (.int p4), (.int p5), (.long q6)] below meth c s₁ [] 0 0 := Stand.of_body Bd
  have e0 : s₁.heap = h0 := by rw [← hh, Bd.state]; rfl
  have N0 := Fr.nil n0
  refine own_start (ef_rm0 m p1 p2 p3 p4 p5 q6) ?_
  intro F hF
  show own_Gl p.tables e below F (s₁.setTop (mkF m 0 #[.val (.int p1), .val (.int p2), .val (.int p3), .val (.int p4), .val (.int p5), .val (.long q6), .second, .unset, .unset, .unset, .unset, .unset, .unset, .unset, .unset] []))
  refine own_go (fun _ k => XS.iloadN X0.here hx rfl (hb hby at_0) rfl k) ?_
  show own_Gl p.tables e below F (s₁.setTop (mkF m 1 #[.val (.int p1), .val (.int p2), .val (.int p3), .val (.int p4), .val (.int p5), .val (.long q6), .second, .unset, .unset, .unset, .unset, .unset, .unset, .unset, .unset] [(.int p1)]))
  refine own_go (fun _ k => XS.iconst X0.here hx rfl (hb hby at_1) k) ?_
  show own_Gl p.tables e below F (s₁.setTop (mkF m 2 #[.val (.int p1), .val (.int p2), .val (.int p3), .val (.int p4), .val (.int p5), .val (.long q6), .second, .unset, .unset, .unset, .unset, .unset, .unset, .unset, .unset] [(.int (3 : Int32)), (.int p1)]))
  refine own_go (fun _ k => XS.iand X0.here hx rfl (hb hby at_2) rfl k) ?_
  show own_Gl p.tables e below F (s₁.setTop (mkF m 3 #[.val (.int p1), .val (.int p2), .val (.int p3), .val (.int p4), .val (.int p5), .val (.long q6), .second, .unset, .unset, .unset, .unset, .unset, .unset, .unset, .unset] [(.int (p1 &&& (3 : Int32)))]))
  refine own_go (fun _ k => XS.iconst X0.here hx rfl (hb hby at_3) k) ?_
  show own_Gl p.tables e below F (s₁.setTop (mkF m 4 #[.val (.int p1), .val (.int p2), .val (.int p3), .val (.int p4), .val (.int p5), .val (.long q6), .second, .unset, .unset, .unset, .unset, .unset, .unset, .unset, .unset] [(.int (1 : Int32)), (.int (p1 &&& (3 : Int32)))]))
  refine own_go (fun _ k => XS.iadd X0.here hx rfl (hb hby at_4) rfl k) ?_
  show own_Gl p.tables e below F (s₁.setTop (mkF m 5 #[.val (.int p1), .val (.int p2), .val (.int p3), .val (.int p4), .val (.int p5), .val (.long q6), .second, .unset, .unset, .unset, .unset, .unset, .unset, .unset, .unset] [(.int ((p1 &&& (3 : Int32)) + (1 : Int32)))]))
  have hc : own_C ((p1 &&& (3 : Int32)) + (1 : Int32)) := own_cn p1
  generalize ((p1 &&& (3 : Int32)) + (1 : Int32)) = cn at hc ⊢
  show own_Gl p.tables e below F (s₁.setTop (mkF m 5 #[.val (.int p1), .val (.int p2), .val (.int p3), .val (.int p4), .val (.int p5), .val (.long q6), .second, .unset, .unset, .unset, .unset, .unset, .unset, .unset, .unset] [(.int cn)]))
  refine own_go (fun _ k => XS.istore X0.here hx rfl (hb hby at_5) rfl (l' := #[.val (.int p1), .val (.int p2), .val (.int p3), .val (.int p4), .val (.int p5), .val (.long q6), .second, .val (.int cn), .unset, .unset, .unset, .unset, .unset, .unset, .unset]) rfl k) ?_
  show own_Gl p.tables e below F (s₁.setTop (mkF m 7 #[.val (.int p1), .val (.int p2), .val (.int p3), .val (.int p4), .val (.int p5), .val (.long q6), .second, .val (.int cn), .unset, .unset, .unset, .unset, .unset, .unset, .unset] []))
  refine own_go (fun _ k => XS.iloadN X0.here hx rfl (hb hby at_7) rfl k) ?_
  show own_Gl p.tables e below F (s₁.setTop (mkF m 8 #[.val (.int p1), .val (.int p2), .val (.int p3), .val (.int p4), .val (.int p5), .val (.long q6), .second, .val (.int cn), .unset, .unset, .unset, .unset, .unset, .unset, .unset] [(.int p1)]))
  refine own_go (fun _ k => XS.iconst X0.here hx rfl (hb hby at_8) k) ?_
  show own_Gl p.tables e below F (s₁.setTop (mkF m 9 #[.val (.int p1), .val (.int p2), .val (.int p3), .val (.int p4), .val (.int p5), .val (.long q6), .second, .val (.int cn), .unset, .unset, .unset, .unset, .unset, .unset, .unset] [(.int (2 : Int32)), (.int p1)]))
  refine own_go (fun _ k => XS.iushr X0.here hx rfl (hb hby at_9) rfl k) ?_
  show own_Gl p.tables e below F (s₁.setTop (mkF m 10 #[.val (.int p1), .val (.int p2), .val (.int p3), .val (.int p4), .val (.int p5), .val (.long q6), .second, .val (.int cn), .unset, .unset, .unset, .unset, .unset, .unset, .unset] [(.int (XT.ushr p1 (2 : Int32)))]))
  refine own_go (fun _ k => XS.iconst X0.here hx rfl (hb hby at_10) k) ?_
  show own_Gl p.tables e below F (s₁.setTop (mkF m 11 #[.val (.int p1), .val (.int p2), .val (.int p3), .val (.int p4), .val (.int p5), .val (.long q6), .second, .val (.int cn), .unset, .unset, .unset, .unset, .unset, .unset, .unset] [(.int (3 : Int32)), (.int (XT.ushr p1 (2 : Int32)))]))
  refine own_go (fun _ k => XS.iand X0.here hx rfl (hb hby at_11) rfl k) ?_
  show own_Gl p.tables e below F (s₁.setTop (mkF m 12 #[.val (.int p1), .val (.int p2), .val (.int p3), .val (.int p4), .val (.int p5), .val (.long q6), .second, .val (.int cn), .unset, .unset, .unset, .unset, .unset, .unset, .unset] [(.int ((XT.ushr p1 (2 : Int32)) &&& (3 : Int32)))]))
  refine own_go (fun _ k => XS.iload X0.here hx rfl (hb hby at_12) rfl k) ?_
  show own_Gl p.tables e below F (s₁.setTop (mkF m 14 #[.val (.int p1), .val (.int p2), .val (.int p3), .val (.int p4), .val (.int p5), .val (.long q6), .second, .val (.int cn), .unset, .unset, .unset, .unset, .unset, .unset, .unset] [(.int cn), (.int ((XT.ushr p1 (2 : Int32)) &&& (3 : Int32)))]))
  refine own_go (fun _ k => iremM X0 hx rfl (hb hby at_14) rfl (own_nz hc) k) ?_
  show own_Gl p.tables e below F (s₁.setTop (mkF m 15 #[.val (.int p1), .val (.int p2), .val (.int p3), .val (.int p4), .val (.int p5), .val (.long q6), .second, .val (.int cn), .unset, .unset, .unset, .unset, .unset, .unset, .unset] [(.int (((XT.ushr p1 (2 : Int32)) &&& (3 : Int32)) % cn))]))
  have hi : own_I (((XT.ushr p1 (2 : Int32)) &&& (3 : Int32)) % cn) cn := own_ix (XT.ushr p1 (2 : Int32)) hc
  generalize (((XT.ushr p1 (2 : Int32)) &&& (3 : Int32)) % cn) = ix at hi ⊢
  show own_Gl p.tables e below F (s₁.setTop (mkF m 15 #[.val (.int p1), .val (.int p2), .val (.int p3), .val (.int p4), .val (.int p5), .val (.long q6), .second, .val (.int cn), .unset, .unset, .unset, .unset, .unset, .unset, .unset] [(.int ix)]))
  refine own_go (fun _ k => XS.istore X0.here hx rfl (hb hby at_15) rfl (l' := #[.val (.int p1), .val (.int p2), .val (.int p3), .val (.int p4), .val (.int p5), .val (.long q6), .second, .val (.int cn), .val (.int ix), .unset, .unset, .unset, .unset, .unset, .unset]) rfl k) ?_
  show own_Gl p.tables e below F (s₁.setTop (mkF m 17 #[.val (.int p1), .val (.int p2), .val (.int p3), .val (.int p4), .val (.int p5), .val (.long q6), .second, .val (.int cn), .val (.int ix), .unset, .unset, .unset, .unset, .unset, .unset] []))
  refine own_go (fun _ k => XS.iloadN X0.here hx rfl (hb hby at_17) rfl k) ?_
  show own_Gl p.tables e below F (s₁.setTop (mkF m 18 #[.val (.int p1), .val (.int p2), .val (.int p3), .val (.int p4), .val (.int p5), .val (.long q6), .second, .val (.int cn), .val (.int ix), .unset, .unset, .unset, .unset, .unset, .unset] [(.int p1)]))
  refine own_go (fun _ k => XS.iconst X0.here hx rfl (hb hby at_18) k) ?_
  show own_Gl p.tables e below F (s₁.setTop (mkF m 19 #[.val (.int p1), .val (.int p2), .val (.int p3), .val (.int p4), .val (.int p5), .val (.long q6), .second, .val (.int cn), .val (.int ix), .unset, .unset, .unset, .unset, .unset, .unset] [(.int (4 : Int32)), (.int p1)]))
  refine own_go (fun _ k => XS.iushr X0.here hx rfl (hb hby at_19) rfl k) ?_
  show own_Gl p.tables e below F (s₁.setTop (mkF m 20 #[.val (.int p1), .val (.int p2), .val (.int p3), .val (.int p4), .val (.int p5), .val (.long q6), .second, .val (.int cn), .val (.int ix), .unset, .unset, .unset, .unset, .unset, .unset] [(.int (XT.ushr p1 (4 : Int32)))]))
  refine own_go (fun _ k => XS.iconst X0.here hx rfl (hb hby at_20) k) ?_
  show own_Gl p.tables e below F (s₁.setTop (mkF m 21 #[.val (.int p1), .val (.int p2), .val (.int p3), .val (.int p4), .val (.int p5), .val (.long q6), .second, .val (.int cn), .val (.int ix), .unset, .unset, .unset, .unset, .unset, .unset] [(.int (1 : Int32)), (.int (XT.ushr p1 (4 : Int32)))]))
  refine own_go (fun _ k => XS.iand X0.here hx rfl (hb hby at_21) rfl k) ?_
  show own_Gl p.tables e below F (s₁.setTop (mkF m 22 #[.val (.int p1), .val (.int p2), .val (.int p3), .val (.int p4), .val (.int p5), .val (.long q6), .second, .val (.int cn), .val (.int ix), .unset, .unset, .unset, .unset, .unset, .unset] [(.int ((XT.ushr p1 (4 : Int32)) &&& (1 : Int32)))]))
  refine own_go (st' := s₁.setTop (mkF m 31 #[.val (.int p1), .val (.int p2), .val (.int p3), .val (.int p4), .val (.int p5), .val (.long q6), .second, .val (.int cn), .val (.int ix), .unset, .unset, .unset, .unset, .unset, .unset] [(.int (if ((XT.ushr p1 (4 : Int32)) &&& (1 : Int32)) = 0 then p5 else (-1 : Int32)))])) (fun t k => ?_) ?_
  · by_cases hc : ((XT.ushr p1 (4 : Int32)) &&& (1 : Int32)) = 0
    · simp only [if_pos hc] at k
      refine XS.ifYes X0.here hx rfl (pc0 := 22) (pc' := 29) rfl (hb hby at_22) rfl (XT.i0_eq_t hc) (by decide) (by decide) ?_
      show Steps p.tables e below (s₁.setTop (mkF m 29 #[.val (.int p1), .val (.int p2), .val (.int p3), .val (.int p4), .val (.int p5), .val (.long q6), .second, .val (.int cn), .val (.int ix), .unset, .unset, .unset, .unset, .unset, .unset] [])) _
      refine XS.iload X0.here hx rfl (hb hby at_29) rfl ?_
      show Steps p.tables e below (s₁.setTop (mkF m 31 #[.val (.int p1), .val (.int p2), .val (.int p3), .val (.int p4), .val (.int p5), .val (.long q6), .second, .val (.int cn), .val (.int ix), .unset, .unset, .unset, .unset, .unset, .unset] [(.int p5)])) _
      first | exact k | (simp only [if_pos hc]; exact k)
    · simp only [if_neg hc] at k
      refine XS.ifNo X0.here hx rfl (hb hby at_22) rfl (XT.i0_eq_f hc) ?_
      show Steps p.tables e below (s₁.setTop (mkF m 25 #[.val (.int p1), .val (.int p2), .val (.int p3), .val (.int p4), .val (.int p5), .val (.long q6), .second, .val (.int cn), .val (.int ix), .unset, .unset, .unset, .unset, .unset, .unset] [])) _
      refine XS.iconst X0.here hx rfl (hb hby at_25) ?_
      show Steps p.tables e below (s₁.setTop (mkF m 26 #[.val (.int p1), .val (.int p2), .val (.int p3), .val (.int p4), .val (.int p5), .val (.long q6), .second, .val (.int cn), .val (.int ix), .unset, .unset, .unset, .unset, .unset, .unset] [(.int (-1 : Int32))])) _
      refine XS.goto X0.here hx rfl (pc0 := 26) (pc' := 31) rfl (hb hby at_26) (by decide) (by decide) ?_
      show Steps p.tables e below (s₁.setTop (mkF m 31 #[.val (.int p1), .val (.int p2), .val (.int p3), .val (.int p4), .val (.int p5), .val (.long q6), .second, .val (.int cn), .val (.int ix), .unset, .unset, .unset, .unset, .unset, .unset] [(.int (-1 : Int32))])) _
      first | exact k | (simp only [if_neg hc]; exact k)
  show own_Gl p.tables e below F (s₁.setTop (mkF m 31 #[.val (.int p1), .val (.int p2), .val (.int p3), .val (.int p4), .val (.int p5), .val (.long q6), .second, .val (.int cn), .val (.int ix), .unset, .unset, .unset, .unset, .unset, .unset] [(.int (if ((XT.ushr p1 (4 : Int32)) &&& (1 : Int32)) = 0 then p5 else (-1 : Int32)))]))
  generalize (if ((XT.ushr p1 (4 : Int32)) &&& (1 : Int32)) = 0 then p5 else (-1 : Int32)) = vl
  show own_Gl p.tables e below F (s₁.setTop (mkF m 31 #[.val (.int p1), .val (.int p2), .val (.int p3), .val (.int p4), .val (.int p5), .val (.long q6), .second, .val (.int cn), .val (.int ix), .unset, .unset, .unset, .unset, .unset, .unset] [(.int vl)]))
  refine own_go (fun _ k => XS.istore X0.here hx rfl (hb hby at_31) rfl (l' := #[.val (.int p1), .val (.int p2), .val (.int p3), .val (.int p4), .val (.int p5), .val (.long q6), .second, .val (.int cn), .val (.int ix), .val (.int vl), .unset, .unset, .unset, .unset, .unset]) rfl k) ?_
  show own_Gl p.tables e below F (s₁.setTop (mkF m 33 #[.val (.int p1), .val (.int p2), .val (.int p3), .val (.int p4), .val (.int p5), .val (.long q6), .second, .val (.int cn), .val (.int ix), .val (.int vl), .unset, .unset, .unset, .unset, .unset] []))
  refine own_go (fun _ k => XS.iload X0.here hx rfl (hb hby at_33) rfl k) ?_
  show own_Gl p.tables e below F (s₁.setTop (mkF m 35 #[.val (.int p1), .val (.int p2), .val (.int p3), .val (.int p4), .val (.int p5), .val (.long q6), .second, .val (.int cn), .val (.int ix), .val (.int vl), .unset, .unset, .unset, .unset, .unset] [(.int cn)]))
  obtain ⟨_, _, ⟨T1, L1, k1, n1⟩, -, X1, ⟨Lc1, hQ1, l1, y1, z1⟩, st1⟩ := Jvm.LawKit.callS X0 hx (y := (⟨"com/example/palimpsest/palimpsest/storage/RecordWrites", "places", "(I)[I"⟩ : MethodName)) hown (mvT hZ (hw _ (List.mem_of_getElem? (i := 0) rfl))) (mvT hZ (hw _ (List.mem_of_getElem? (i := 1) rfl))) (mvT hZ (hw _ (List.mem_of_getElem? (i := 2) rfl))) (mvT hZ (hw _ (List.mem_of_getElem? (i := 3) rfl))) (by decide) (backOf (W := 0) (rm1 l Z a0 hw [] cn  h0 n0 Z0 hc) hZ (hw _ (List.mem_of_getElem? (i := 3) rfl)) (hw _ (List.mem_of_getElem? (i := 2) rfl)) (by decide) (by decide)) (g := (mkF m 35 #[.val (.int p1), .val (.int p2), .val (.int p3), .val (.int p4), .val (.int p5), .val (.long q6), .second, .val (.int cn), .val (.int ix), .val (.int vl), .unset, .unset, .unset, .unset, .unset] [(.int cn)])) rfl (by rw [hml]; rfl) (argsL := [(.int cn)]) (rest := []) (lenOf pd_1 rfl) rfl (by show 2 * 0 + _ ≤ _; exact Nat.le_of_eq rfl) (hb hby at_35) (fun _ _ => ⟨rfl, e0, (by first | decide | exact Nat.le_of_ble_eq_true rfl), (by first | decide | exact Nat.le_of_ble_eq_true rfl)⟩)
  dsimp only [Pt.U, Pt.locs, Pt.cells, Pt.slots] at X1 l1 y1 z1 st1 hQ1
  obtain ⟨b1, rfl, N1, K1, hb1, VA1⟩ := hQ1
  have X1 := own_sn X1 (k' := 1) (n' := 16) y1 z1
  have NF1 := own_fr l1 N0 N1
  have Z1 : n0 ≤ T1.heap.size := Nat.le_trans Z0 K1.1
  have KK1 := Keep.trans (Keep.refl h0 []) K1 (fun _ q => nomatch q)
  refine own_go st1 ?_
  show own_Gl p.tables e below F (T1.setTop (mkF m 38 #[.val (.int p1), .val (.int p2), .val (.int p3), .val (.int p4), .val (.int p5), .val (.long q6), .second, .val (.int cn), .val (.int ix), .val (.int vl), .unset, .unset, .unset, .unset, .unset] [(.ref b1)]))
  have ge_b1 : n0 ≤ b1 := Nat.le_trans Z0 hb1
  have sz_b1 : h0.size ≤ b1 := hb1
  refine own_go (fun _ k => XS.astore X1.here hx rfl (hb hby at_38) rfl rfl (l' := #[.val (.int p1), .val (.int p2), .val (.int p3), .val (.int p4), .val (.int p5), .val (.long q6), .second, .val (.int cn), .val (.int ix), .val (.int vl), .val (.ref b1), .unset, .unset, .unset, .unset]) rfl k) ?_
  show own_Gl p.tables e below F (T1.setTop (mkF m 40 #[.val (.int p1), .val (.int p2), .val (.int p3), .val (.int p4), .val (.int p5), .val (.long q6), .second, .val (.int cn), .val (.int ix), .val (.int vl), .val (.ref b1), .unset, .unset, .unset, .unset] []))
  refine own_go (fun _ k => XS.aload X1.here hx rfl (hb hby at_40) rfl rfl k) ?_
  show own_Gl p.tables e below F (T1.setTop (mkF m 42 #[.val (.int p1), .val (.int p2), .val (.int p3), .val (.int p4), .val (.int p5), .val (.long q6), .second, .val (.int cn), .val (.int ix), .val (.int vl), .val (.ref b1), .unset, .unset, .unset, .unset] [(.ref b1)]))
  obtain ⟨cl2, Ar2, aS2, aN2, aH2⟩ := id VA1
  refine own_go (fun _ k => X1.arraylength hx (by exact Ar2.1) (State.isArrayOf_alike hZ.alike Ar2.2.1) (g := (mkF m 42 #[.val (.int p1), .val (.int p2), .val (.int p3), .val (.int p4), .val (.int p5), .val (.long q6), .second, .val (.int cn), .val (.int ix), .val (.int vl), .val (.ref b1), .unset, .unset, .unset, .unset] [(.ref b1)])) rfl rfl (hb hby at_42) _ k) ?_
  rw [len_of aS2 aN2]
  show own_Gl p.tables e below F (T1.setTop (mkF m 43 #[.val (.int p1), .val (.int p2), .val (.int p3), .val (.int p4), .val (.int p5), .val (.long q6), .second, .val (.int cn), .val (.int ix), .val (.int vl), .val (.ref b1), .unset, .unset, .unset, .unset] [(.int ((4 : Int32) * cn))]))
  refine own_go (fun _ k => XS.iconst X1.here hx rfl (hb hby at_43) k) ?_
  show own_Gl p.tables e below F (T1.setTop (mkF m 44 #[.val (.int p1), .val (.int p2), .val (.int p3), .val (.int p4), .val (.int p5), .val (.long q6), .second, .val (.int cn), .val (.int ix), .val (.int vl), .val (.ref b1), .unset, .unset, .unset, .unset] [(.int (4 : Int32)), (.int ((4 : Int32) * cn))]))
  refine own_go (fun _ k => XS.iload X1.here hx rfl (hb hby at_44) rfl k) ?_
  show own_Gl p.tables e below F (T1.setTop (mkF m 46 #[.val (.int p1), .val (.int p2), .val (.int p3), .val (.int p4), .val (.int p5), .val (.long q6), .second, .val (.int cn), .val (.int ix), .val (.int vl), .val (.ref b1), .unset, .unset, .unset, .unset] [(.int cn), (.int (4 : Int32)), (.int ((4 : Int32) * cn))]))
  refine own_go (fun _ k => XS.imul X1.here hx rfl (hb hby at_46) rfl k) ?_
  show own_Gl p.tables e below F (T1.setTop (mkF m 47 #[.val (.int p1), .val (.int p2), .val (.int p3), .val (.int p4), .val (.int p5), .val (.long q6), .second, .val (.int cn), .val (.int ix), .val (.int vl), .val (.ref b1), .unset, .unset, .unset, .unset] [(.int ((4 : Int32) * cn)), (.int ((4 : Int32) * cn))]))
  refine own_go (fun _ k => XS.icmpYes X1.here hx rfl (pc0 := 47) (pc' := 52) rfl (hb hby at_47) rfl (XT.ii_eq_t rfl) (by decide) (by decide) k) ?_
  show own_Gl p.tables e below F (T1.setTop (mkF m 52 #[.val (.int p1), .val (.int p2), .val (.int p3), .val (.int p4), .val (.int p5), .val (.long q6), .second, .val (.int cn), .val (.int ix), .val (.int vl), .val (.ref b1), .unset, .unset, .unset, .unset] []))
  refine own_go (fun _ k => XS.aload X1.here hx rfl (hb hby at_52) rfl rfl k) ?_
  show own_Gl p.tables e below F (T1.setTop (mkF m 54 #[.val (.int p1), .val (.int p2), .val (.int p3), .val (.int p4), .val (.int p5), .val (.long q6), .second, .val (.int cn), .val (.int ix), .val (.int vl), .val (.ref b1), .unset, .unset, .unset, .unset] [(.ref b1)]))
  refine own_go (fun _ k => XS.iload X1.here hx rfl (hb hby at_54) rfl k) ?_
  show own_Gl p.tables e below F (T1.setTop (mkF m 56 #[.val (.int p1), .val (.int p2), .val (.int p3), .val (.int p4), .val (.int p5), .val (.long q6), .second, .val (.int cn), .val (.int ix), .val (.int vl), .val (.ref b1), .unset, .unset, .unset, .unset] [(.int ix), (.ref b1)]))
  refine own_go (fun _ k => XS.iloadN X1.here hx rfl (hb hby at_56) rfl k) ?_
  show own_Gl p.tables e below F (T1.setTop (mkF m 57 #[.val (.int p1), .val (.int p2), .val (.int p3), .val (.int p4), .val (.int p5), .val (.long q6), .second, .val (.int cn), .val (.int ix), .val (.int vl), .val (.ref b1), .unset, .unset, .unset, .unset] [(.int p2), (.int ix), (.ref b1)]))
  refine own_go (fun _ k => XS.iloadN X1.here hx rfl (hb hby at_57) rfl k) ?_
  show own_Gl p.tables e below F (T1.setTop (mkF m 58 #[.val (.int p1), .val (.int p2), .val (.int p3), .val (.int p4), .val (.int p5), .val (.long q6), .second, .val (.int cn), .val (.int ix), .val (.int vl), .val (.ref b1), .unset, .unset, .unset, .unset] [(.int p3), (.int p2), (.int ix), (.ref b1)]))
  refine own_go (fun _ k => XS.iloadN X1.here hx rfl (hb hby at_58) rfl k) ?_
  show own_Gl p.tables e below F (T1.setTop (mkF m 59 #[.val (.int p1), .val (.int p2), .val (.int p3), .val (.int p4), .val (.int p5), .val (.long q6), .second, .val (.int cn), .val (.int ix), .val (.int vl), .val (.ref b1), .unset, .unset, .unset, .unset] [(.int p4), (.int p3), (.int p2), (.int ix), (.ref b1)]))
  refine own_go (fun _ k => XS.iload X1.here hx rfl (hb hby at_59) rfl k) ?_
  show own_Gl p.tables e below F (T1.setTop (mkF m 61 #[.val (.int p1), .val (.int p2), .val (.int p3), .val (.int p4), .val (.int p5), .val (.long q6), .second, .val (.int cn), .val (.int ix), .val (.int vl), .val (.ref b1), .unset, .unset, .unset, .unset] [(.int vl), (.int p4), (.int p3), (.int p2), (.int ix), (.ref b1)]))
  obtain ⟨_, _, ⟨T3, L3, k3, n3⟩, -, X3, ⟨Lc3, hQ3, l3, y3, z3⟩, st3⟩ := Jvm.LawKit.callS X1 hx (y := (⟨"com/example/palimpsest/palimpsest/storage/RecordWrites", "place", "([IIIIII)V"⟩ : MethodName)) hown (mvT hZ (hw _ (List.mem_of_getElem? (i := 5) rfl))) (mvT hZ (hw _ (List.mem_of_getElem? (i := 6) rfl))) (mvT hZ (hw _ (List.mem_of_getElem? (i := 2) rfl))) (mvT hZ (hw _ (List.mem_of_getElem? (i := 7) rfl))) (by decide) (backOf (W := 0) (rm2 l Z a0 hw [] b1 ix p2 p3 p4 vl cn (fun _ => (.int (0 : Int32))) T1.heap n0 Z1 VA1 hi ge_b1) hZ (hw _ (List.mem_of_getElem? (i := 7) rfl)) (hw _ (List.mem_of_getElem? (i := 2) rfl)) (by decide) (by decide)) (g := (mkF m 61 #[.val (.int p1), .val (.int p2), .val (.int p3), .val (.int p4), .val (.int p5), .val (.long q6), .second, .val (.int cn), .val (.int ix), .val (.int vl), .val (.ref b1), .unset, .unset, .unset, .unset] [(.int vl), (.int p4), (.int p3), (.int p2), (.int ix), (.ref b1)])) rfl (by rw [hml]; rfl) (argsL := [(.ref b1), (.int ix), (.int p2), (.int p3), (.int p4), (.int vl)]) (rest := []) (lenOf pd_2 rfl) rfl (by show 2 * 0 + _ ≤ _; exact Nat.le_of_eq rfl) (hb hby at_61) (fun _ _ => ⟨rfl, rfl, (by first | decide | exact Nat.le_of_ble_eq_true rfl), (by first | decide | exact Nat.le_of_ble_eq_true rfl)⟩)
  dsimp only [Pt.U, Pt.locs, Pt.cells, Pt.slots] at X3 l3 y3 z3 st3 hQ3
  obtain ⟨rfl, N3, K3, VA3⟩ := hQ3
  have X3 := own_sn X3 (k' := 1) (n' := 16) y3 z3
  have NF3 := own_fr l3 NF1 N3
  have Z3 : n0 ≤ T3.heap.size := Nat.le_trans Z1 K3.1
  have KK3 := Keep.trans KK1 K3 (by intro z hz; simp at hz; rcases hz with rfl; all_goals first | (left; simp; done) | (right; assumption))
  refine own_go st3 ?_
  show own_Gl p.tables e below F (T3.setTop (mkF m 64 #[.val (.int p1), .val (.int p2), .val (.int p3), .val (.int p4), .val (.int p5), .val (.long q6), .second, .val (.int cn), .val (.int ix), .val (.int vl), .val (.ref b1), .unset, .unset, .unset, .unset] []))
  obtain ⟨T4, h4, X4, e4, E4, A4, D4, -, st4⟩ := newO X3 hx hZ hown (hw _ (List.mem_of_getElem? (i := 8) rfl)) (hw _ (List.mem_of_getElem? (i := 9) rfl)) (hw _ (List.mem_of_getElem? (i := 2) rfl)) rfl (g := (mkF m 64 #[.val (.int p1), .val (.int p2), .val (.int p3), .val (.int p4), .val (.int p5), .val (.long q6), .second, .val (.int cn), .val (.int ix), .val (.int vl), .val (.ref b1), .unset, .unset, .unset, .unset] [])) rfl (hb hby at_64) (by first | decide | exact Nat.le_of_ble_eq_true rfl) (by first | decide | exact Nat.le_of_ble_eq_true rfl)
  obtain ⟨b4, g4⟩ : ∃ z, z = T3.heap.size := ⟨_, rfl⟩
  rw [← g4] at A4 D4 st4
  have ne_b1_b4 : b1 ≠ b4 := Nat.ne_of_lt (Nat.lt_of_lt_of_le VA3.lt (Nat.le_of_eq g4.symm))
  have ge_b4 : n0 ≤ b4 := Nat.le_trans Z3 (Nat.le_of_eq g4.symm)
  have sz_b4 : h0.size ≤ b4 := Nat.le_trans (KK3).1 (Nat.le_of_eq g4.symm)
  have f4_0 := VA3.ext E4
  have Z4 : n0 ≤ h4.size := Nat.le_trans Z3 E4.1
  have K4 := Keep.ext KK3 E4
  have F4_bytes : Fld Z h4 b4 "com/example/palimpsest/palimpsest/storage/RecordWrites" "bytes" "[B" .null := D4 (Or.inr (hw _ (List.mem_of_getElem? (i := 18) rfl))) (ty := (.array .byte)) (by decide)
  have F4_places : Fld Z h4 b4 "com/example/palimpsest/palimpsest/storage/RecordWrites" "places" "[I" .null := D4 (Or.inr (hw _ (List.mem_of_getElem? (i := 20) rfl))) (ty := (.array .int)) (by decide)
  have F4_checksums : Fld Z h4 b4 "com/example/palimpsest/palimpsest/storage/RecordWrites" "checksums" "[I" .null := D4 (Or.inr (hw _ (List.mem_of_getElem? (i := 22) rfl))) (ty := (.array .int)) (by decide)
  have F4_file : Fld Z h4 b4 "com/example/palimpsest/palimpsest/storage/RecordWrites" "file" "Lcom/example/palimpsest/palimpsest/storage/ValueFile;" .null := D4 (Or.inr (hw _ (List.mem_of_getElem? (i := 24) rfl))) (ty := (.object "com/example/palimpsest/palimpsest/storage/ValueFile")) (by decide)
  have F4_valuesAt : Fld Z h4 b4 "com/example/palimpsest/palimpsest/storage/RecordWrites" "valuesAt" "J" (.long (0 : Int64)) := D4 (Or.inr (hw _ (List.mem_of_getElem? (i := 26) rfl))) (ty := .long) (by decide)
  have X4 : Stand _ _ _ _ _ _ _ _ _ _ _ _ 2 21 := X4
  refine own_go st4 ?_
  show own_Gl p.tables e below F (T4.setTop (mkF m 67 #[.val (.int p1), .val (.int p2), .val (.int p3), .val (.int p4), .val (.int p5), .val (.long q6), .second, .val (.int cn), .val (.int ix), .val (.int vl), .val (.ref b1), .unset, .unset, .unset, .unset] [(.ref b4)]))
  refine own_go (fun _ k => XS.dup X4.here hx rfl (hb hby at_67) rfl rfl k) ?_
  show own_Gl p.tables e below F (T4.setTop (mkF m 68 #[.val (.int p1), .val (.int p2), .val (.int p3), .val (.int p4), .val (.int p5), .val (.long q6), .second, .val (.int cn), .val (.int ix), .val (.int vl), .val (.ref b1), .unset, .unset, .unset, .unset] [(.ref b4), (.ref b4)]))
  refine own_go (fun _ k => XS.iconst X4.here hx rfl (hb hby at_68) k) ?_
  show own_Gl p.tables e below F (T4.setTop (mkF m 69 #[.val (.int p1), .val (.int p2), .val (.int p3), .val (.int p4), .val (.int p5), .val (.long q6), .second, .val (.int cn), .val (.int ix), .val (.int vl), .val (.ref b1), .unset, .unset, .unset, .unset] [(.int (0 : Int32)), (.ref b4), (.ref b4)]))
  obtain ⟨T5, h5, k5, X5, e5, E5, A5, st5⟩ := newP X4 hx hZ (hw _ (List.mem_of_getElem? (i := 10) rfl)) e4 (g := (mkF m 69 #[.val (.int p1), .val (.int p2), .val (.int p3), .val (.int p4), .val (.int p5), .val (.long q6), .second, .val (.int cn), .val (.int ix), .val (.int vl), .val (.ref b1), .unset, .unset, .unset, .unset] [(.int (0 : Int32)), (.ref b4), (.ref b4)])) rfl (hb hby at_69) rfl (by decide) (cap := 0) (by decide) (by decide) (by decide) (by decide)
  obtain ⟨b5, g5⟩ : ∃ z, z = h4.size := ⟨_, rfl⟩
  rw [← g5] at A5 st5
  have ne_b1_b5 : b1 ≠ b5 := Nat.ne_of_lt (Nat.lt_of_lt_of_le f4_0.lt (Nat.le_of_eq g5.symm))
  have ne_b4_b5 : b4 ≠ b5 := Nat.ne_of_lt (Nat.lt_of_lt_of_le A4.lt (Nat.le_of_eq g5.symm))
  have ge_b5 : n0 ≤ b5 := Nat.le_trans Z4 (Nat.le_of_eq g5.symm)
  have sz_b5 : h0.size ≤ b5 := Nat.le_trans (K4).1 (Nat.le_of_eq g5.symm)
  have f5_0 := f4_0.ext E5
  have f5_1 := A4.ext E5
  have f5_2 := F4_bytes.ext E5
  have f5_3 := F4_places.ext E5
  have f5_4 := F4_checksums.ext E5
  have f5_5 := F4_file.ext E5
  have f5_6 := F4_valuesAt.ext E5
  have Z5 : n0 ≤ h5.size := Nat.le_trans Z4 E5.1
  have K5 := Keep.ext K4 E5
  have V5 : own_A Z h5 b5 .byte (0 : Int32) (fun _ => (.int (0 : Int32))) := own_A.new A5 (by decide)
  have X5 : Stand _ _ _ _ _ _ _ _ _ _ _ _ 3 21 := X5
  refine own_go st5 ?_
  show own_Gl p.tables e below F (T5.setTop (mkF m 71 #[.val (.int p1), .val (.int p2), .val (.int p3), .val (.int p4), .val (.int p5), .val (.long q6), .second, .val (.int cn), .val (.int ix), .val (.int vl), .val (.ref b1), .unset, .unset, .unset, .unset] [(.ref b5), (.ref b4), (.ref b4)]))
  refine own_go (fun _ k => XS.aload X5.here hx rfl (hb hby at_71) rfl rfl k) ?_
  show own_Gl p.tables e below F (T5.setTop (mkF m 73 #[.val (.int p1), .val (.int p2), .val (.int p3), .val (.int p4), .val (.int p5), .val (.long q6), .second, .val (.int cn), .val (.int ix), .val (.int vl), .val (.ref b1), .unset, .unset, .unset, .unset] [(.ref b1), (.ref b5), (.ref b4), (.ref b4)]))
  refine own_go (fun _ k => XS.iload X5.here hx rfl (hb hby at_73) rfl k) ?_
  show own_Gl p.tables e below F (T5.setTop (mkF m 75 #[.val (.int p1), .val (.int p2), .val (.int p3), .val (.int p4), .val (.int p5), .val (.long q6), .second, .val (.int cn), .val (.int ix), .val (.int vl), .val (.ref b1), .unset, .unset, .unset, .unset] [(.int cn), (.ref b1), (.ref b5), (.ref b4), (.ref b4)]))
  obtain ⟨T6, h6, k6, X6, e6, E6, A6, st6⟩ := newP X5 hx hZ (hw _ (List.mem_of_getElem? (i := 4) rfl)) e5 (g := (mkF m 75 #[.val (.int p1), .val (.int p2), .val (.int p3), .val (.int p4), .val (.int p5), .val (.long q6), .second, .val (.int cn), .val (.int ix), .val (.int vl), .val (.ref b1), .unset, .unset, .unset, .unset] [(.int cn), (.ref b1), (.ref b5), (.ref b4), (.ref b4)])) rfl (hb hby at_75) rfl (own_neg' hc) (cap := 4) (own_cap' hc) (by decide) (by decide) (by decide)
  obtain ⟨b6, g6⟩ : ∃ z, z = h5.size := ⟨_, rfl⟩
  rw [← g6] at A6 st6
  have ne_b1_b6 : b1 ≠ b6 := Nat.ne_of_lt (Nat.lt_of_lt_of_le f5_0.lt (Nat.le_of_eq g6.symm))
  have ne_b4_b6 : b4 ≠ b6 := Nat.ne_of_lt (Nat.lt_of_lt_of_le f5_1.lt (Nat.le_of_eq g6.symm))
  have ne_b5_b6 : b5 ≠ b6 := Nat.ne_of_lt (Nat.lt_of_lt_of_le V5.lt (Nat.le_of_eq g6.symm))
  have ge_b6 : n0 ≤ b6 := Nat.le_trans Z5 (Nat.le_of_eq g6.symm)
  have sz_b6 : h0.size ≤ b6 := Nat.le_trans (K5).1 (Nat.le_of_eq g6.symm)
  have f6_0 := f5_0.ext E6
  have f6_1 := f5_1.ext E6
  have f6_2 := f5_2.ext E6
  have f6_3 := f5_3.ext E6
  have f6_4 := f5_4.ext E6
  have f6_5 := f5_5.ext E6
  have f6_6 := f5_6.ext E6
  have f6_7 := V5.ext E6
  have Z6 : n0 ≤ h6.size := Nat.le_trans Z5 E6.1
  have K6 := Keep.ext K5 E6
  have V6 : own_A Z h6 b6 .int cn (fun _ => (.int (0 : Int32))) := own_A.new A6 (own_neg' hc)
  have X6 : Stand _ _ _ _ _ _ _ _ _ _ _ _ 4 25 := X6
  refine own_go st6 ?_
  show own_Gl p.tables e below F (T6.setTop (mkF m 77 #[.val (.int p1), .val (.int p2), .val (.int p3), .val (.int p4), .val (.int p5), .val (.long q6), .second, .val (.int cn), .val (.int ix), .val (.int vl), .val (.ref b1), .unset, .unset, .unset, .unset] [(.ref b6), (.ref b1), (.ref b5), (.ref b4), (.ref b4)]))
  refine own_go (fun _ k => XS.aconstNull X6.here hx rfl (hb hby at_77) k) ?_
  show own_Gl p.tables e below F (T6.setTop (mkF m 78 #[.val (.int p1), .val (.int p2), .val (.int p3), .val (.int p4), .val (.int p5), .val (.long q6), .second, .val (.int cn), .val (.int ix), .val (.int vl), .val (.ref b1), .unset, .unset, .unset, .unset] [.null, (.ref b6), (.ref b1), (.ref b5), (.ref b4), (.ref b4)]))
  refine own_go (fun _ k => XS.lload X6.here hx rfl (hb hby at_78) rfl k) ?_
  show own_Gl p.tables e below F (T6.setTop (mkF m 80 #[.val (.int p1), .val (.int p2), .val (.int p3), .val (.int p4), .val (.int p5), .val (.long q6), .second, .val (.int cn), .val (.int ix), .val (.int vl), .val (.ref b1), .unset, .unset, .unset, .unset] [(.long q6), .null, (.ref b6), (.ref b1), (.ref b5), (.ref b4), (.ref b4)]))
  obtain ⟨_, _, ⟨T7, L7, k7, n7⟩, -, X7, ⟨Lc7, hQ7, l7, y7, z7⟩, st7⟩ := X6.specialBack hx (y := (⟨"com/example/palimpsest/palimpsest/storage/RecordWrites", "<init>", "([B[I[ILcom/example/palimpsest/palimpsest/storage/ValueFile;J)V"⟩ : MethodName)) rfl hown (mvT hZ (hw _ (List.mem_of_getElem? (i := 11) rfl))) (mvT hZ (hw _ (List.mem_of_getElem? (i := 12) rfl))) (mvT hZ (hw _ (List.mem_of_getElem? (i := 13) rfl))) (by decide) (backOf (W := 1) (rm3 l Z a0 hw [] b4 b5 b1 b6 q6  h6 n0 Z6 f6_1 f6_2 f6_3 f6_4 f6_5 f6_6 ge_b4 ) hZ (hw _ (List.mem_of_getElem? (i := 13) rfl)) (hw _ (List.mem_of_getElem? (i := 2) rfl)) (by decide) (by decide)) (g := (mkF m 80 #[.val (.int p1), .val (.int p2), .val (.int p3), .val (.int p4), .val (.int p5), .val (.long q6), .second, .val (.int cn), .val (.int ix), .val (.int vl), .val (.ref b1), .unset, .unset, .unset, .unset] [(.long q6), .null, (.ref b6), (.ref b1), (.ref b5), (.ref b4), (.ref b4)])) rfl (by rw [hml]; rfl) (Steps.refl _) (a := b4) (argsL := [(.ref b5), (.ref b1), (.ref b6), .null, (.long q6)]) (rest := [(.ref b4)]) (lenOf pd_3 rfl) rfl (by show 2 * 0 + _ ≤ _; exact Nat.le_of_eq rfl) (hb hby at_80) (fun _ _ => ⟨rfl, e6, (by first | decide | exact Nat.le_of_ble_eq_true rfl), (by first | decide | exact Nat.le_of_ble_eq_true rfl)⟩)
  dsimp only [Pt.U, Pt.locs, Pt.cells, Pt.slots] at X7 l7 y7 z7 st7 hQ7
  obtain ⟨rfl, N7, K7, G7_E, G7_bytes, G7_places, G7_checksums, G7_file, G7_valuesAt⟩ := hQ7
  have X7 := own_sn X7 (k' := 4) (n' := 25) y7 z7
  have NF7 := own_fr l7 NF3 N7
  have f7_1 := f6_0.keep K7 (ninS ne_b1_b4 nin0)
  have f7_2 := f6_1.keep K7
  have f7_8 := f6_7.keep K7 (ninS (Ne.symm ne_b4_b5) nin0)
  have f7_9 := V6.keep K7 (ninS (Ne.symm ne_b4_b6) nin0)
  have Z7 : n0 ≤ T7.heap.size := Nat.le_trans Z6 K7.1
  have KK7 := Keep.trans K6 K7 (by intro z hz; simp at hz; rcases hz with rfl; all_goals first | (left; simp; done) | (right; assumption))
  refine own_go (fun _ k => st7.trans k) ?_
  show own_Gl p.tables e below F (T7.setTop (mkF m 83 #[.val (.int p1), .val (.int p2), .val (.int p3), .val (.int p4), .val (.int p5), .val (.long q6), .second, .val (.int cn), .val (.int ix), .val (.int vl), .val (.ref b1), .unset, .unset, .unset, .unset] [(.ref b4)]))
  refine own_go (fun _ k => XS.astore X7.here hx rfl (hb hby at_83) rfl rfl (l' := #[.val (.int p1), .val (.int p2), .val (.int p3), .val (.int p4), .val (.int p5), .val (.long q6), .second, .val (.int cn), .val (.int ix), .val (.int vl), .val (.ref b1), .val (.ref b4), .unset, .unset, .unset]) rfl k) ?_
  show own_Gl p.tables e below F (T7.setTop (mkF m 85 #[.val (.int p1), .val (.int p2), .val (.int p3), .val (.int p4), .val (.int p5), .val (.long q6), .second, .val (.int cn), .val (.int ix), .val (.int vl), .val (.ref b1), .val (.ref b4), .unset, .unset, .unset] []))
  refine own_go (fun _ k => XS.aload X7.here hx rfl (hb hby at_85) rfl rfl k) ?_
  show own_Gl p.tables e below F (T7.setTop (mkF m 87 #[.val (.int p1), .val (.int p2), .val (.int p3), .val (.int p4), .val (.int p5), .val (.long q6), .second, .val (.int cn), .val (.int ix), .val (.int vl), .val (.ref b1), .val (.ref b4), .unset, .unset, .unset] [(.ref b4)]))
  obtain ⟨cq8, kq8, q8a, q8b, q8c⟩ := isOf hZ rfl G7_E
  obtain ⟨_, _, ⟨T8, L8, k8, n8⟩, -, X8, ⟨Lc8, hQ8, l8, y8, z8⟩, st8⟩ := X7.virtualBack hx (y := (⟨"com/example/palimpsest/palimpsest/storage/RecordWrites", "size", "()I"⟩ : MethodName)) (z := (⟨"com/example/palimpsest/palimpsest/storage/RecordWrites", "size", "()I"⟩ : MethodName)) hown (mvT hZ (hw _ (List.mem_of_getElem? (i := 27) rfl))) (mvT hZ (hw _ (List.mem_of_getElem? (i := 28) rfl))) (notFace_of_selects (args := #[]) (mvT hZ (hw _ (List.mem_of_getElem? (i := 30) rfl)))) (mvT hZ (hw _ (List.mem_of_getElem? (i := 30) rfl))) (mvT hZ (hw _ (List.mem_of_getElem? (i := 29) rfl))) (by decide) (backOf (W := 0) (rm5 l Z a0 hw [] b4 b1 cn (own_put (fun _ => (.int (0 : Int32))) ix p2 p3 p4 vl) T7.heap n0 Z7 G7_places f7_1) hZ (hw _ (List.mem_of_getElem? (i := 31) rfl)) (hw _ (List.mem_of_getElem? (i := 2) rfl)) (by decide) (by decide)) q8a q8c (g := (mkF m 87 #[.val (.int p1), .val (.int p2), .val (.int p3), .val (.int p4), .val (.int p5), .val (.long q6), .second, .val (.int cn), .val (.int ix), .val (.int vl), .val (.ref b1), .val (.ref b4), .unset, .unset, .unset] [(.ref b4)])) rfl (by rw [hml]; rfl) (Steps.refl _) (argsL := []) (rest := []) (lenOf pd_4 rfl) rfl (by show 2 * 0 + _ ≤ _; exact Nat.le_of_eq rfl) (hb hby at_87) (fun _ _ => ⟨rfl, rfl, (by first | decide | exact Nat.le_of_ble_eq_true rfl), (by first | decide | exact Nat.le_of_ble_eq_true rfl)⟩)
  dsimp only [Pt.U, Pt.locs, Pt.cells, Pt.slots] at X8 l8 y8 z8 st8 hQ8
  obtain ⟨rfl, N8, e8⟩ := hQ8
  have X8 := own_sn X8 (k' := 4) (n' := 25) y8 z8
  have NF8 := own_fr l8 NF7 N8
  refine own_go (fun _ k => st8.trans k) ?_
  show own_Gl p.tables e below F (T8.setTop (mkF m 90 #[.val (.int p1), .val (.int p2), .val (.int p3), .val (.int p4), .val (.int p5), .val (.long q6), .second, .val (.int cn), .val (.int ix), .val (.int vl), .val (.ref b1), .val (.ref b4), .unset, .unset, .unset] [(.int (((4 : Int32) * cn) / (4 : Int32)))]))
  refine own_go (fun _ k => XS.iload X8.here hx rfl (hb hby at_90) rfl k) ?_
  show own_Gl p.tables e below F (T8.setTop (mkF m 92 #[.val (.int p1), .val (.int p2), .val (.int p3), .val (.int p4), .val (.int p5), .val (.long q6), .second, .val (.int cn), .val (.int ix), .val (.int vl), .val (.ref b1), .val (.ref b4), .unset, .unset, .unset] [(.int cn), (.int (((4 : Int32) * cn) / (4 : Int32)))]))
  refine own_go (fun _ k => XS.icmpNo X8.here hx rfl (hb hby at_92) rfl (XT.ii_ne_f (own_div hc)) k) ?_
  show own_Gl p.tables e below F (T8.setTop (mkF m 95 #[.val (.int p1), .val (.int p2), .val (.int p3), .val (.int p4), .val (.int p5), .val (.long q6), .second, .val (.int cn), .val (.int ix), .val (.int vl), .val (.ref b1), .val (.ref b4), .unset, .unset, .unset] []))
  refine own_go (fun _ k => XS.aload X8.here hx rfl (hb hby at_95) rfl rfl k) ?_
  show own_Gl p.tables e below F (T8.setTop (mkF m 97 #[.val (.int p1), .val (.int p2), .val (.int p3), .val (.int p4), .val (.int p5), .val (.long q6), .second, .val (.int cn), .val (.int ix), .val (.int vl), .val (.ref b1), .val (.ref b4), .unset, .unset, .unset] [(.ref b4)]))
  refine own_go (fun _ k => XS.iload X8.here hx rfl (hb hby at_97) rfl k) ?_
  show own_Gl p.tables e below F (T8.setTop (mkF m 99 #[.val (.int p1), .val (.int p2), .val (.int p3), .val (.int p4), .val (.int p5), .val (.long q6), .second, .val (.int cn), .val (.int ix), .val (.int vl), .val (.ref b1), .val (.ref b4), .unset, .unset, .unset] [(.int ix), (.ref b4)]))
  obtain ⟨cq9, kq9, q9a, q9b, q9c⟩ := isOf hZ e8 G7_E
  obtain ⟨_, _, ⟨T9, L9, k9, n9⟩, -, X9, ⟨Lc9, hQ9, l9, y9, z9⟩, st9⟩ := X8.virtualBack hx (y := (⟨"com/example/palimpsest/palimpsest/storage/RecordWrites", "keyAt", "(I)I"⟩ : MethodName)) (z := (⟨"com/example/palimpsest/palimpsest/storage/RecordWrites", "keyAt", "(I)I"⟩ : MethodName)) hown (mvT hZ (hw _ (List.mem_of_getElem? (i := 32) rfl))) (mvT hZ (hw _ (List.mem_of_getElem? (i := 33) rfl))) (notFace_of_selects (args := #[]) (mvT hZ (hw _ (List.mem_of_getElem? (i := 35) rfl)))) (mvT hZ (hw _ (List.mem_of_getElem? (i := 35) rfl))) (mvT hZ (hw _ (List.mem_of_getElem? (i := 34) rfl))) (by decide) (backOf (W := 0) (rm6 l Z a0 hw [] b4 ix b1 cn (own_put (fun _ => (.int (0 : Int32))) ix p2 p3 p4 vl) p2 T7.heap n0 Z7 G7_places f7_1 hi (own_put0 _ hi _ _ _ _)) hZ (hw _ (List.mem_of_getElem? (i := 36) rfl)) (hw _ (List.mem_of_getElem? (i := 2) rfl)) (by decide) (by decide)) q9a q9c (g := (mkF m 99 #[.val (.int p1), .val (.int p2), .val (.int p3), .val (.int p4), .val (.int p5), .val (.long q6), .second, .val (.int cn), .val (.int ix), .val (.int vl), .val (.ref b1), .val (.ref b4), .unset, .unset, .unset] [(.int ix), (.ref b4)])) rfl (by rw [hml]; rfl) (Steps.refl _) (argsL := [(.int ix)]) (rest := []) (lenOf pd_0 rfl) rfl (by show 2 * 0 + _ ≤ _; exact Nat.le_of_eq rfl) (hb hby at_99) (fun _ _ => ⟨rfl, e8, (by first | decide | exact Nat.le_of_ble_eq_true rfl), (by first | decide | exact Nat.le_of_ble_eq_true rfl)⟩)
  dsimp only [Pt.U, Pt.locs, Pt.cells, Pt.slots] at X9 l9 y9 z9 st9 hQ9
  obtain ⟨rfl, N9, e9⟩ := hQ9
  have X9 := own_sn X9 (k' := 4) (n' := 25) y9 z9
  have NF9 := own_fr l9 NF8 N9
  refine own_go (fun _ k => st9.trans k) ?_
  show own_Gl p.tables e below F (T9.setTop (mkF m 102 #[.val (.int p1), .val (.int p2), .val (.int p3), .val (.int p4), .val (.int p5), .val (.long q6), .second, .val (.int cn), .val (.int ix), .val (.int vl), .val (.ref b1), .val (.ref b4), .unset, .unset, .unset] [(.int p2)]))
  refine own_go (fun _ k => XS.iloadN X9.here hx rfl (hb hby at_102) rfl k) ?_
  show own_Gl p.tables e below F (T9.setTop (mkF m 103 #[.val (.int p1), .val (.int p2), .val (.int p3), .val (.int p4), .val (.int p5), .val (.long q6), .second, .val (.int cn), .val (.int ix), .val (.int vl), .val (.ref b1), .val (.ref b4), .unset, .unset, .unset] [(.int p2), (.int p2)]))
  refine own_go (fun _ k => XS.icmpNo X9.here hx rfl (hb hby at_103) rfl (XT.ii_ne_f rfl) k) ?_
  show own_Gl p.tables e below F (T9.setTop (mkF m 106 #[.val (.int p1), .val (.int p2), .val (.int p3), .val (.int p4), .val (.int p5), .val (.long q6), .second, .val (.int cn), .val (.int ix), .val (.int vl), .val (.ref b1), .val (.ref b4), .unset, .unset, .unset] []))
  refine own_go (fun _ k => XS.aload X9.here hx rfl (hb hby at_106) rfl rfl k) ?_
  show own_Gl p.tables e below F (T9.setTop (mkF m 108 #[.val (.int p1), .val (.int p2), .val (.int p3), .val (.int p4), .val (.int p5), .val (.long q6), .second, .val (.int cn), .val (.int ix), .val (.int vl), .val (.ref b1), .val (.ref b4), .unset, .unset, .unset] [(.ref b4)]))
  refine own_go (fun _ k => XS.iload X9.here hx rfl (hb hby at_108) rfl k) ?_
  show own_Gl p.tables e below F (T9.setTop (mkF m 110 #[.val (.int p1), .val (.int p2), .val (.int p3), .val (.int p4), .val (.int p5), .val (.long q6), .second, .val (.int cn), .val (.int ix), .val (.int vl), .val (.ref b1), .val (.ref b4), .unset, .unset, .unset] [(.int ix), (.ref b4)]))
  obtain ⟨cq10, kq10, q10a, q10b, q10c⟩ := isOf hZ e9 G7_E
  obtain ⟨_, _, ⟨T10, L10, k10, n10⟩, -, X10, ⟨Lc10, hQ10, l10, y10, z10⟩, st10⟩ := X9.virtualBack hx (y := (⟨"com/example/palimpsest/palimpsest/storage/RecordWrites", "keyLength", "(I)I"⟩ : MethodName)) (z := (⟨"com/example/palimpsest/palimpsest/storage/RecordWrites", "keyLength", "(I)I"⟩ : MethodName)) hown (mvT hZ (hw _ (List.mem_of_getElem? (i := 37) rfl))) (mvT hZ (hw _ (List.mem_of_getElem? (i := 38) rfl))) (notFace_of_selects (args := #[]) (mvT hZ (hw _ (List.mem_of_getElem? (i := 40) rfl)))) (mvT hZ (hw _ (List.mem_of_getElem? (i := 40) rfl))) (mvT hZ (hw _ (List.mem_of_getElem? (i := 39) rfl))) (by decide) (backOf (W := 0) (rm7 l Z a0 hw [] b4 ix b1 cn (own_put (fun _ => (.int (0 : Int32))) ix p2 p3 p4 vl) p3 T7.heap n0 Z7 G7_places f7_1 hi (own_put1 _ hi _ _ _ _)) hZ (hw _ (List.mem_of_getElem? (i := 41) rfl)) (hw _ (List.mem_of_getElem? (i := 2) rfl)) (by decide) (by decide)) q10a q10c (g := (mkF m 110 #[.val (.int p1), .val (.int p2), .val (.int p3), .val (.int p4), .val (.int p5), .val (.long q6), .second, .val (.int cn), .val (.int ix), .val (.int vl), .val (.ref b1), .val (.ref b4), .unset, .unset, .unset] [(.int ix), (.ref b4)])) rfl (by rw [hml]; rfl) (Steps.refl _) (argsL := [(.int ix)]) (rest := []) (lenOf pd_0 rfl) rfl (by show 2 * 0 + _ ≤ _; exact Nat.le_of_eq rfl) (hb hby at_110) (fun _ _ => ⟨rfl, e9, (by first | decide | exact Nat.le_of_ble_eq_true rfl), (by first | decide | exact Nat.le_of_ble_eq_true rfl)⟩)
  dsimp only [Pt.U, Pt.locs, Pt.cells, Pt.slots] at X10 l10 y10 z10 st10 hQ10
  obtain ⟨rfl, N10, e10⟩ := hQ10
  have X10 := own_sn X10 (k' := 4) (n' := 25) y10 z10
  have NF10 := own_fr l10 NF9 N10
  refine own_go (fun _ k => st10.trans k) ?_
  show own_Gl p.tables e below F (T10.setTop (mkF m 113 #[.val (.int p1), .val (.int p2), .val (.int p3), .val (.int p4), .val (.int p5), .val (.long q6), .second, .val (.int cn), .val (.int ix), .val (.int vl), .val (.ref b1), .val (.ref b4), .unset, .unset, .unset] [(.int p3)]))
  refine own_go (fun _ k => XS.iloadN X10.here hx rfl (hb hby at_113) rfl k) ?_
  show own_Gl p.tables e below F (T10.setTop (mkF m 114 #[.val (.int p1), .val (.int p2), .val (.int p3), .val (.int p4), .val (.int p5), .val (.long q6), .second, .val (.int cn), .val (.int ix), .val (.int vl), .val (.ref b1), .val (.ref b4), .unset, .unset, .unset] [(.int p3), (.int p3)]))
  refine own_go (fun _ k => XS.icmpNo X10.here hx rfl (hb hby at_114) rfl (XT.ii_ne_f rfl) k) ?_
  show own_Gl p.tables e below F (T10.setTop (mkF m 117 #[.val (.int p1), .val (.int p2), .val (.int p3), .val (.int p4), .val (.int p5), .val (.long q6), .second, .val (.int cn), .val (.int ix), .val (.int vl), .val (.ref b1), .val (.ref b4), .unset, .unset, .unset] []))
  refine own_go (fun _ k => XS.aload X10.here hx rfl (hb hby at_117) rfl rfl k) ?_
  show own_Gl p.tables e below F (T10.setTop (mkF m 119 #[.val (.int p1), .val (.int p2), .val (.int p3), .val (.int p4), .val (.int p5), .val (.long q6), .second, .val (.int cn), .val (.int ix), .val (.int vl), .val (.ref b1), .val (.ref b4), .unset, .unset, .unset] [(.ref b4)]))
  refine own_go (fun _ k => XS.iload X10.here hx rfl (hb hby at_119) rfl k) ?_
  show own_Gl p.tables e below F (T10.setTop (mkF m 121 #[.val (.int p1), .val (.int p2), .val (.int p3), .val (.int p4), .val (.int p5), .val (.long q6), .second, .val (.int cn), .val (.int ix), .val (.int vl), .val (.ref b1), .val (.ref b4), .unset, .unset, .unset] [(.int ix), (.ref b4)]))
  obtain ⟨cq11, kq11, q11a, q11b, q11c⟩ := isOf hZ e10 G7_E
  obtain ⟨_, _, ⟨T11, L11, k11, n11⟩, -, X11, ⟨Lc11, hQ11, l11, y11, z11⟩, st11⟩ := X10.virtualBack hx (y := (⟨"com/example/palimpsest/palimpsest/storage/RecordWrites", "valueLength", "(I)I"⟩ : MethodName)) (z := (⟨"com/example/palimpsest/palimpsest/storage/RecordWrites", "valueLength", "(I)I"⟩ : MethodName)) hown (mvT hZ (hw _ (List.mem_of_getElem? (i := 42) rfl))) (mvT hZ (hw _ (List.mem_of_getElem? (i := 43) rfl))) (notFace_of_selects (args := #[]) (mvT hZ (hw _ (List.mem_of_getElem? (i := 45) rfl)))) (mvT hZ (hw _ (List.mem_of_getElem? (i := 45) rfl))) (mvT hZ (hw _ (List.mem_of_getElem? (i := 44) rfl))) (by decide) (backOf (W := 0) (rm8 l Z a0 hw [] b4 ix b1 cn (own_put (fun _ => (.int (0 : Int32))) ix p2 p3 p4 vl) vl T7.heap n0 Z7 G7_places f7_1 hi (own_put3 _ hi _ _ _ _)) hZ (hw _ (List.mem_of_getElem? (i := 46) rfl)) (hw _ (List.mem_of_getElem? (i := 2) rfl)) (by decide) (by decide)) q11a q11c (g := (mkF m 121 #[.val (.int p1), .val (.int p2), .val (.int p3), .val (.int p4), .val (.int p5), .val (.long q6), .second, .val (.int cn), .val (.int ix), .val (.int vl), .val (.ref b1), .val (.ref b4), .unset, .unset, .unset] [(.int ix), (.ref b4)])) rfl (by rw [hml]; rfl) (Steps.refl _) (argsL := [(.int ix)]) (rest := []) (lenOf pd_0 rfl) rfl (by show 2 * 0 + _ ≤ _; exact Nat.le_of_eq rfl) (hb hby at_121) (fun _ _ => ⟨rfl, e10, (by first | decide | exact Nat.le_of_ble_eq_true rfl), (by first | decide | exact Nat.le_of_ble_eq_true rfl)⟩)
  dsimp only [Pt.U, Pt.locs, Pt.cells, Pt.slots] at X11 l11 y11 z11 st11 hQ11
  obtain ⟨rfl, N11, e11⟩ := hQ11
  have X11 := own_sn X11 (k' := 4) (n' := 25) y11 z11
  have NF11 := own_fr l11 NF10 N11
  refine own_go (fun _ k => st11.trans k) ?_
  show own_Gl p.tables e below F (T11.setTop (mkF m 124 #[.val (.int p1), .val (.int p2), .val (.int p3), .val (.int p4), .val (.int p5), .val (.long q6), .second, .val (.int cn), .val (.int ix), .val (.int vl), .val (.ref b1), .val (.ref b4), .unset, .unset, .unset] [(.int vl)]))
  refine own_go (fun _ k => XS.iload X11.here hx rfl (hb hby at_124) rfl k) ?_
  show own_Gl p.tables e below F (T11.setTop (mkF m 126 #[.val (.int p1), .val (.int p2), .val (.int p3), .val (.int p4), .val (.int p5), .val (.long q6), .second, .val (.int cn), .val (.int ix), .val (.int vl), .val (.ref b1), .val (.ref b4), .unset, .unset, .unset] [(.int vl), (.int vl)]))
  refine own_go (fun _ k => XS.icmpNo X11.here hx rfl (hb hby at_126) rfl (XT.ii_ne_f rfl) k) ?_
  show own_Gl p.tables e below F (T11.setTop (mkF m 129 #[.val (.int p1), .val (.int p2), .val (.int p3), .val (.int p4), .val (.int p5), .val (.long q6), .second, .val (.int cn), .val (.int ix), .val (.int vl), .val (.ref b1), .val (.ref b4), .unset, .unset, .unset] []))
  refine own_go (fun _ k => XS.aload X11.here hx rfl (hb hby at_129) rfl rfl k) ?_
  show own_Gl p.tables e below F (T11.setTop (mkF m 131 #[.val (.int p1), .val (.int p2), .val (.int p3), .val (.int p4), .val (.int p5), .val (.long q6), .second, .val (.int cn), .val (.int ix), .val (.int vl), .val (.ref b1), .val (.ref b4), .unset, .unset, .unset] [(.ref b4)]))
  refine own_go (fun _ k => XS.iload X11.here hx rfl (hb hby at_131) rfl k) ?_
  show own_Gl p.tables e below F (T11.setTop (mkF m 133 #[.val (.int p1), .val (.int p2), .val (.int p3), .val (.int p4), .val (.int p5), .val (.long q6), .second, .val (.int cn), .val (.int ix), .val (.int vl), .val (.ref b1), .val (.ref b4), .unset, .unset, .unset] [(.int ix), (.ref b4)]))
  obtain ⟨cq12, kq12, q12a, q12b, q12c⟩ := isOf hZ e11 G7_E
  obtain ⟨_, _, ⟨T12, L12, k12, n12⟩, -, X12, ⟨Lc12, hQ12, l12, y12, z12⟩, st12⟩ := X11.virtualBack hx (y := (⟨"com/example/palimpsest/palimpsest/storage/RecordWrites", "valueOffset", "(I)J"⟩ : MethodName)) (z := (⟨"com/example/palimpsest/palimpsest/storage/RecordWrites", "valueOffset", "(I)J"⟩ : MethodName)) hown (mvT hZ (hw _ (List.mem_of_getElem? (i := 47) rfl))) (mvT hZ (hw _ (List.mem_of_getElem? (i := 48) rfl))) (notFace_of_selects (args := #[]) (mvT hZ (hw _ (List.mem_of_getElem? (i := 50) rfl)))) (mvT hZ (hw _ (List.mem_of_getElem? (i := 50) rfl))) (mvT hZ (hw _ (List.mem_of_getElem? (i := 49) rfl))) (by decide) (backOf (W := 0) (rm9 l Z a0 hw [] b4 ix b1 cn (own_put (fun _ => (.int (0 : Int32))) ix p2 p3 p4 vl) p4 q6 T7.heap n0 Z7 G7_places f7_1 hi (own_put2 _ hi _ _ _ _) G7_valuesAt) hZ (hw _ (List.mem_of_getElem? (i := 51) rfl)) (hw _ (List.mem_of_getElem? (i := 2) rfl)) (by decide) (by decide)) q12a q12c (g := (mkF m 133 #[.val (.int p1), .val (.int p2), .val (.int p3), .val (.int p4), .val (.int p5), .val (.long q6), .second, .val (.int cn), .val (.int ix), .val (.int vl), .val (.ref b1), .val (.ref b4), .unset, .unset, .unset] [(.int ix), (.ref b4)])) rfl (by rw [hml]; rfl) (Steps.refl _) (argsL := [(.int ix)]) (rest := []) (lenOf pd_5 rfl) rfl (by show 2 * 0 + _ ≤ _; exact Nat.le_of_eq rfl) (hb hby at_133) (fun _ _ => ⟨rfl, e11, (by first | decide | exact Nat.le_of_ble_eq_true rfl), (by first | decide | exact Nat.le_of_ble_eq_true rfl)⟩)
  dsimp only [Pt.U, Pt.locs, Pt.cells, Pt.slots] at X12 l12 y12 z12 st12 hQ12
  obtain ⟨rfl, N12, e12⟩ := hQ12
  have X12 := own_sn X12 (k' := 4) (n' := 25) y12 z12
  have NF12 := own_fr l12 NF11 N12
  refine own_go (fun _ k => st12.trans k) ?_
  show own_Gl p.tables e below F (T12.setTop (mkF m 136 #[.val (.int p1), .val (.int p2), .val (.int p3), .val (.int p4), .val (.int p5), .val (.long q6), .second, .val (.int cn), .val (.int ix), .val (.int vl), .val (.ref b1), .val (.ref b4), .unset, .unset, .unset] [(.long (q6 + p4.toInt64))]))
  refine own_go (fun _ k => XS.lload X12.here hx rfl (hb hby at_136) rfl k) ?_
  show own_Gl p.tables e below F (T12.setTop (mkF m 138 #[.val (.int p1), .val (.int p2), .val (.int p3), .val (.int p4), .val (.int p5), .val (.long q6), .second, .val (.int cn), .val (.int ix), .val (.int vl), .val (.ref b1), .val (.ref b4), .unset, .unset, .unset] [(.long q6), (.long (q6 + p4.toInt64))]))
  refine own_go (fun _ k => XS.iloadN X12.here hx rfl (hb hby at_138) rfl k) ?_
  show own_Gl p.tables e below F (T12.setTop (mkF m 139 #[.val (.int p1), .val (.int p2), .val (.int p3), .val (.int p4), .val (.int p5), .val (.long q6), .second, .val (.int cn), .val (.int ix), .val (.int vl), .val (.ref b1), .val (.ref b4), .unset, .unset, .unset] [(.int p4), (.long q6), (.long (q6 + p4.toInt64))]))
  refine own_go (fun _ k => XS.i2l X12.here hx rfl (hb hby at_139) rfl k) ?_
  show own_Gl p.tables e below F (T12.setTop (mkF m 140 #[.val (.int p1), .val (.int p2), .val (.int p3), .val (.int p4), .val (.int p5), .val (.long q6), .second, .val (.int cn), .val (.int ix), .val (.int vl), .val (.ref b1), .val (.ref b4), .unset, .unset, .unset] [(.long (p4.toInt64)), (.long q6), (.long (q6 + p4.toInt64))]))
  refine own_go (fun _ k => XS.ladd X12.here hx rfl (hb hby at_140) rfl k) ?_
  show own_Gl p.tables e below F (T12.setTop (mkF m 141 #[.val (.int p1), .val (.int p2), .val (.int p3), .val (.int p4), .val (.int p5), .val (.long q6), .second, .val (.int cn), .val (.int ix), .val (.int vl), .val (.ref b1), .val (.ref b4), .unset, .unset, .unset] [(.long (q6 + (p4.toInt64))), (.long (q6 + p4.toInt64))]))
  refine own_go (fun _ k => XS.lcmp X12.here hx rfl (hb hby at_141) rfl k) ?_
  show own_Gl p.tables e below F (T12.setTop (mkF m 142 #[.val (.int p1), .val (.int p2), .val (.int p3), .val (.int p4), .val (.int p5), .val (.long q6), .second, .val (.int cn), .val (.int ix), .val (.int vl), .val (.ref b1), .val (.ref b4), .unset, .unset, .unset] [(.int (XT.cmpL (q6 + p4.toInt64) (q6 + (p4.toInt64))))]))
  refine own_go (fun _ k => XS.ifNo X12.here hx rfl (hb hby at_142) rfl (XT.ll_ne_f rfl) k) ?_
  show own_Gl p.tables e below F (T12.setTop (mkF m 145 #[.val (.int p1), .val (.int p2), .val (.int p3), .val (.int p4), .val (.int p5), .val (.long q6), .second, .val (.int cn), .val (.int ix), .val (.int vl), .val (.ref b1), .val (.ref b4), .unset, .unset, .unset] []))
  refine own_go (fun _ k => XS.aload X12.here hx rfl (hb hby at_145) rfl rfl k) ?_
  show own_Gl p.tables e below F (T12.setTop (mkF m 147 #[.val (.int p1), .val (.int p2), .val (.int p3), .val (.int p4), .val (.int p5), .val (.long q6), .second, .val (.int cn), .val (.int ix), .val (.int vl), .val (.ref b1), .val (.ref b4), .unset, .unset, .unset] [(.ref b4)]))
  refine own_go (fun _ k => XS.iload X12.here hx rfl (hb hby at_147) rfl k) ?_
  show own_Gl p.tables e below F (T12.setTop (mkF m 149 #[.val (.int p1), .val (.int p2), .val (.int p3), .val (.int p4), .val (.int p5), .val (.long q6), .second, .val (.int cn), .val (.int ix), .val (.int vl), .val (.ref b1), .val (.ref b4), .unset, .unset, .unset] [(.int ix), (.ref b4)]))
  obtain ⟨cq13, kq13, q13a, q13b, q13c⟩ := isOf hZ e12 G7_E
  obtain ⟨_, _, ⟨T13, L13, k13, n13⟩, -, X13, ⟨Lc13, hQ13, l13, y13, z13⟩, st13⟩ := X12.virtualBack hx (y := (⟨"com/example/palimpsest/palimpsest/storage/RecordWrites", "isDeletion", "(I)Z"⟩ : MethodName)) (z := (⟨"com/example/palimpsest/palimpsest/storage/RecordWrites", "isDeletion", "(I)Z"⟩ : MethodName)) hown (mvT hZ (hw _ (List.mem_of_getElem? (i := 52) rfl))) (mvT hZ (hw _ (List.mem_of_getElem? (i := 53) rfl))) (notFace_of_selects (args := #[]) (mvT hZ (hw _ (List.mem_of_getElem? (i := 55) rfl)))) (mvT hZ (hw _ (List.mem_of_getElem? (i := 55) rfl))) (mvT hZ (hw _ (List.mem_of_getElem? (i := 54) rfl))) (by decide) (backOf (W := 0) (rm10 l Z a0 hw [] b4 ix b1 cn (own_put (fun _ => (.int (0 : Int32))) ix p2 p3 p4 vl) vl T7.heap n0 Z7 G7_E G7_places f7_1 hi (own_put3 _ hi _ _ _ _)) hZ (hw _ (List.mem_of_getElem? (i := 56) rfl)) (hw _ (List.mem_of_getElem? (i := 2) rfl)) (by decide) (by decide)) q13a q13c (g := (mkF m 149 #[.val (.int p1), .val (.int p2), .val (.int p3), .val (.int p4), .val (.int p5), .val (.long q6), .second, .val (.int cn), .val (.int ix), .val (.int vl), .val (.ref b1), .val (.ref b4), .unset, .unset, .unset] [(.int ix), (.ref b4)])) rfl (by rw [hml]; rfl) (Steps.refl _) (argsL := [(.int ix)]) (rest := []) (lenOf pd_6 rfl) rfl (by show 2 * 0 + _ ≤ _; exact Nat.le_of_eq rfl) (hb hby at_149) (fun _ _ => ⟨rfl, e12, (by first | decide | exact Nat.le_of_ble_eq_true rfl), (by first | decide | exact Nat.le_of_ble_eq_true rfl)⟩)
  dsimp only [Pt.U, Pt.locs, Pt.cells, Pt.slots] at X13 l13 y13 z13 st13 hQ13
  obtain ⟨rfl, N13, e13⟩ := hQ13
  have X13 := own_sn X13 (k' := 4) (n' := 25) y13 z13
  have NF13 := own_fr l13 NF12 N13
  refine own_go (fun _ k => st13.trans k) ?_
  show own_Gl p.tables e below F (T13.setTop (mkF m 152 #[.val (.int p1), .val (.int p2), .val (.int p3), .val (.int p4), .val (.int p5), .val (.long q6), .second, .val (.int cn), .val (.int ix), .val (.int vl), .val (.ref b1), .val (.ref b4), .unset, .unset, .unset] [(.int (if vl = (-1 : Int32) then 1 else 0))]))
  refine own_go (fun _ k => XS.iload X13.here hx rfl (hb hby at_152) rfl k) ?_
  show own_Gl p.tables e below F (T13.setTop (mkF m 154 #[.val (.int p1), .val (.int p2), .val (.int p3), .val (.int p4), .val (.int p5), .val (.long q6), .second, .val (.int cn), .val (.int ix), .val (.int vl), .val (.ref b1), .val (.ref b4), .unset, .unset, .unset] [(.int vl), (.int (if vl = (-1 : Int32) then 1 else 0))]))
  refine own_go (fun _ k => XS.iconst X13.here hx rfl (hb hby at_154) k) ?_
  show own_Gl p.tables e below F (T13.setTop (mkF m 155 #[.val (.int p1), .val (.int p2), .val (.int p3), .val (.int p4), .val (.int p5), .val (.long q6), .second, .val (.int cn), .val (.int ix), .val (.int vl), .val (.ref b1), .val (.ref b4), .unset, .unset, .unset] [(.int (-1 : Int32)), (.int vl), (.int (if vl = (-1 : Int32) then 1 else 0))]))
  refine own_go (st' := T13.setTop (mkF m 163 #[.val (.int p1), .val (.int p2), .val (.int p3), .val (.int p4), .val (.int p5), .val (.long q6), .second, .val (.int cn), .val (.int ix), .val (.int vl), .val (.ref b1), .val (.ref b4), .unset, .unset, .unset] [(.int (if vl = (-1 : Int32) then (1 : Int32) else (0 : Int32))), (.int (if vl = (-1 : Int32) then 1 else 0))])) (fun t k => ?_) ?_
  · by_cases hc : vl = (-1 : Int32)
    · simp only [if_pos hc] at k
      refine XS.icmpNo X13.here hx rfl (hb hby at_155) rfl (XT.ii_ne_f hc) ?_
      show Steps p.tables e below (T13.setTop (mkF m 158 #[.val (.int p1), .val (.int p2), .val (.int p3), .val (.int p4), .val (.int p5), .val (.long q6), .second, .val (.int cn), .val (.int ix), .val (.int vl), .val (.ref b1), .val (.ref b4), .unset, .unset, .unset] [(.int (if vl = (-1 : Int32) then 1 else 0))])) _
      refine XS.iconst X13.here hx rfl (hb hby at_158) ?_
      show Steps p.tables e below (T13.setTop (mkF m 159 #[.val (.int p1), .val (.int p2), .val (.int p3), .val (.int p4), .val (.int p5), .val (.long q6), .second, .val (.int cn), .val (.int ix), .val (.int vl), .val (.ref b1), .val (.ref b4), .unset, .unset, .unset] [(.int (1 : Int32)), (.int (if vl = (-1 : Int32) then 1 else 0))])) _
      refine XS.goto X13.here hx rfl (pc0 := 159) (pc' := 163) rfl (hb hby at_159) (by decide) (by decide) ?_
      show Steps p.tables e below (T13.setTop (mkF m 163 #[.val (.int p1), .val (.int p2), .val (.int p3), .val (.int p4), .val (.int p5), .val (.long q6), .second, .val (.int cn), .val (.int ix), .val (.int vl), .val (.ref b1), .val (.ref b4), .unset, .unset, .unset] [(.int (1 : Int32)), (.int (if vl = (-1 : Int32) then 1 else 0))])) _
      first | exact k | (simp only [if_pos hc]; exact k)
    · simp only [if_neg hc] at k
      refine XS.icmpYes X13.here hx rfl (pc0 := 155) (pc' := 162) rfl (hb hby at_155) rfl (XT.ii_ne_t hc) (by decide) (by decide) ?_
      show Steps p.tables e below (T13.setTop (mkF m 162 #[.val (.int p1), .val (.int p2), .val (.int p3), .val (.int p4), .val (.int p5), .val (.long q6), .second, .val (.int cn), .val (.int ix), .val (.int vl), .val (.ref b1), .val (.ref b4), .unset, .unset, .unset] [(.int (if vl = (-1 : Int32) then 1 else 0))])) _
      refine XS.iconst X13.here hx rfl (hb hby at_162) ?_
      show Steps p.tables e below (T13.setTop (mkF m 163 #[.val (.int p1), .val (.int p2), .val (.int p3), .val (.int p4), .val (.int p5), .val (.long q6), .second, .val (.int cn), .val (.int ix), .val (.int vl), .val (.ref b1), .val (.ref b4), .unset, .unset, .unset] [(.int (0 : Int32)), (.int (if vl = (-1 : Int32) then 1 else 0))])) _
      first | exact k | (simp only [if_neg hc]; exact k)
  show own_Gl p.tables e below F (T13.setTop (mkF m 163 #[.val (.int p1), .val (.int p2), .val (.int p3), .val (.int p4), .val (.int p5), .val (.long q6), .second, .val (.int cn), .val (.int ix), .val (.int vl), .val (.ref b1), .val (.ref b4), .unset, .unset, .unset] [(.int (if vl = (-1 : Int32) then (1 : Int32) else (0 : Int32))), (.int (if vl = (-1 : Int32) then 1 else 0))]))
  refine own_go (fun _ k => XS.icmpNo X13.here hx rfl (hb hby at_163) rfl (XT.ii_ne_f rfl) k) ?_
  show own_Gl p.tables e below F (T13.setTop (mkF m 166 #[.val (.int p1), .val (.int p2), .val (.int p3), .val (.int p4), .val (.int p5), .val (.long q6), .second, .val (.int cn), .val (.int ix), .val (.int vl), .val (.ref b1), .val (.ref b4), .unset, .unset, .unset] []))
  refine own_go (fun _ k => XS.iconst X13.here hx rfl (hb hby at_166) k) ?_
  show own_Gl p.tables e below F (T13.setTop (mkF m 167 #[.val (.int p1), .val (.int p2), .val (.int p3), .val (.int p4), .val (.int p5), .val (.long q6), .second, .val (.int cn), .val (.int ix), .val (.int vl), .val (.ref b1), .val (.ref b4), .unset, .unset, .unset] [(.int (1 : Int32))]))
  refine own_go (fun _ k => XS.goto X13.here hx rfl (pc0 := 167) (pc' := 171) rfl (hb hby at_167) (by decide) (by decide) k) ?_
  show own_Gl p.tables e below F (T13.setTop (mkF m 171 #[.val (.int p1), .val (.int p2), .val (.int p3), .val (.int p4), .val (.int p5), .val (.long q6), .second, .val (.int cn), .val (.int ix), .val (.int vl), .val (.ref b1), .val (.ref b4), .unset, .unset, .unset] [(.int (1 : Int32))]))
  refine own_go (fun _ k => XS.istore X13.here hx rfl (hb hby at_171) rfl (l' := #[.val (.int p1), .val (.int p2), .val (.int p3), .val (.int p4), .val (.int p5), .val (.long q6), .second, .val (.int cn), .val (.int ix), .val (.int vl), .val (.ref b1), .val (.ref b4), .val (.int (1 : Int32)), .unset, .unset]) rfl k) ?_
  show own_Gl p.tables e below F (T13.setTop (mkF m 173 #[.val (.int p1), .val (.int p2), .val (.int p3), .val (.int p4), .val (.int p5), .val (.long q6), .second, .val (.int cn), .val (.int ix), .val (.int vl), .val (.ref b1), .val (.ref b4), .val (.int (1 : Int32)), .unset, .unset] []))
  refine own_go (fun _ k => XS.iconst X13.here hx rfl (hb hby at_173) k) ?_
  show own_Gl p.tables e below F (T13.setTop (mkF m 174 #[.val (.int p1), .val (.int p2), .val (.int p3), .val (.int p4), .val (.int p5), .val (.long q6), .second, .val (.int cn), .val (.int ix), .val (.int vl), .val (.ref b1), .val (.ref b4), .val (.int (1 : Int32)), .unset, .unset] [(.int (4 : Int32))]))
  refine own_go (fun _ k => XS.iload X13.here hx rfl (hb hby at_174) rfl k) ?_
  show own_Gl p.tables e below F (T13.setTop (mkF m 176 #[.val (.int p1), .val (.int p2), .val (.int p3), .val (.int p4), .val (.int p5), .val (.long q6), .second, .val (.int cn), .val (.int ix), .val (.int vl), .val (.ref b1), .val (.ref b4), .val (.int (1 : Int32)), .unset, .unset] [(.int ix), (.int (4 : Int32))]))
  refine own_go (fun _ k => XS.imul X13.here hx rfl (hb hby at_176) rfl k) ?_
  show own_Gl p.tables e below F (T13.setTop (mkF m 177 #[.val (.int p1), .val (.int p2), .val (.int p3), .val (.int p4), .val (.int p5), .val (.long q6), .second, .val (.int cn), .val (.int ix), .val (.int vl), .val (.ref b1), .val (.ref b4), .val (.int (1 : Int32)), .unset, .unset] [(.int ((4 : Int32) * ix))]))
  refine own_go (fun _ k => XS.istore X13.here hx rfl (hb hby at_177) rfl (l' := #[.val (.int p1), .val (.int p2), .val (.int p3), .val (.int p4), .val (.int p5), .val (.long q6), .second, .val (.int cn), .val (.int ix), .val (.int vl), .val (.ref b1), .val (.ref b4), .val (.int (1 : Int32)), .val (.int ((4 : Int32) * ix)), .unset]) rfl k) ?_
  show own_Gl p.tables e below F (T13.setTop (mkF m 179 #[.val (.int p1), .val (.int p2), .val (.int p3), .val (.int p4), .val (.int p5), .val (.long q6), .second, .val (.int cn), .val (.int ix), .val (.int vl), .val (.ref b1), .val (.ref b4), .val (.int (1 : Int32)), .val (.int ((4 : Int32) * ix)), .unset] []))
  refine own_go (fun _ k => XS.iload X13.here hx rfl (hb hby at_179) rfl k) ?_
  show own_Gl p.tables e below F (T13.setTop (mkF m 181 #[.val (.int p1), .val (.int p2), .val (.int p3), .val (.int p4), .val (.int p5), .val (.long q6), .second, .val (.int cn), .val (.int ix), .val (.int vl), .val (.ref b1), .val (.ref b4), .val (.int (1 : Int32)), .val (.int ((4 : Int32) * ix)), .unset] [(.int ((4 : Int32) * ix))]))
  refine own_go (fun _ k => XS.iconst X13.here hx rfl (hb hby at_181) k) ?_
  show own_Gl p.tables e below F (T13.setTop (mkF m 182 #[.val (.int p1), .val (.int p2), .val (.int p3), .val (.int p4), .val (.int p5), .val (.long q6), .second, .val (.int cn), .val (.int ix), .val (.int vl), .val (.ref b1), .val (.ref b4), .val (.int (1 : Int32)), .val (.int ((4 : Int32) * ix)), .unset] [(.int (4 : Int32)), (.int ((4 : Int32) * ix))]))
  refine own_go (fun _ k => XS.iadd X13.here hx rfl (hb hby at_182) rfl k) ?_
  show own_Gl p.tables e below F (T13.setTop (mkF m 183 #[.val (.int p1), .val (.int p2), .val (.int p3), .val (.int p4), .val (.int p5), .val (.long q6), .second, .val (.int cn), .val (.int ix), .val (.int vl), .val (.ref b1), .val (.ref b4), .val (.int (1 : Int32)), .val (.int ((4 : Int32) * ix)), .unset] [(.int (((4 : Int32) * ix) + (4 : Int32)))]))
  refine own_go (fun _ k => XS.istore X13.here hx rfl (hb hby at_183) rfl (l' := #[.val (.int p1), .val (.int p2), .val (.int p3), .val (.int p4), .val (.int p5), .val (.long q6), .second, .val (.int cn), .val (.int ix), .val (.int vl), .val (.ref b1), .val (.ref b4), .val (.int (1 : Int32)), .val (.int ((4 : Int32) * ix)), .val (.int (((4 : Int32) * ix) + (4 : Int32)))]) rfl k) ?_
  show own_Gl p.tables e below F (T13.setTop (mkF m 185 #[.val (.int p1), .val (.int p2), .val (.int p3), .val (.int p4), .val (.int p5), .val (.long q6), .second, .val (.int cn), .val (.int ix), .val (.int vl), .val (.ref b1), .val (.ref b4), .val (.int (1 : Int32)), .val (.int ((4 : Int32) * ix)), .val (.int (((4 : Int32) * ix) + (4 : Int32)))] []))
  refine own_go (fun _ k => XS.iload X13.here hx rfl (hb hby at_185) rfl k) ?_
  show own_Gl p.tables e below F (T13.setTop (mkF m 187 #[.val (.int p1), .val (.int p2), .val (.int p3), .val (.int p4), .val (.int p5), .val (.long q6), .second, .val (.int cn), .val (.int ix), .val (.int vl), .val (.ref b1), .val (.ref b4), .val (.int (1 : Int32)), .val (.int ((4 : Int32) * ix)), .val (.int (((4 : Int32) * ix) + (4 : Int32)))] [(.int (1 : Int32))]))
  refine own_go (fun _ k => XS.ifNo X13.here hx rfl (hb hby at_187) rfl (XT.i0_eq_f (by decide)) k) ?_
  show own_Gl p.tables e below F (T13.setTop (mkF m 190 #[.val (.int p1), .val (.int p2), .val (.int p3), .val (.int p4), .val (.int p5), .val (.long q6), .second, .val (.int cn), .val (.int ix), .val (.int vl), .val (.ref b1), .val (.ref b4), .val (.int (1 : Int32)), .val (.int ((4 : Int32) * ix)), .val (.int (((4 : Int32) * ix) + (4 : Int32)))] []))
  refine own_go (fun _ k => XS.aload X13.here hx rfl (hb hby at_190) rfl rfl k) ?_
  show own_Gl p.tables e below F (T13.setTop (mkF m 192 #[.val (.int p1), .val (.int p2), .val (.int p3), .val (.int p4), .val (.int p5), .val (.long q6), .second, .val (.int cn), .val (.int ix), .val (.int vl), .val (.ref b1), .val (.ref b4), .val (.int (1 : Int32)), .val (.int ((4 : Int32) * ix)), .val (.int (((4 : Int32) * ix) + (4 : Int32)))] [(.ref b1)]))
  refine own_go (fun _ k => XS.iconst X13.here hx rfl (hb hby at_192) k) ?_
  show own_Gl p.tables e below F (T13.setTop (mkF m 193 #[.val (.int p1), .val (.int p2), .val (.int p3), .val (.int p4), .val (.int p5), .val (.long q6), .second, .val (.int cn), .val (.int ix), .val (.int vl), .val (.ref b1), .val (.ref b4), .val (.int (1 : Int32)), .val (.int ((4 : Int32) * ix)), .val (.int (((4 : Int32) * ix) + (4 : Int32)))] [(.int (0 : Int32)), (.ref b1)]))
  refine own_go (fun _ k => XS.iload X13.here hx rfl (hb hby at_193) rfl k) ?_
  show own_Gl p.tables e below F (T13.setTop (mkF m 195 #[.val (.int p1), .val (.int p2), .val (.int p3), .val (.int p4), .val (.int p5), .val (.long q6), .second, .val (.int cn), .val (.int ix), .val (.int vl), .val (.ref b1), .val (.ref b4), .val (.int (1 : Int32)), .val (.int ((4 : Int32) * ix)), .val (.int (((4 : Int32) * ix) + (4 : Int32)))] [(.int ((4 : Int32) * ix)), (.int (0 : Int32)), (.ref b1)]))
  refine own_go (fun _ k => XS.iload X13.here hx rfl (hb hby at_195) rfl k) ?_
  show own_Gl p.tables e below F (T13.setTop (mkF m 197 #[.val (.int p1), .val (.int p2), .val (.int p3), .val (.int p4), .val (.int p5), .val (.long q6), .second, .val (.int cn), .val (.int ix), .val (.int vl), .val (.ref b1), .val (.ref b4), .val (.int (1 : Int32)), .val (.int ((4 : Int32) * ix)), .val (.int (((4 : Int32) * ix) + (4 : Int32)))] [(.int (((4 : Int32) * ix) + (4 : Int32))), (.int ((4 : Int32) * ix)), (.int (0 : Int32)), (.ref b1)]))
  have hU := own_putU hi p2 p3 p4 vl
  obtain ⟨_, _, ⟨T14, L14, k14, n14⟩, -, X14, ⟨Lc14, hQ14, l14, y14, z14⟩, st14⟩ := Jvm.LawKit.callS X13 hx (y := (⟨"com/example/palimpsest/palimpsest/storage/RecordWritesPlacePinLaw", "untouched", "([IIII)Z"⟩ : MethodName)) hown (mvT hZ (hw _ (List.mem_of_getElem? (i := 58) rfl))) (mvT hZ (hw _ (List.mem_of_getElem? (i := 59) rfl))) (mvT hZ (hw _ (List.mem_of_getElem? (i := 60) rfl))) (mvT hZ (hw _ (List.mem_of_getElem? (i := 61) rfl))) (by decide) (backOf (W := 0) (rm11 l Z a0 hw [] b1 (0 : Int32) ((4 : Int32) * ix) (((4 : Int32) * ix) + (4 : Int32)) ((4 : Int32) * cn) (own_put (fun _ => (.int (0 : Int32))) ix p2 p3 p4 vl) T7.heap n0 Z7 f7_1 (by decide) hU) hZ (hw _ (List.mem_of_getElem? (i := 61) rfl)) (hw _ (List.mem_of_getElem? (i := 60) rfl)) (by decide) (by decide)) (g := (mkF m 197 #[.val (.int p1), .val (.int p2), .val (.int p3), .val (.int p4), .val (.int p5), .val (.long q6), .second, .val (.int cn), .val (.int ix), .val (.int vl), .val (.ref b1), .val (.ref b4), .val (.int (1 : Int32)), .val (.int ((4 : Int32) * ix)), .val (.int (((4 : Int32) * ix) + (4 : Int32)))] [(.int (((4 : Int32) * ix) + (4 : Int32))), (.int ((4 : Int32) * ix)), (.int (0 : Int32)), (.ref b1)])) rfl (by rw [hml]; rfl) (argsL := [(.ref b1), (.int (0 : Int32)), (.int ((4 : Int32) * ix)), (.int (((4 : Int32) * ix) + (4 : Int32)))]) (rest := []) (lenOf pd_7 rfl) rfl (by show 2 * 0 + _ ≤ _; exact Nat.le_of_eq rfl) (hb hby at_197) (fun _ _ => ⟨rfl, e13, (by first | decide | exact Nat.le_of_ble_eq_true rfl), (by first | decide | exact Nat.le_of_ble_eq_true rfl)⟩)
  dsimp only [Pt.U, Pt.locs, Pt.cells, Pt.slots] at X14 l14 y14 z14 st14 hQ14
  obtain ⟨rfl, N14, e14⟩ := hQ14
  have X14 := own_sn X14 (k' := 4) (n' := 25) y14 z14
  have NF14 := own_fr l14 NF13 N14
  refine own_go st14 ?_
  show own_Gl p.tables e below F (T14.setTop (mkF m 200 #[.val (.int p1), .val (.int p2), .val (.int p3), .val (.int p4), .val (.int p5), .val (.long q6), .second, .val (.int cn), .val (.int ix), .val (.int vl), .val (.ref b1), .val (.ref b4), .val (.int (1 : Int32)), .val (.int ((4 : Int32) * ix)), .val (.int (((4 : Int32) * ix) + (4 : Int32)))] [(.int (1 : Int32))]))
  refine own_go (fun _ k => XS.ifNo X14.here hx rfl (hb hby at_200) rfl (XT.i0_eq_f (by decide)) k) ?_
  show own_Gl p.tables e below F (T14.setTop (mkF m 203 #[.val (.int p1), .val (.int p2), .val (.int p3), .val (.int p4), .val (.int p5), .val (.long q6), .second, .val (.int cn), .val (.int ix), .val (.int vl), .val (.ref b1), .val (.ref b4), .val (.int (1 : Int32)), .val (.int ((4 : Int32) * ix)), .val (.int (((4 : Int32) * ix) + (4 : Int32)))] []))
  refine own_go (fun _ k => XS.aload X14.here hx rfl (hb hby at_203) rfl rfl k) ?_
  show own_Gl p.tables e below F (T14.setTop (mkF m 205 #[.val (.int p1), .val (.int p2), .val (.int p3), .val (.int p4), .val (.int p5), .val (.long q6), .second, .val (.int cn), .val (.int ix), .val (.int vl), .val (.ref b1), .val (.ref b4), .val (.int (1 : Int32)), .val (.int ((4 : Int32) * ix)), .val (.int (((4 : Int32) * ix) + (4 : Int32)))] [(.ref b1)]))
  refine own_go (fun _ k => XS.iconst X14.here hx rfl (hb hby at_205) k) ?_
  show own_Gl p.tables e below F (T14.setTop (mkF m 206 #[.val (.int p1), .val (.int p2), .val (.int p3), .val (.int p4), .val (.int p5), .val (.long q6), .second, .val (.int cn), .val (.int ix), .val (.int vl), .val (.ref b1), .val (.ref b4), .val (.int (1 : Int32)), .val (.int ((4 : Int32) * ix)), .val (.int (((4 : Int32) * ix) + (4 : Int32)))] [(.int (1 : Int32)), (.ref b1)]))
  refine own_go (fun _ k => XS.iload X14.here hx rfl (hb hby at_206) rfl k) ?_
  show own_Gl p.tables e below F (T14.setTop (mkF m 208 #[.val (.int p1), .val (.int p2), .val (.int p3), .val (.int p4), .val (.int p5), .val (.long q6), .second, .val (.int cn), .val (.int ix), .val (.int vl), .val (.ref b1), .val (.ref b4), .val (.int (1 : Int32)), .val (.int ((4 : Int32) * ix)), .val (.int (((4 : Int32) * ix) + (4 : Int32)))] [(.int ((4 : Int32) * ix)), (.int (1 : Int32)), (.ref b1)]))
  refine own_go (fun _ k => XS.iload X14.here hx rfl (hb hby at_208) rfl k) ?_
  show own_Gl p.tables e below F (T14.setTop (mkF m 210 #[.val (.int p1), .val (.int p2), .val (.int p3), .val (.int p4), .val (.int p5), .val (.long q6), .second, .val (.int cn), .val (.int ix), .val (.int vl), .val (.ref b1), .val (.ref b4), .val (.int (1 : Int32)), .val (.int ((4 : Int32) * ix)), .val (.int (((4 : Int32) * ix) + (4 : Int32)))] [(.int (((4 : Int32) * ix) + (4 : Int32))), (.int ((4 : Int32) * ix)), (.int (1 : Int32)), (.ref b1)]))
  obtain ⟨_, _, ⟨T15, L15, k15, n15⟩, -, X15, ⟨Lc15, hQ15, l15, y15, z15⟩, st15⟩ := Jvm.LawKit.callS X14 hx (y := (⟨"com/example/palimpsest/palimpsest/storage/RecordWritesPlacePinLaw", "untouched", "([IIII)Z"⟩ : MethodName)) hown (mvT hZ (hw _ (List.mem_of_getElem? (i := 58) rfl))) (mvT hZ (hw _ (List.mem_of_getElem? (i := 59) rfl))) (mvT hZ (hw _ (List.mem_of_getElem? (i := 60) rfl))) (mvT hZ (hw _ (List.mem_of_getElem? (i := 61) rfl))) (by decide) (backOf (W := 0) (rm11 l Z a0 hw [] b1 (1 : Int32) ((4 : Int32) * ix) (((4 : Int32) * ix) + (4 : Int32)) ((4 : Int32) * cn) (own_put (fun _ => (.int (0 : Int32))) ix p2 p3 p4 vl) T7.heap n0 Z7 f7_1 (by decide) hU) hZ (hw _ (List.mem_of_getElem? (i := 61) rfl)) (hw _ (List.mem_of_getElem? (i := 60) rfl)) (by decide) (by decide)) (g := (mkF m 210 #[.val (.int p1), .val (.int p2), .val (.int p3), .val (.int p4), .val (.int p5), .val (.long q6), .second, .val (.int cn), .val (.int ix), .val (.int vl), .val (.ref b1), .val (.ref b4), .val (.int (1 : Int32)), .val (.int ((4 : Int32) * ix)), .val (.int (((4 : Int32) * ix) + (4 : Int32)))] [(.int (((4 : Int32) * ix) + (4 : Int32))), (.int ((4 : Int32) * ix)), (.int (1 : Int32)), (.ref b1)])) rfl (by rw [hml]; rfl) (argsL := [(.ref b1), (.int (1 : Int32)), (.int ((4 : Int32) * ix)), (.int (((4 : Int32) * ix) + (4 : Int32)))]) (rest := []) (lenOf pd_7 rfl) rfl (by show 2 * 0 + _ ≤ _; exact Nat.le_of_eq rfl) (hb hby at_210) (fun _ _ => ⟨rfl, e14, (by first | decide | exact Nat.le_of_ble_eq_true rfl), (by first | decide | exact Nat.le_of_ble_eq_true rfl)⟩)
  dsimp only [Pt.U, Pt.locs, Pt.cells, Pt.slots] at X15 l15 y15 z15 st15 hQ15
  obtain ⟨rfl, N15, e15⟩ := hQ15
  have X15 := own_sn X15 (k' := 4) (n' := 25) y15 z15
  have NF15 := own_fr l15 NF14 N15
  refine own_go st15 ?_
  show own_Gl p.tables e below F (T15.setTop (mkF m 213 #[.val (.int p1), .val (.int p2), .val (.int p3), .val (.int p4), .val (.int p5), .val (.long q6), .second, .val (.int cn), .val (.int ix), .val (.int vl), .val (.ref b1), .val (.ref b4), .val (.int (1 : Int32)), .val (.int ((4 : Int32) * ix)), .val (.int (((4 : Int32) * ix) + (4 : Int32)))] [(.int (1 : Int32))]))
  refine own_go (fun _ k => XS.ifNo X15.here hx rfl (hb hby at_213) rfl (XT.i0_eq_f (by decide)) k) ?_
  show own_Gl p.tables e below F (T15.setTop (mkF m 216 #[.val (.int p1), .val (.int p2), .val (.int p3), .val (.int p4), .val (.int p5), .val (.long q6), .second, .val (.int cn), .val (.int ix), .val (.int vl), .val (.ref b1), .val (.ref b4), .val (.int (1 : Int32)), .val (.int ((4 : Int32) * ix)), .val (.int (((4 : Int32) * ix) + (4 : Int32)))] []))
  refine own_go (fun _ k => XS.aload X15.here hx rfl (hb hby at_216) rfl rfl k) ?_
  show own_Gl p.tables e below F (T15.setTop (mkF m 218 #[.val (.int p1), .val (.int p2), .val (.int p3), .val (.int p4), .val (.int p5), .val (.long q6), .second, .val (.int cn), .val (.int ix), .val (.int vl), .val (.ref b1), .val (.ref b4), .val (.int (1 : Int32)), .val (.int ((4 : Int32) * ix)), .val (.int (((4 : Int32) * ix) + (4 : Int32)))] [(.ref b1)]))
  refine own_go (fun _ k => XS.iconst X15.here hx rfl (hb hby at_218) k) ?_
  show own_Gl p.tables e below F (T15.setTop (mkF m 219 #[.val (.int p1), .val (.int p2), .val (.int p3), .val (.int p4), .val (.int p5), .val (.long q6), .second, .val (.int cn), .val (.int ix), .val (.int vl), .val (.ref b1), .val (.ref b4), .val (.int (1 : Int32)), .val (.int ((4 : Int32) * ix)), .val (.int (((4 : Int32) * ix) + (4 : Int32)))] [(.int (2 : Int32)), (.ref b1)]))
  refine own_go (fun _ k => XS.iload X15.here hx rfl (hb hby at_219) rfl k) ?_
  show own_Gl p.tables e below F (T15.setTop (mkF m 221 #[.val (.int p1), .val (.int p2), .val (.int p3), .val (.int p4), .val (.int p5), .val (.long q6), .second, .val (.int cn), .val (.int ix), .val (.int vl), .val (.ref b1), .val (.ref b4), .val (.int (1 : Int32)), .val (.int ((4 : Int32) * ix)), .val (.int (((4 : Int32) * ix) + (4 : Int32)))] [(.int ((4 : Int32) * ix)), (.int (2 : Int32)), (.ref b1)]))
  refine own_go (fun _ k => XS.iload X15.here hx rfl (hb hby at_221) rfl k) ?_
  show own_Gl p.tables e below F (T15.setTop (mkF m 223 #[.val (.int p1), .val (.int p2), .val (.int p3), .val (.int p4), .val (.int p5), .val (.long q6), .second, .val (.int cn), .val (.int ix), .val (.int vl), .val (.ref b1), .val (.ref b4), .val (.int (1 : Int32)), .val (.int ((4 : Int32) * ix)), .val (.int (((4 : Int32) * ix) + (4 : Int32)))] [(.int (((4 : Int32) * ix) + (4 : Int32))), (.int ((4 : Int32) * ix)), (.int (2 : Int32)), (.ref b1)]))
  obtain ⟨_, _, ⟨T16, L16, k16, n16⟩, -, X16, ⟨Lc16, hQ16, l16, y16, z16⟩, st16⟩ := Jvm.LawKit.callS X15 hx (y := (⟨"com/example/palimpsest/palimpsest/storage/RecordWritesPlacePinLaw", "untouched", "([IIII)Z"⟩ : MethodName)) hown (mvT hZ (hw _ (List.mem_of_getElem? (i := 58) rfl))) (mvT hZ (hw _ (List.mem_of_getElem? (i := 59) rfl))) (mvT hZ (hw _ (List.mem_of_getElem? (i := 60) rfl))) (mvT hZ (hw _ (List.mem_of_getElem? (i := 61) rfl))) (by decide) (backOf (W := 0) (rm11 l Z a0 hw [] b1 (2 : Int32) ((4 : Int32) * ix) (((4 : Int32) * ix) + (4 : Int32)) ((4 : Int32) * cn) (own_put (fun _ => (.int (0 : Int32))) ix p2 p3 p4 vl) T7.heap n0 Z7 f7_1 (by decide) hU) hZ (hw _ (List.mem_of_getElem? (i := 61) rfl)) (hw _ (List.mem_of_getElem? (i := 60) rfl)) (by decide) (by decide)) (g := (mkF m 223 #[.val (.int p1), .val (.int p2), .val (.int p3), .val (.int p4), .val (.int p5), .val (.long q6), .second, .val (.int cn), .val (.int ix), .val (.int vl), .val (.ref b1), .val (.ref b4), .val (.int (1 : Int32)), .val (.int ((4 : Int32) * ix)), .val (.int (((4 : Int32) * ix) + (4 : Int32)))] [(.int (((4 : Int32) * ix) + (4 : Int32))), (.int ((4 : Int32) * ix)), (.int (2 : Int32)), (.ref b1)])) rfl (by rw [hml]; rfl) (argsL := [(.ref b1), (.int (2 : Int32)), (.int ((4 : Int32) * ix)), (.int (((4 : Int32) * ix) + (4 : Int32)))]) (rest := []) (lenOf pd_7 rfl) rfl (by show 2 * 0 + _ ≤ _; exact Nat.le_of_eq rfl) (hb hby at_223) (fun _ _ => ⟨rfl, e15, (by first | decide | exact Nat.le_of_ble_eq_true rfl), (by first | decide | exact Nat.le_of_ble_eq_true rfl)⟩)
  dsimp only [Pt.U, Pt.locs, Pt.cells, Pt.slots] at X16 l16 y16 z16 st16 hQ16
  obtain ⟨rfl, N16, e16⟩ := hQ16
  have X16 := own_sn X16 (k' := 4) (n' := 25) y16 z16
  have NF16 := own_fr l16 NF15 N16
  refine own_go st16 ?_
  show own_Gl p.tables e below F (T16.setTop (mkF m 226 #[.val (.int p1), .val (.int p2), .val (.int p3), .val (.int p4), .val (.int p5), .val (.long q6), .second, .val (.int cn), .val (.int ix), .val (.int vl), .val (.ref b1), .val (.ref b4), .val (.int (1 : Int32)), .val (.int ((4 : Int32) * ix)), .val (.int (((4 : Int32) * ix) + (4 : Int32)))] [(.int (1 : Int32))]))
  refine own_go (fun _ k => XS.ifNo X16.here hx rfl (hb hby at_226) rfl (XT.i0_eq_f (by decide)) k) ?_
  show own_Gl p.tables e below F (T16.setTop (mkF m 229 #[.val (.int p1), .val (.int p2), .val (.int p3), .val (.int p4), .val (.int p5), .val (.long q6), .second, .val (.int cn), .val (.int ix), .val (.int vl), .val (.ref b1), .val (.ref b4), .val (.int (1 : Int32)), .val (.int ((4 : Int32) * ix)), .val (.int (((4 : Int32) * ix) + (4 : Int32)))] []))
  refine own_go (fun _ k => XS.aload X16.here hx rfl (hb hby at_229) rfl rfl k) ?_
  show own_Gl p.tables e below F (T16.setTop (mkF m 231 #[.val (.int p1), .val (.int p2), .val (.int p3), .val (.int p4), .val (.int p5), .val (.long q6), .second, .val (.int cn), .val (.int ix), .val (.int vl), .val (.ref b1), .val (.ref b4), .val (.int (1 : Int32)), .val (.int ((4 : Int32) * ix)), .val (.int (((4 : Int32) * ix) + (4 : Int32)))] [(.ref b1)]))
  refine own_go (fun _ k => XS.iconst X16.here hx rfl (hb hby at_231) k) ?_
  show own_Gl p.tables e below F (T16.setTop (mkF m 232 #[.val (.int p1), .val (.int p2), .val (.int p3), .val (.int p4), .val (.int p5), .val (.long q6), .second, .val (.int cn), .val (.int ix), .val (.int vl), .val (.ref b1), .val (.ref b4), .val (.int (1 : Int32)), .val (.int ((4 : Int32) * ix)), .val (.int (((4 : Int32) * ix) + (4 : Int32)))] [(.int (3 : Int32)), (.ref b1)]))
  refine own_go (fun _ k => XS.iload X16.here hx rfl (hb hby at_232) rfl k) ?_
  show own_Gl p.tables e below F (T16.setTop (mkF m 234 #[.val (.int p1), .val (.int p2), .val (.int p3), .val (.int p4), .val (.int p5), .val (.long q6), .second, .val (.int cn), .val (.int ix), .val (.int vl), .val (.ref b1), .val (.ref b4), .val (.int (1 : Int32)), .val (.int ((4 : Int32) * ix)), .val (.int (((4 : Int32) * ix) + (4 : Int32)))] [(.int ((4 : Int32) * ix)), (.int (3 : Int32)), (.ref b1)]))
  refine own_go (fun _ k => XS.iload X16.here hx rfl (hb hby at_234) rfl k) ?_
  show own_Gl p.tables e below F (T16.setTop (mkF m 236 #[.val (.int p1), .val (.int p2), .val (.int p3), .val (.int p4), .val (.int p5), .val (.long q6), .second, .val (.int cn), .val (.int ix), .val (.int vl), .val (.ref b1), .val (.ref b4), .val (.int (1 : Int32)), .val (.int ((4 : Int32) * ix)), .val (.int (((4 : Int32) * ix) + (4 : Int32)))] [(.int (((4 : Int32) * ix) + (4 : Int32))), (.int ((4 : Int32) * ix)), (.int (3 : Int32)), (.ref b1)]))
  obtain ⟨_, _, ⟨T17, L17, k17, n17⟩, -, X17, ⟨Lc17, hQ17, l17, y17, z17⟩, st17⟩ := Jvm.LawKit.callS X16 hx (y := (⟨"com/example/palimpsest/palimpsest/storage/RecordWritesPlacePinLaw", "untouched", "([IIII)Z"⟩ : MethodName)) hown (mvT hZ (hw _ (List.mem_of_getElem? (i := 58) rfl))) (mvT hZ (hw _ (List.mem_of_getElem? (i := 59) rfl))) (mvT hZ (hw _ (List.mem_of_getElem? (i := 60) rfl))) (mvT hZ (hw _ (List.mem_of_getElem? (i := 61) rfl))) (by decide) (backOf (W := 0) (rm11 l Z a0 hw [] b1 (3 : Int32) ((4 : Int32) * ix) (((4 : Int32) * ix) + (4 : Int32)) ((4 : Int32) * cn) (own_put (fun _ => (.int (0 : Int32))) ix p2 p3 p4 vl) T7.heap n0 Z7 f7_1 (by decide) hU) hZ (hw _ (List.mem_of_getElem? (i := 61) rfl)) (hw _ (List.mem_of_getElem? (i := 60) rfl)) (by decide) (by decide)) (g := (mkF m 236 #[.val (.int p1), .val (.int p2), .val (.int p3), .val (.int p4), .val (.int p5), .val (.long q6), .second, .val (.int cn), .val (.int ix), .val (.int vl), .val (.ref b1), .val (.ref b4), .val (.int (1 : Int32)), .val (.int ((4 : Int32) * ix)), .val (.int (((4 : Int32) * ix) + (4 : Int32)))] [(.int (((4 : Int32) * ix) + (4 : Int32))), (.int ((4 : Int32) * ix)), (.int (3 : Int32)), (.ref b1)])) rfl (by rw [hml]; rfl) (argsL := [(.ref b1), (.int (3 : Int32)), (.int ((4 : Int32) * ix)), (.int (((4 : Int32) * ix) + (4 : Int32)))]) (rest := []) (lenOf pd_7 rfl) rfl (by show 2 * 0 + _ ≤ _; exact Nat.le_of_eq rfl) (hb hby at_236) (fun _ _ => ⟨rfl, e16, (by first | decide | exact Nat.le_of_ble_eq_true rfl), (by first | decide | exact Nat.le_of_ble_eq_true rfl)⟩)
  dsimp only [Pt.U, Pt.locs, Pt.cells, Pt.slots] at X17 l17 y17 z17 st17 hQ17
  obtain ⟨rfl, N17, e17⟩ := hQ17
  have X17 := own_sn X17 (k' := 4) (n' := 25) y17 z17
  have NF17 := own_fr l17 NF16 N17
  refine own_go st17 ?_
  show own_Gl p.tables e below F (T17.setTop (mkF m 239 #[.val (.int p1), .val (.int p2), .val (.int p3), .val (.int p4), .val (.int p5), .val (.long q6), .second, .val (.int cn), .val (.int ix), .val (.int vl), .val (.ref b1), .val (.ref b4), .val (.int (1 : Int32)), .val (.int ((4 : Int32) * ix)), .val (.int (((4 : Int32) * ix) + (4 : Int32)))] [(.int (1 : Int32))]))
  refine own_go (fun _ k => XS.ifNo X17.here hx rfl (hb hby at_239) rfl (XT.i0_eq_f (by decide)) k) ?_
  show own_Gl p.tables e below F (T17.setTop (mkF m 242 #[.val (.int p1), .val (.int p2), .val (.int p3), .val (.int p4), .val (.int p5), .val (.long q6), .second, .val (.int cn), .val (.int ix), .val (.int vl), .val (.ref b1), .val (.ref b4), .val (.int (1 : Int32)), .val (.int ((4 : Int32) * ix)), .val (.int (((4 : Int32) * ix) + (4 : Int32)))] []))
  refine own_go (fun _ k => XS.aload X17.here hx rfl (hb hby at_242) rfl rfl k) ?_
  show own_Gl p.tables e below F (T17.setTop (mkF m 244 #[.val (.int p1), .val (.int p2), .val (.int p3), .val (.int p4), .val (.int p5), .val (.long q6), .second, .val (.int cn), .val (.int ix), .val (.int vl), .val (.ref b1), .val (.ref b4), .val (.int (1 : Int32)), .val (.int ((4 : Int32) * ix)), .val (.int (((4 : Int32) * ix) + (4 : Int32)))] [(.ref b1)]))
  refine own_go (fun _ k => XS.iconst X17.here hx rfl (hb hby at_244) k) ?_
  show own_Gl p.tables e below F (T17.setTop (mkF m 245 #[.val (.int p1), .val (.int p2), .val (.int p3), .val (.int p4), .val (.int p5), .val (.long q6), .second, .val (.int cn), .val (.int ix), .val (.int vl), .val (.ref b1), .val (.ref b4), .val (.int (1 : Int32)), .val (.int ((4 : Int32) * ix)), .val (.int (((4 : Int32) * ix) + (4 : Int32)))] [(.int (4 : Int32)), (.ref b1)]))
  refine own_go (fun _ k => XS.iload X17.here hx rfl (hb hby at_245) rfl k) ?_
  show own_Gl p.tables e below F (T17.setTop (mkF m 247 #[.val (.int p1), .val (.int p2), .val (.int p3), .val (.int p4), .val (.int p5), .val (.long q6), .second, .val (.int cn), .val (.int ix), .val (.int vl), .val (.ref b1), .val (.ref b4), .val (.int (1 : Int32)), .val (.int ((4 : Int32) * ix)), .val (.int (((4 : Int32) * ix) + (4 : Int32)))] [(.int ((4 : Int32) * ix)), (.int (4 : Int32)), (.ref b1)]))
  refine own_go (fun _ k => XS.iload X17.here hx rfl (hb hby at_247) rfl k) ?_
  show own_Gl p.tables e below F (T17.setTop (mkF m 249 #[.val (.int p1), .val (.int p2), .val (.int p3), .val (.int p4), .val (.int p5), .val (.long q6), .second, .val (.int cn), .val (.int ix), .val (.int vl), .val (.ref b1), .val (.ref b4), .val (.int (1 : Int32)), .val (.int ((4 : Int32) * ix)), .val (.int (((4 : Int32) * ix) + (4 : Int32)))] [(.int (((4 : Int32) * ix) + (4 : Int32))), (.int ((4 : Int32) * ix)), (.int (4 : Int32)), (.ref b1)]))
  obtain ⟨_, _, ⟨T18, L18, k18, n18⟩, -, X18, ⟨Lc18, hQ18, l18, y18, z18⟩, st18⟩ := Jvm.LawKit.callS X17 hx (y := (⟨"com/example/palimpsest/palimpsest/storage/RecordWritesPlacePinLaw", "untouched", "([IIII)Z"⟩ : MethodName)) hown (mvT hZ (hw _ (List.mem_of_getElem? (i := 58) rfl))) (mvT hZ (hw _ (List.mem_of_getElem? (i := 59) rfl))) (mvT hZ (hw _ (List.mem_of_getElem? (i := 60) rfl))) (mvT hZ (hw _ (List.mem_of_getElem? (i := 61) rfl))) (by decide) (backOf (W := 0) (rm11 l Z a0 hw [] b1 (4 : Int32) ((4 : Int32) * ix) (((4 : Int32) * ix) + (4 : Int32)) ((4 : Int32) * cn) (own_put (fun _ => (.int (0 : Int32))) ix p2 p3 p4 vl) T7.heap n0 Z7 f7_1 (by decide) hU) hZ (hw _ (List.mem_of_getElem? (i := 61) rfl)) (hw _ (List.mem_of_getElem? (i := 60) rfl)) (by decide) (by decide)) (g := (mkF m 249 #[.val (.int p1), .val (.int p2), .val (.int p3), .val (.int p4), .val (.int p5), .val (.long q6), .second, .val (.int cn), .val (.int ix), .val (.int vl), .val (.ref b1), .val (.ref b4), .val (.int (1 : Int32)), .val (.int ((4 : Int32) * ix)), .val (.int (((4 : Int32) * ix) + (4 : Int32)))] [(.int (((4 : Int32) * ix) + (4 : Int32))), (.int ((4 : Int32) * ix)), (.int (4 : Int32)), (.ref b1)])) rfl (by rw [hml]; rfl) (argsL := [(.ref b1), (.int (4 : Int32)), (.int ((4 : Int32) * ix)), (.int (((4 : Int32) * ix) + (4 : Int32)))]) (rest := []) (lenOf pd_7 rfl) rfl (by show 2 * 0 + _ ≤ _; exact Nat.le_of_eq rfl) (hb hby at_249) (fun _ _ => ⟨rfl, e17, (by first | decide | exact Nat.le_of_ble_eq_true rfl), (by first | decide | exact Nat.le_of_ble_eq_true rfl)⟩)
  dsimp only [Pt.U, Pt.locs, Pt.cells, Pt.slots] at X18 l18 y18 z18 st18 hQ18
  obtain ⟨rfl, N18, e18⟩ := hQ18
  have X18 := own_sn X18 (k' := 4) (n' := 25) y18 z18
  have NF18 := own_fr l18 NF17 N18
  refine own_go st18 ?_
  show own_Gl p.tables e below F (T18.setTop (mkF m 252 #[.val (.int p1), .val (.int p2), .val (.int p3), .val (.int p4), .val (.int p5), .val (.long q6), .second, .val (.int cn), .val (.int ix), .val (.int vl), .val (.ref b1), .val (.ref b4), .val (.int (1 : Int32)), .val (.int ((4 : Int32) * ix)), .val (.int (((4 : Int32) * ix) + (4 : Int32)))] [(.int (1 : Int32))]))
  refine own_go (fun _ k => XS.ifNo X18.here hx rfl (hb hby at_252) rfl (XT.i0_eq_f (by decide)) k) ?_
  show own_Gl p.tables e below F (T18.setTop (mkF m 255 #[.val (.int p1), .val (.int p2), .val (.int p3), .val (.int p4), .val (.int p5), .val (.long q6), .second, .val (.int cn), .val (.int ix), .val (.int vl), .val (.ref b1), .val (.ref b4), .val (.int (1 : Int32)), .val (.int ((4 : Int32) * ix)), .val (.int (((4 : Int32) * ix) + (4 : Int32)))] []))
  refine own_go (fun _ k => XS.aload X18.here hx rfl (hb hby at_255) rfl rfl k) ?_
  show own_Gl p.tables e below F (T18.setTop (mkF m 257 #[.val (.int p1), .val (.int p2), .val (.int p3), .val (.int p4), .val (.int p5), .val (.long q6), .second, .val (.int cn), .val (.int ix), .val (.int vl), .val (.ref b1), .val (.ref b4), .val (.int (1 : Int32)), .val (.int ((4 : Int32) * ix)), .val (.int (((4 : Int32) * ix) + (4 : Int32)))] [(.ref b1)]))
  refine own_go (fun _ k => XS.iconst X18.here hx rfl (hb hby at_257) k) ?_
  show own_Gl p.tables e below F (T18.setTop (mkF m 258 #[.val (.int p1), .val (.int p2), .val (.int p3), .val (.int p4), .val (.int p5), .val (.long q6), .second, .val (.int cn), .val (.int ix), .val (.int vl), .val (.ref b1), .val (.ref b4), .val (.int (1 : Int32)), .val (.int ((4 : Int32) * ix)), .val (.int (((4 : Int32) * ix) + (4 : Int32)))] [(.int (5 : Int32)), (.ref b1)]))
  refine own_go (fun _ k => XS.iload X18.here hx rfl (hb hby at_258) rfl k) ?_
  show own_Gl p.tables e below F (T18.setTop (mkF m 260 #[.val (.int p1), .val (.int p2), .val (.int p3), .val (.int p4), .val (.int p5), .val (.long q6), .second, .val (.int cn), .val (.int ix), .val (.int vl), .val (.ref b1), .val (.ref b4), .val (.int (1 : Int32)), .val (.int ((4 : Int32) * ix)), .val (.int (((4 : Int32) * ix) + (4 : Int32)))] [(.int ((4 : Int32) * ix)), (.int (5 : Int32)), (.ref b1)]))
  refine own_go (fun _ k => XS.iload X18.here hx rfl (hb hby at_260) rfl k) ?_
  show own_Gl p.tables e below F (T18.setTop (mkF m 262 #[.val (.int p1), .val (.int p2), .val (.int p3), .val (.int p4), .val (.int p5), .val (.long q6), .second, .val (.int cn), .val (.int ix), .val (.int vl), .val (.ref b1), .val (.ref b4), .val (.int (1 : Int32)), .val (.int ((4 : Int32) * ix)), .val (.int (((4 : Int32) * ix) + (4 : Int32)))] [(.int (((4 : Int32) * ix) + (4 : Int32))), (.int ((4 : Int32) * ix)), (.int (5 : Int32)), (.ref b1)]))
  obtain ⟨_, _, ⟨T19, L19, k19, n19⟩, -, X19, ⟨Lc19, hQ19, l19, y19, z19⟩, st19⟩ := Jvm.LawKit.callS X18 hx (y := (⟨"com/example/palimpsest/palimpsest/storage/RecordWritesPlacePinLaw", "untouched", "([IIII)Z"⟩ : MethodName)) hown (mvT hZ (hw _ (List.mem_of_getElem? (i := 58) rfl))) (mvT hZ (hw _ (List.mem_of_getElem? (i := 59) rfl))) (mvT hZ (hw _ (List.mem_of_getElem? (i := 60) rfl))) (mvT hZ (hw _ (List.mem_of_getElem? (i := 61) rfl))) (by decide) (backOf (W := 0) (rm11 l Z a0 hw [] b1 (5 : Int32) ((4 : Int32) * ix) (((4 : Int32) * ix) + (4 : Int32)) ((4 : Int32) * cn) (own_put (fun _ => (.int (0 : Int32))) ix p2 p3 p4 vl) T7.heap n0 Z7 f7_1 (by decide) hU) hZ (hw _ (List.mem_of_getElem? (i := 61) rfl)) (hw _ (List.mem_of_getElem? (i := 60) rfl)) (by decide) (by decide)) (g := (mkF m 262 #[.val (.int p1), .val (.int p2), .val (.int p3), .val (.int p4), .val (.int p5), .val (.long q6), .second, .val (.int cn), .val (.int ix), .val (.int vl), .val (.ref b1), .val (.ref b4), .val (.int (1 : Int32)), .val (.int ((4 : Int32) * ix)), .val (.int (((4 : Int32) * ix) + (4 : Int32)))] [(.int (((4 : Int32) * ix) + (4 : Int32))), (.int ((4 : Int32) * ix)), (.int (5 : Int32)), (.ref b1)])) rfl (by rw [hml]; rfl) (argsL := [(.ref b1), (.int (5 : Int32)), (.int ((4 : Int32) * ix)), (.int (((4 : Int32) * ix) + (4 : Int32)))]) (rest := []) (lenOf pd_7 rfl) rfl (by show 2 * 0 + _ ≤ _; exact Nat.le_of_eq rfl) (hb hby at_262) (fun _ _ => ⟨rfl, e18, (by first | decide | exact Nat.le_of_ble_eq_true rfl), (by first | decide | exact Nat.le_of_ble_eq_true rfl)⟩)
  dsimp only [Pt.U, Pt.locs, Pt.cells, Pt.slots] at X19 l19 y19 z19 st19 hQ19
  obtain ⟨rfl, N19, e19⟩ := hQ19
  have X19 := own_sn X19 (k' := 4) (n' := 25) y19 z19
  have NF19 := own_fr l19 NF18 N19
  refine own_go st19 ?_
  show own_Gl p.tables e below F (T19.setTop (mkF m 265 #[.val (.int p1), .val (.int p2), .val (.int p3), .val (.int p4), .val (.int p5), .val (.long q6), .second, .val (.int cn), .val (.int ix), .val (.int vl), .val (.ref b1), .val (.ref b4), .val (.int (1 : Int32)), .val (.int ((4 : Int32) * ix)), .val (.int (((4 : Int32) * ix) + (4 : Int32)))] [(.int (1 : Int32))]))
  refine own_go (fun _ k => XS.ifNo X19.here hx rfl (hb hby at_265) rfl (XT.i0_eq_f (by decide)) k) ?_
  show own_Gl p.tables e below F (T19.setTop (mkF m 268 #[.val (.int p1), .val (.int p2), .val (.int p3), .val (.int p4), .val (.int p5), .val (.long q6), .second, .val (.int cn), .val (.int ix), .val (.int vl), .val (.ref b1), .val (.ref b4), .val (.int (1 : Int32)), .val (.int ((4 : Int32) * ix)), .val (.int (((4 : Int32) * ix) + (4 : Int32)))] []))
  refine own_go (fun _ k => XS.aload X19.here hx rfl (hb hby at_268) rfl rfl k) ?_
  show own_Gl p.tables e below F (T19.setTop (mkF m 270 #[.val (.int p1), .val (.int p2), .val (.int p3), .val (.int p4), .val (.int p5), .val (.long q6), .second, .val (.int cn), .val (.int ix), .val (.int vl), .val (.ref b1), .val (.ref b4), .val (.int (1 : Int32)), .val (.int ((4 : Int32) * ix)), .val (.int (((4 : Int32) * ix) + (4 : Int32)))] [(.ref b1)]))
  refine own_go (fun _ k => XS.bipush X19.here hx rfl (hb hby at_270) k) ?_
  show own_Gl p.tables e below F (T19.setTop (mkF m 272 #[.val (.int p1), .val (.int p2), .val (.int p3), .val (.int p4), .val (.int p5), .val (.long q6), .second, .val (.int cn), .val (.int ix), .val (.int vl), .val (.ref b1), .val (.ref b4), .val (.int (1 : Int32)), .val (.int ((4 : Int32) * ix)), .val (.int (((4 : Int32) * ix) + (4 : Int32)))] [(.int (6 : Int32)), (.ref b1)]))
  refine own_go (fun _ k => XS.iload X19.here hx rfl (hb hby at_272) rfl k) ?_
  show own_Gl p.tables e below F (T19.setTop (mkF m 274 #[.val (.int p1), .val (.int p2), .val (.int p3), .val (.int p4), .val (.int p5), .val (.long q6), .second, .val (.int cn), .val (.int ix), .val (.int vl), .val (.ref b1), .val (.ref b4), .val (.int (1 : Int32)), .val (.int ((4 : Int32) * ix)), .val (.int (((4 : Int32) * ix) + (4 : Int32)))] [(.int ((4 : Int32) * ix)), (.int (6 : Int32)), (.ref b1)]))
  refine own_go (fun _ k => XS.iload X19.here hx rfl (hb hby at_274) rfl k) ?_
  show own_Gl p.tables e below F (T19.setTop (mkF m 276 #[.val (.int p1), .val (.int p2), .val (.int p3), .val (.int p4), .val (.int p5), .val (.long q6), .second, .val (.int cn), .val (.int ix), .val (.int vl), .val (.ref b1), .val (.ref b4), .val (.int (1 : Int32)), .val (.int ((4 : Int32) * ix)), .val (.int (((4 : Int32) * ix) + (4 : Int32)))] [(.int (((4 : Int32) * ix) + (4 : Int32))), (.int ((4 : Int32) * ix)), (.int (6 : Int32)), (.ref b1)]))
  obtain ⟨_, _, ⟨T20, L20, k20, n20⟩, -, X20, ⟨Lc20, hQ20, l20, y20, z20⟩, st20⟩ := Jvm.LawKit.callS X19 hx (y := (⟨"com/example/palimpsest/palimpsest/storage/RecordWritesPlacePinLaw", "untouched", "([IIII)Z"⟩ : MethodName)) hown (mvT hZ (hw _ (List.mem_of_getElem? (i := 58) rfl))) (mvT hZ (hw _ (List.mem_of_getElem? (i := 59) rfl))) (mvT hZ (hw _ (List.mem_of_getElem? (i := 60) rfl))) (mvT hZ (hw _ (List.mem_of_getElem? (i := 61) rfl))) (by decide) (backOf (W := 0) (rm11 l Z a0 hw [] b1 (6 : Int32) ((4 : Int32) * ix) (((4 : Int32) * ix) + (4 : Int32)) ((4 : Int32) * cn) (own_put (fun _ => (.int (0 : Int32))) ix p2 p3 p4 vl) T7.heap n0 Z7 f7_1 (by decide) hU) hZ (hw _ (List.mem_of_getElem? (i := 61) rfl)) (hw _ (List.mem_of_getElem? (i := 60) rfl)) (by decide) (by decide)) (g := (mkF m 276 #[.val (.int p1), .val (.int p2), .val (.int p3), .val (.int p4), .val (.int p5), .val (.long q6), .second, .val (.int cn), .val (.int ix), .val (.int vl), .val (.ref b1), .val (.ref b4), .val (.int (1 : Int32)), .val (.int ((4 : Int32) * ix)), .val (.int (((4 : Int32) * ix) + (4 : Int32)))] [(.int (((4 : Int32) * ix) + (4 : Int32))), (.int ((4 : Int32) * ix)), (.int (6 : Int32)), (.ref b1)])) rfl (by rw [hml]; rfl) (argsL := [(.ref b1), (.int (6 : Int32)), (.int ((4 : Int32) * ix)), (.int (((4 : Int32) * ix) + (4 : Int32)))]) (rest := []) (lenOf pd_7 rfl) rfl (by show 2 * 0 + _ ≤ _; exact Nat.le_of_eq rfl) (hb hby at_276) (fun _ _ => ⟨rfl, e19, (by first | decide | exact Nat.le_of_ble_eq_true rfl), (by first | decide | exact Nat.le_of_ble_eq_true rfl)⟩)
  dsimp only [Pt.U, Pt.locs, Pt.cells, Pt.slots] at X20 l20 y20 z20 st20 hQ20
  obtain ⟨rfl, N20, e20⟩ := hQ20
  have X20 := own_sn X20 (k' := 4) (n' := 25) y20 z20
  have NF20 := own_fr l20 NF19 N20
  refine own_go st20 ?_
  show own_Gl p.tables e below F (T20.setTop (mkF m 279 #[.val (.int p1), .val (.int p2), .val (.int p3), .val (.int p4), .val (.int p5), .val (.long q6), .second, .val (.int cn), .val (.int ix), .val (.int vl), .val (.ref b1), .val (.ref b4), .val (.int (1 : Int32)), .val (.int ((4 : Int32) * ix)), .val (.int (((4 : Int32) * ix) + (4 : Int32)))] [(.int (1 : Int32))]))
  refine own_go (fun _ k => XS.ifNo X20.here hx rfl (hb hby at_279) rfl (XT.i0_eq_f (by decide)) k) ?_
  show own_Gl p.tables e below F (T20.setTop (mkF m 282 #[.val (.int p1), .val (.int p2), .val (.int p3), .val (.int p4), .val (.int p5), .val (.long q6), .second, .val (.int cn), .val (.int ix), .val (.int vl), .val (.ref b1), .val (.ref b4), .val (.int (1 : Int32)), .val (.int ((4 : Int32) * ix)), .val (.int (((4 : Int32) * ix) + (4 : Int32)))] []))
  refine own_go (fun _ k => XS.aload X20.here hx rfl (hb hby at_282) rfl rfl k) ?_
  show own_Gl p.tables e below F (T20.setTop (mkF m 284 #[.val (.int p1), .val (.int p2), .val (.int p3), .val (.int p4), .val (.int p5), .val (.long q6), .second, .val (.int cn), .val (.int ix), .val (.int vl), .val (.ref b1), .val (.ref b4), .val (.int (1 : Int32)), .val (.int ((4 : Int32) * ix)), .val (.int (((4 : Int32) * ix) + (4 : Int32)))] [(.ref b1)]))
  refine own_go (fun _ k => XS.bipush X20.here hx rfl (hb hby at_284) k) ?_
  show own_Gl p.tables e below F (T20.setTop (mkF m 286 #[.val (.int p1), .val (.int p2), .val (.int p3), .val (.int p4), .val (.int p5), .val (.long q6), .second, .val (.int cn), .val (.int ix), .val (.int vl), .val (.ref b1), .val (.ref b4), .val (.int (1 : Int32)), .val (.int ((4 : Int32) * ix)), .val (.int (((4 : Int32) * ix) + (4 : Int32)))] [(.int (7 : Int32)), (.ref b1)]))
  refine own_go (fun _ k => XS.iload X20.here hx rfl (hb hby at_286) rfl k) ?_
  show own_Gl p.tables e below F (T20.setTop (mkF m 288 #[.val (.int p1), .val (.int p2), .val (.int p3), .val (.int p4), .val (.int p5), .val (.long q6), .second, .val (.int cn), .val (.int ix), .val (.int vl), .val (.ref b1), .val (.ref b4), .val (.int (1 : Int32)), .val (.int ((4 : Int32) * ix)), .val (.int (((4 : Int32) * ix) + (4 : Int32)))] [(.int ((4 : Int32) * ix)), (.int (7 : Int32)), (.ref b1)]))
  refine own_go (fun _ k => XS.iload X20.here hx rfl (hb hby at_288) rfl k) ?_
  show own_Gl p.tables e below F (T20.setTop (mkF m 290 #[.val (.int p1), .val (.int p2), .val (.int p3), .val (.int p4), .val (.int p5), .val (.long q6), .second, .val (.int cn), .val (.int ix), .val (.int vl), .val (.ref b1), .val (.ref b4), .val (.int (1 : Int32)), .val (.int ((4 : Int32) * ix)), .val (.int (((4 : Int32) * ix) + (4 : Int32)))] [(.int (((4 : Int32) * ix) + (4 : Int32))), (.int ((4 : Int32) * ix)), (.int (7 : Int32)), (.ref b1)]))
  obtain ⟨_, _, ⟨T21, L21, k21, n21⟩, -, X21, ⟨Lc21, hQ21, l21, y21, z21⟩, st21⟩ := Jvm.LawKit.callS X20 hx (y := (⟨"com/example/palimpsest/palimpsest/storage/RecordWritesPlacePinLaw", "untouched", "([IIII)Z"⟩ : MethodName)) hown (mvT hZ (hw _ (List.mem_of_getElem? (i := 58) rfl))) (mvT hZ (hw _ (List.mem_of_getElem? (i := 59) rfl))) (mvT hZ (hw _ (List.mem_of_getElem? (i := 60) rfl))) (mvT hZ (hw _ (List.mem_of_getElem? (i := 61) rfl))) (by decide) (backOf (W := 0) (rm11 l Z a0 hw [] b1 (7 : Int32) ((4 : Int32) * ix) (((4 : Int32) * ix) + (4 : Int32)) ((4 : Int32) * cn) (own_put (fun _ => (.int (0 : Int32))) ix p2 p3 p4 vl) T7.heap n0 Z7 f7_1 (by decide) hU) hZ (hw _ (List.mem_of_getElem? (i := 61) rfl)) (hw _ (List.mem_of_getElem? (i := 60) rfl)) (by decide) (by decide)) (g := (mkF m 290 #[.val (.int p1), .val (.int p2), .val (.int p3), .val (.int p4), .val (.int p5), .val (.long q6), .second, .val (.int cn), .val (.int ix), .val (.int vl), .val (.ref b1), .val (.ref b4), .val (.int (1 : Int32)), .val (.int ((4 : Int32) * ix)), .val (.int (((4 : Int32) * ix) + (4 : Int32)))] [(.int (((4 : Int32) * ix) + (4 : Int32))), (.int ((4 : Int32) * ix)), (.int (7 : Int32)), (.ref b1)])) rfl (by rw [hml]; rfl) (argsL := [(.ref b1), (.int (7 : Int32)), (.int ((4 : Int32) * ix)), (.int (((4 : Int32) * ix) + (4 : Int32)))]) (rest := []) (lenOf pd_7 rfl) rfl (by show 2 * 0 + _ ≤ _; exact Nat.le_of_eq rfl) (hb hby at_290) (fun _ _ => ⟨rfl, e20, (by first | decide | exact Nat.le_of_ble_eq_true rfl), (by first | decide | exact Nat.le_of_ble_eq_true rfl)⟩)
  dsimp only [Pt.U, Pt.locs, Pt.cells, Pt.slots] at X21 l21 y21 z21 st21 hQ21
  obtain ⟨rfl, N21, e21⟩ := hQ21
  have X21 := own_sn X21 (k' := 4) (n' := 25) y21 z21
  have NF21 := own_fr l21 NF20 N21
  refine own_go st21 ?_
  show own_Gl p.tables e below F (T21.setTop (mkF m 293 #[.val (.int p1), .val (.int p2), .val (.int p3), .val (.int p4), .val (.int p5), .val (.long q6), .second, .val (.int cn), .val (.int ix), .val (.int vl), .val (.ref b1), .val (.ref b4), .val (.int (1 : Int32)), .val (.int ((4 : Int32) * ix)), .val (.int (((4 : Int32) * ix) + (4 : Int32)))] [(.int (1 : Int32))]))
  refine own_go (fun _ k => XS.ifNo X21.here hx rfl (hb hby at_293) rfl (XT.i0_eq_f (by decide)) k) ?_
  show own_Gl p.tables e below F (T21.setTop (mkF m 296 #[.val (.int p1), .val (.int p2), .val (.int p3), .val (.int p4), .val (.int p5), .val (.long q6), .second, .val (.int cn), .val (.int ix), .val (.int vl), .val (.ref b1), .val (.ref b4), .val (.int (1 : Int32)), .val (.int ((4 : Int32) * ix)), .val (.int (((4 : Int32) * ix) + (4 : Int32)))] []))
  refine own_go (fun _ k => XS.aload X21.here hx rfl (hb hby at_296) rfl rfl k) ?_
  show own_Gl p.tables e below F (T21.setTop (mkF m 298 #[.val (.int p1), .val (.int p2), .val (.int p3), .val (.int p4), .val (.int p5), .val (.long q6), .second, .val (.int cn), .val (.int ix), .val (.int vl), .val (.ref b1), .val (.ref b4), .val (.int (1 : Int32)), .val (.int ((4 : Int32) * ix)), .val (.int (((4 : Int32) * ix) + (4 : Int32)))] [(.ref b1)]))
  refine own_go (fun _ k => XS.bipush X21.here hx rfl (hb hby at_298) k) ?_
  show own_Gl p.tables e below F (T21.setTop (mkF m 300 #[.val (.int p1), .val (.int p2), .val (.int p3), .val (.int p4), .val (.int p5), .val (.long q6), .second, .val (.int cn), .val (.int ix), .val (.int vl), .val (.ref b1), .val (.ref b4), .val (.int (1 : Int32)), .val (.int ((4 : Int32) * ix)), .val (.int (((4 : Int32) * ix) + (4 : Int32)))] [(.int (8 : Int32)), (.ref b1)]))
  refine own_go (fun _ k => XS.iload X21.here hx rfl (hb hby at_300) rfl k) ?_
  show own_Gl p.tables e below F (T21.setTop (mkF m 302 #[.val (.int p1), .val (.int p2), .val (.int p3), .val (.int p4), .val (.int p5), .val (.long q6), .second, .val (.int cn), .val (.int ix), .val (.int vl), .val (.ref b1), .val (.ref b4), .val (.int (1 : Int32)), .val (.int ((4 : Int32) * ix)), .val (.int (((4 : Int32) * ix) + (4 : Int32)))] [(.int ((4 : Int32) * ix)), (.int (8 : Int32)), (.ref b1)]))
  refine own_go (fun _ k => XS.iload X21.here hx rfl (hb hby at_302) rfl k) ?_
  show own_Gl p.tables e below F (T21.setTop (mkF m 304 #[.val (.int p1), .val (.int p2), .val (.int p3), .val (.int p4), .val (.int p5), .val (.long q6), .second, .val (.int cn), .val (.int ix), .val (.int vl), .val (.ref b1), .val (.ref b4), .val (.int (1 : Int32)), .val (.int ((4 : Int32) * ix)), .val (.int (((4 : Int32) * ix) + (4 : Int32)))] [(.int (((4 : Int32) * ix) + (4 : Int32))), (.int ((4 : Int32) * ix)), (.int (8 : Int32)), (.ref b1)]))
  obtain ⟨_, _, ⟨T22, L22, k22, n22⟩, -, X22, ⟨Lc22, hQ22, l22, y22, z22⟩, st22⟩ := Jvm.LawKit.callS X21 hx (y := (⟨"com/example/palimpsest/palimpsest/storage/RecordWritesPlacePinLaw", "untouched", "([IIII)Z"⟩ : MethodName)) hown (mvT hZ (hw _ (List.mem_of_getElem? (i := 58) rfl))) (mvT hZ (hw _ (List.mem_of_getElem? (i := 59) rfl))) (mvT hZ (hw _ (List.mem_of_getElem? (i := 60) rfl))) (mvT hZ (hw _ (List.mem_of_getElem? (i := 61) rfl))) (by decide) (backOf (W := 0) (rm11 l Z a0 hw [] b1 (8 : Int32) ((4 : Int32) * ix) (((4 : Int32) * ix) + (4 : Int32)) ((4 : Int32) * cn) (own_put (fun _ => (.int (0 : Int32))) ix p2 p3 p4 vl) T7.heap n0 Z7 f7_1 (by decide) hU) hZ (hw _ (List.mem_of_getElem? (i := 61) rfl)) (hw _ (List.mem_of_getElem? (i := 60) rfl)) (by decide) (by decide)) (g := (mkF m 304 #[.val (.int p1), .val (.int p2), .val (.int p3), .val (.int p4), .val (.int p5), .val (.long q6), .second, .val (.int cn), .val (.int ix), .val (.int vl), .val (.ref b1), .val (.ref b4), .val (.int (1 : Int32)), .val (.int ((4 : Int32) * ix)), .val (.int (((4 : Int32) * ix) + (4 : Int32)))] [(.int (((4 : Int32) * ix) + (4 : Int32))), (.int ((4 : Int32) * ix)), (.int (8 : Int32)), (.ref b1)])) rfl (by rw [hml]; rfl) (argsL := [(.ref b1), (.int (8 : Int32)), (.int ((4 : Int32) * ix)), (.int (((4 : Int32) * ix) + (4 : Int32)))]) (rest := []) (lenOf pd_7 rfl) rfl (by show 2 * 0 + _ ≤ _; exact Nat.le_of_eq rfl) (hb hby at_304) (fun _ _ => ⟨rfl, e21, (by first | decide | exact Nat.le_of_ble_eq_true rfl), (by first | decide | exact Nat.le_of_ble_eq_true rfl)⟩)
  dsimp only [Pt.U, Pt.locs, Pt.cells, Pt.slots] at X22 l22 y22 z22 st22 hQ22
  obtain ⟨rfl, N22, e22⟩ := hQ22
  have X22 := own_sn X22 (k' := 4) (n' := 25) y22 z22
  have NF22 := own_fr l22 NF21 N22
  refine own_go st22 ?_
  show own_Gl p.tables e below F (T22.setTop (mkF m 307 #[.val (.int p1), .val (.int p2), .val (.int p3), .val (.int p4), .val (.int p5), .val (.long q6), .second, .val (.int cn), .val (.int ix), .val (.int vl), .val (.ref b1), .val (.ref b4), .val (.int (1 : Int32)), .val (.int ((4 : Int32) * ix)), .val (.int (((4 : Int32) * ix) + (4 : Int32)))] [(.int (1 : Int32))]))
  refine own_go (fun _ k => XS.ifNo X22.here hx rfl (hb hby at_307) rfl (XT.i0_eq_f (by decide)) k) ?_
  show own_Gl p.tables e below F (T22.setTop (mkF m 310 #[.val (.int p1), .val (.int p2), .val (.int p3), .val (.int p4), .val (.int p5), .val (.long q6), .second, .val (.int cn), .val (.int ix), .val (.int vl), .val (.ref b1), .val (.ref b4), .val (.int (1 : Int32)), .val (.int ((4 : Int32) * ix)), .val (.int (((4 : Int32) * ix) + (4 : Int32)))] []))
  refine own_go (fun _ k => XS.aload X22.here hx rfl (hb hby at_310) rfl rfl k) ?_
  show own_Gl p.tables e below F (T22.setTop (mkF m 312 #[.val (.int p1), .val (.int p2), .val (.int p3), .val (.int p4), .val (.int p5), .val (.long q6), .second, .val (.int cn), .val (.int ix), .val (.int vl), .val (.ref b1), .val (.ref b4), .val (.int (1 : Int32)), .val (.int ((4 : Int32) * ix)), .val (.int (((4 : Int32) * ix) + (4 : Int32)))] [(.ref b1)]))
  refine own_go (fun _ k => XS.bipush X22.here hx rfl (hb hby at_312) k) ?_
  show own_Gl p.tables e below F (T22.setTop (mkF m 314 #[.val (.int p1), .val (.int p2), .val (.int p3), .val (.int p4), .val (.int p5), .val (.long q6), .second, .val (.int cn), .val (.int ix), .val (.int vl), .val (.ref b1), .val (.ref b4), .val (.int (1 : Int32)), .val (.int ((4 : Int32) * ix)), .val (.int (((4 : Int32) * ix) + (4 : Int32)))] [(.int (9 : Int32)), (.ref b1)]))
  refine own_go (fun _ k => XS.iload X22.here hx rfl (hb hby at_314) rfl k) ?_
  show own_Gl p.tables e below F (T22.setTop (mkF m 316 #[.val (.int p1), .val (.int p2), .val (.int p3), .val (.int p4), .val (.int p5), .val (.long q6), .second, .val (.int cn), .val (.int ix), .val (.int vl), .val (.ref b1), .val (.ref b4), .val (.int (1 : Int32)), .val (.int ((4 : Int32) * ix)), .val (.int (((4 : Int32) * ix) + (4 : Int32)))] [(.int ((4 : Int32) * ix)), (.int (9 : Int32)), (.ref b1)]))
  refine own_go (fun _ k => XS.iload X22.here hx rfl (hb hby at_316) rfl k) ?_
  show own_Gl p.tables e below F (T22.setTop (mkF m 318 #[.val (.int p1), .val (.int p2), .val (.int p3), .val (.int p4), .val (.int p5), .val (.long q6), .second, .val (.int cn), .val (.int ix), .val (.int vl), .val (.ref b1), .val (.ref b4), .val (.int (1 : Int32)), .val (.int ((4 : Int32) * ix)), .val (.int (((4 : Int32) * ix) + (4 : Int32)))] [(.int (((4 : Int32) * ix) + (4 : Int32))), (.int ((4 : Int32) * ix)), (.int (9 : Int32)), (.ref b1)]))
  obtain ⟨_, _, ⟨T23, L23, k23, n23⟩, -, X23, ⟨Lc23, hQ23, l23, y23, z23⟩, st23⟩ := Jvm.LawKit.callS X22 hx (y := (⟨"com/example/palimpsest/palimpsest/storage/RecordWritesPlacePinLaw", "untouched", "([IIII)Z"⟩ : MethodName)) hown (mvT hZ (hw _ (List.mem_of_getElem? (i := 58) rfl))) (mvT hZ (hw _ (List.mem_of_getElem? (i := 59) rfl))) (mvT hZ (hw _ (List.mem_of_getElem? (i := 60) rfl))) (mvT hZ (hw _ (List.mem_of_getElem? (i := 61) rfl))) (by decide) (backOf (W := 0) (rm11 l Z a0 hw [] b1 (9 : Int32) ((4 : Int32) * ix) (((4 : Int32) * ix) + (4 : Int32)) ((4 : Int32) * cn) (own_put (fun _ => (.int (0 : Int32))) ix p2 p3 p4 vl) T7.heap n0 Z7 f7_1 (by decide) hU) hZ (hw _ (List.mem_of_getElem? (i := 61) rfl)) (hw _ (List.mem_of_getElem? (i := 60) rfl)) (by decide) (by decide)) (g := (mkF m 318 #[.val (.int p1), .val (.int p2), .val (.int p3), .val (.int p4), .val (.int p5), .val (.long q6), .second, .val (.int cn), .val (.int ix), .val (.int vl), .val (.ref b1), .val (.ref b4), .val (.int (1 : Int32)), .val (.int ((4 : Int32) * ix)), .val (.int (((4 : Int32) * ix) + (4 : Int32)))] [(.int (((4 : Int32) * ix) + (4 : Int32))), (.int ((4 : Int32) * ix)), (.int (9 : Int32)), (.ref b1)])) rfl (by rw [hml]; rfl) (argsL := [(.ref b1), (.int (9 : Int32)), (.int ((4 : Int32) * ix)), (.int (((4 : Int32) * ix) + (4 : Int32)))]) (rest := []) (lenOf pd_7 rfl) rfl (by show 2 * 0 + _ ≤ _; exact Nat.le_of_eq rfl) (hb hby at_318) (fun _ _ => ⟨rfl, e22, (by first | decide | exact Nat.le_of_ble_eq_true rfl), (by first | decide | exact Nat.le_of_ble_eq_true rfl)⟩)
  dsimp only [Pt.U, Pt.locs, Pt.cells, Pt.slots] at X23 l23 y23 z23 st23 hQ23
  obtain ⟨rfl, N23, e23⟩ := hQ23
  have X23 := own_sn X23 (k' := 4) (n' := 25) y23 z23
  have NF23 := own_fr l23 NF22 N23
  refine own_go st23 ?_
  show own_Gl p.tables e below F (T23.setTop (mkF m 321 #[.val (.int p1), .val (.int p2), .val (.int p3), .val (.int p4), .val (.int p5), .val (.long q6), .second, .val (.int cn), .val (.int ix), .val (.int vl), .val (.ref b1), .val (.ref b4), .val (.int (1 : Int32)), .val (.int ((4 : Int32) * ix)), .val (.int (((4 : Int32) * ix) + (4 : Int32)))] [(.int (1 : Int32))]))
  refine own_go (fun _ k => XS.ifNo X23.here hx rfl (hb hby at_321) rfl (XT.i0_eq_f (by decide)) k) ?_
  show own_Gl p.tables e below F (T23.setTop (mkF m 324 #[.val (.int p1), .val (.int p2), .val (.int p3), .val (.int p4), .val (.int p5), .val (.long q6), .second, .val (.int cn), .val (.int ix), .val (.int vl), .val (.ref b1), .val (.ref b4), .val (.int (1 : Int32)), .val (.int ((4 : Int32) * ix)), .val (.int (((4 : Int32) * ix) + (4 : Int32)))] []))
  refine own_go (fun _ k => XS.aload X23.here hx rfl (hb hby at_324) rfl rfl k) ?_
  show own_Gl p.tables e below F (T23.setTop (mkF m 326 #[.val (.int p1), .val (.int p2), .val (.int p3), .val (.int p4), .val (.int p5), .val (.long q6), .second, .val (.int cn), .val (.int ix), .val (.int vl), .val (.ref b1), .val (.ref b4), .val (.int (1 : Int32)), .val (.int ((4 : Int32) * ix)), .val (.int (((4 : Int32) * ix) + (4 : Int32)))] [(.ref b1)]))
  refine own_go (fun _ k => XS.bipush X23.here hx rfl (hb hby at_326) k) ?_
  show own_Gl p.tables e below F (T23.setTop (mkF m 328 #[.val (.int p1), .val (.int p2), .val (.int p3), .val (.int p4), .val (.int p5), .val (.long q6), .second, .val (.int cn), .val (.int ix), .val (.int vl), .val (.ref b1), .val (.ref b4), .val (.int (1 : Int32)), .val (.int ((4 : Int32) * ix)), .val (.int (((4 : Int32) * ix) + (4 : Int32)))] [(.int (10 : Int32)), (.ref b1)]))
  refine own_go (fun _ k => XS.iload X23.here hx rfl (hb hby at_328) rfl k) ?_
  show own_Gl p.tables e below F (T23.setTop (mkF m 330 #[.val (.int p1), .val (.int p2), .val (.int p3), .val (.int p4), .val (.int p5), .val (.long q6), .second, .val (.int cn), .val (.int ix), .val (.int vl), .val (.ref b1), .val (.ref b4), .val (.int (1 : Int32)), .val (.int ((4 : Int32) * ix)), .val (.int (((4 : Int32) * ix) + (4 : Int32)))] [(.int ((4 : Int32) * ix)), (.int (10 : Int32)), (.ref b1)]))
  refine own_go (fun _ k => XS.iload X23.here hx rfl (hb hby at_330) rfl k) ?_
  show own_Gl p.tables e below F (T23.setTop (mkF m 332 #[.val (.int p1), .val (.int p2), .val (.int p3), .val (.int p4), .val (.int p5), .val (.long q6), .second, .val (.int cn), .val (.int ix), .val (.int vl), .val (.ref b1), .val (.ref b4), .val (.int (1 : Int32)), .val (.int ((4 : Int32) * ix)), .val (.int (((4 : Int32) * ix) + (4 : Int32)))] [(.int (((4 : Int32) * ix) + (4 : Int32))), (.int ((4 : Int32) * ix)), (.int (10 : Int32)), (.ref b1)]))
  obtain ⟨_, _, ⟨T24, L24, k24, n24⟩, -, X24, ⟨Lc24, hQ24, l24, y24, z24⟩, st24⟩ := Jvm.LawKit.callS X23 hx (y := (⟨"com/example/palimpsest/palimpsest/storage/RecordWritesPlacePinLaw", "untouched", "([IIII)Z"⟩ : MethodName)) hown (mvT hZ (hw _ (List.mem_of_getElem? (i := 58) rfl))) (mvT hZ (hw _ (List.mem_of_getElem? (i := 59) rfl))) (mvT hZ (hw _ (List.mem_of_getElem? (i := 60) rfl))) (mvT hZ (hw _ (List.mem_of_getElem? (i := 61) rfl))) (by decide) (backOf (W := 0) (rm11 l Z a0 hw [] b1 (10 : Int32) ((4 : Int32) * ix) (((4 : Int32) * ix) + (4 : Int32)) ((4 : Int32) * cn) (own_put (fun _ => (.int (0 : Int32))) ix p2 p3 p4 vl) T7.heap n0 Z7 f7_1 (by decide) hU) hZ (hw _ (List.mem_of_getElem? (i := 61) rfl)) (hw _ (List.mem_of_getElem? (i := 60) rfl)) (by decide) (by decide)) (g := (mkF m 332 #[.val (.int p1), .val (.int p2), .val (.int p3), .val (.int p4), .val (.int p5), .val (.long q6), .second, .val (.int cn), .val (.int ix), .val (.int vl), .val (.ref b1), .val (.ref b4), .val (.int (1 : Int32)), .val (.int ((4 : Int32) * ix)), .val (.int (((4 : Int32) * ix) + (4 : Int32)))] [(.int (((4 : Int32) * ix) + (4 : Int32))), (.int ((4 : Int32) * ix)), (.int (10 : Int32)), (.ref b1)])) rfl (by rw [hml]; rfl) (argsL := [(.ref b1), (.int (10 : Int32)), (.int ((4 : Int32) * ix)), (.int (((4 : Int32) * ix) + (4 : Int32)))]) (rest := []) (lenOf pd_7 rfl) rfl (by show 2 * 0 + _ ≤ _; exact Nat.le_of_eq rfl) (hb hby at_332) (fun _ _ => ⟨rfl, e23, (by first | decide | exact Nat.le_of_ble_eq_true rfl), (by first | decide | exact Nat.le_of_ble_eq_true rfl)⟩)
  dsimp only [Pt.U, Pt.locs, Pt.cells, Pt.slots] at X24 l24 y24 z24 st24 hQ24
  obtain ⟨rfl, N24, e24⟩ := hQ24
  have X24 := own_sn X24 (k' := 4) (n' := 25) y24 z24
  have NF24 := own_fr l24 NF23 N24
  refine own_go st24 ?_
  show own_Gl p.tables e below F (T24.setTop (mkF m 335 #[.val (.int p1), .val (.int p2), .val (.int p3), .val (.int p4), .val (.int p5), .val (.long q6), .second, .val (.int cn), .val (.int ix), .val (.int vl), .val (.ref b1), .val (.ref b4), .val (.int (1 : Int32)), .val (.int ((4 : Int32) * ix)), .val (.int (((4 : Int32) * ix) + (4 : Int32)))] [(.int (1 : Int32))]))
  refine own_go (fun _ k => XS.ifNo X24.here hx rfl (hb hby at_335) rfl (XT.i0_eq_f (by decide)) k) ?_
  show own_Gl p.tables e below F (T24.setTop (mkF m 338 #[.val (.int p1), .val (.int p2), .val (.int p3), .val (.int p4), .val (.int p5), .val (.long q6), .second, .val (.int cn), .val (.int ix), .val (.int vl), .val (.ref b1), .val (.ref b4), .val (.int (1 : Int32)), .val (.int ((4 : Int32) * ix)), .val (.int (((4 : Int32) * ix) + (4 : Int32)))] []))
  refine own_go (fun _ k => XS.aload X24.here hx rfl (hb hby at_338) rfl rfl k) ?_
  show own_Gl p.tables e below F (T24.setTop (mkF m 340 #[.val (.int p1), .val (.int p2), .val (.int p3), .val (.int p4), .val (.int p5), .val (.long q6), .second, .val (.int cn), .val (.int ix), .val (.int vl), .val (.ref b1), .val (.ref b4), .val (.int (1 : Int32)), .val (.int ((4 : Int32) * ix)), .val (.int (((4 : Int32) * ix) + (4 : Int32)))] [(.ref b1)]))
  refine own_go (fun _ k => XS.bipush X24.here hx rfl (hb hby at_340) k) ?_
  show own_Gl p.tables e below F (T24.setTop (mkF m 342 #[.val (.int p1), .val (.int p2), .val (.int p3), .val (.int p4), .val (.int p5), .val (.long q6), .second, .val (.int cn), .val (.int ix), .val (.int vl), .val (.ref b1), .val (.ref b4), .val (.int (1 : Int32)), .val (.int ((4 : Int32) * ix)), .val (.int (((4 : Int32) * ix) + (4 : Int32)))] [(.int (11 : Int32)), (.ref b1)]))
  refine own_go (fun _ k => XS.iload X24.here hx rfl (hb hby at_342) rfl k) ?_
  show own_Gl p.tables e below F (T24.setTop (mkF m 344 #[.val (.int p1), .val (.int p2), .val (.int p3), .val (.int p4), .val (.int p5), .val (.long q6), .second, .val (.int cn), .val (.int ix), .val (.int vl), .val (.ref b1), .val (.ref b4), .val (.int (1 : Int32)), .val (.int ((4 : Int32) * ix)), .val (.int (((4 : Int32) * ix) + (4 : Int32)))] [(.int ((4 : Int32) * ix)), (.int (11 : Int32)), (.ref b1)]))
  refine own_go (fun _ k => XS.iload X24.here hx rfl (hb hby at_344) rfl k) ?_
  show own_Gl p.tables e below F (T24.setTop (mkF m 346 #[.val (.int p1), .val (.int p2), .val (.int p3), .val (.int p4), .val (.int p5), .val (.long q6), .second, .val (.int cn), .val (.int ix), .val (.int vl), .val (.ref b1), .val (.ref b4), .val (.int (1 : Int32)), .val (.int ((4 : Int32) * ix)), .val (.int (((4 : Int32) * ix) + (4 : Int32)))] [(.int (((4 : Int32) * ix) + (4 : Int32))), (.int ((4 : Int32) * ix)), (.int (11 : Int32)), (.ref b1)]))
  obtain ⟨_, _, ⟨T25, L25, k25, n25⟩, -, X25, ⟨Lc25, hQ25, l25, y25, z25⟩, st25⟩ := Jvm.LawKit.callS X24 hx (y := (⟨"com/example/palimpsest/palimpsest/storage/RecordWritesPlacePinLaw", "untouched", "([IIII)Z"⟩ : MethodName)) hown (mvT hZ (hw _ (List.mem_of_getElem? (i := 58) rfl))) (mvT hZ (hw _ (List.mem_of_getElem? (i := 59) rfl))) (mvT hZ (hw _ (List.mem_of_getElem? (i := 60) rfl))) (mvT hZ (hw _ (List.mem_of_getElem? (i := 61) rfl))) (by decide) (backOf (W := 0) (rm11 l Z a0 hw [] b1 (11 : Int32) ((4 : Int32) * ix) (((4 : Int32) * ix) + (4 : Int32)) ((4 : Int32) * cn) (own_put (fun _ => (.int (0 : Int32))) ix p2 p3 p4 vl) T7.heap n0 Z7 f7_1 (by decide) hU) hZ (hw _ (List.mem_of_getElem? (i := 61) rfl)) (hw _ (List.mem_of_getElem? (i := 60) rfl)) (by decide) (by decide)) (g := (mkF m 346 #[.val (.int p1), .val (.int p2), .val (.int p3), .val (.int p4), .val (.int p5), .val (.long q6), .second, .val (.int cn), .val (.int ix), .val (.int vl), .val (.ref b1), .val (.ref b4), .val (.int (1 : Int32)), .val (.int ((4 : Int32) * ix)), .val (.int (((4 : Int32) * ix) + (4 : Int32)))] [(.int (((4 : Int32) * ix) + (4 : Int32))), (.int ((4 : Int32) * ix)), (.int (11 : Int32)), (.ref b1)])) rfl (by rw [hml]; rfl) (argsL := [(.ref b1), (.int (11 : Int32)), (.int ((4 : Int32) * ix)), (.int (((4 : Int32) * ix) + (4 : Int32)))]) (rest := []) (lenOf pd_7 rfl) rfl (by show 2 * 0 + _ ≤ _; exact Nat.le_of_eq rfl) (hb hby at_346) (fun _ _ => ⟨rfl, e24, (by first | decide | exact Nat.le_of_ble_eq_true rfl), (by first | decide | exact Nat.le_of_ble_eq_true rfl)⟩)
  dsimp only [Pt.U, Pt.locs, Pt.cells, Pt.slots] at X25 l25 y25 z25 st25 hQ25
  obtain ⟨rfl, N25, e25⟩ := hQ25
  have X25 := own_sn X25 (k' := 4) (n' := 25) y25 z25
  have NF25 := own_fr l25 NF24 N25
  refine own_go st25 ?_
  show own_Gl p.tables e below F (T25.setTop (mkF m 349 #[.val (.int p1), .val (.int p2), .val (.int p3), .val (.int p4), .val (.int p5), .val (.long q6), .second, .val (.int cn), .val (.int ix), .val (.int vl), .val (.ref b1), .val (.ref b4), .val (.int (1 : Int32)), .val (.int ((4 : Int32) * ix)), .val (.int (((4 : Int32) * ix) + (4 : Int32)))] [(.int (1 : Int32))]))
  refine own_go (fun _ k => XS.ifNo X25.here hx rfl (hb hby at_349) rfl (XT.i0_eq_f (by decide)) k) ?_
  show own_Gl p.tables e below F (T25.setTop (mkF m 352 #[.val (.int p1), .val (.int p2), .val (.int p3), .val (.int p4), .val (.int p5), .val (.long q6), .second, .val (.int cn), .val (.int ix), .val (.int vl), .val (.ref b1), .val (.ref b4), .val (.int (1 : Int32)), .val (.int ((4 : Int32) * ix)), .val (.int (((4 : Int32) * ix) + (4 : Int32)))] []))
  refine own_go (fun _ k => XS.aload X25.here hx rfl (hb hby at_352) rfl rfl k) ?_
  show own_Gl p.tables e below F (T25.setTop (mkF m 354 #[.val (.int p1), .val (.int p2), .val (.int p3), .val (.int p4), .val (.int p5), .val (.long q6), .second, .val (.int cn), .val (.int ix), .val (.int vl), .val (.ref b1), .val (.ref b4), .val (.int (1 : Int32)), .val (.int ((4 : Int32) * ix)), .val (.int (((4 : Int32) * ix) + (4 : Int32)))] [(.ref b1)]))
  refine own_go (fun _ k => XS.bipush X25.here hx rfl (hb hby at_354) k) ?_
  show own_Gl p.tables e below F (T25.setTop (mkF m 356 #[.val (.int p1), .val (.int p2), .val (.int p3), .val (.int p4), .val (.int p5), .val (.long q6), .second, .val (.int cn), .val (.int ix), .val (.int vl), .val (.ref b1), .val (.ref b4), .val (.int (1 : Int32)), .val (.int ((4 : Int32) * ix)), .val (.int (((4 : Int32) * ix) + (4 : Int32)))] [(.int (12 : Int32)), (.ref b1)]))
  refine own_go (fun _ k => XS.iload X25.here hx rfl (hb hby at_356) rfl k) ?_
  show own_Gl p.tables e below F (T25.setTop (mkF m 358 #[.val (.int p1), .val (.int p2), .val (.int p3), .val (.int p4), .val (.int p5), .val (.long q6), .second, .val (.int cn), .val (.int ix), .val (.int vl), .val (.ref b1), .val (.ref b4), .val (.int (1 : Int32)), .val (.int ((4 : Int32) * ix)), .val (.int (((4 : Int32) * ix) + (4 : Int32)))] [(.int ((4 : Int32) * ix)), (.int (12 : Int32)), (.ref b1)]))
  refine own_go (fun _ k => XS.iload X25.here hx rfl (hb hby at_358) rfl k) ?_
  show own_Gl p.tables e below F (T25.setTop (mkF m 360 #[.val (.int p1), .val (.int p2), .val (.int p3), .val (.int p4), .val (.int p5), .val (.long q6), .second, .val (.int cn), .val (.int ix), .val (.int vl), .val (.ref b1), .val (.ref b4), .val (.int (1 : Int32)), .val (.int ((4 : Int32) * ix)), .val (.int (((4 : Int32) * ix) + (4 : Int32)))] [(.int (((4 : Int32) * ix) + (4 : Int32))), (.int ((4 : Int32) * ix)), (.int (12 : Int32)), (.ref b1)]))
  obtain ⟨_, _, ⟨T26, L26, k26, n26⟩, -, X26, ⟨Lc26, hQ26, l26, y26, z26⟩, st26⟩ := Jvm.LawKit.callS X25 hx (y := (⟨"com/example/palimpsest/palimpsest/storage/RecordWritesPlacePinLaw", "untouched", "([IIII)Z"⟩ : MethodName)) hown (mvT hZ (hw _ (List.mem_of_getElem? (i := 58) rfl))) (mvT hZ (hw _ (List.mem_of_getElem? (i := 59) rfl))) (mvT hZ (hw _ (List.mem_of_getElem? (i := 60) rfl))) (mvT hZ (hw _ (List.mem_of_getElem? (i := 61) rfl))) (by decide) (backOf (W := 0) (rm11 l Z a0 hw [] b1 (12 : Int32) ((4 : Int32) * ix) (((4 : Int32) * ix) + (4 : Int32)) ((4 : Int32) * cn) (own_put (fun _ => (.int (0 : Int32))) ix p2 p3 p4 vl) T7.heap n0 Z7 f7_1 (by decide) hU) hZ (hw _ (List.mem_of_getElem? (i := 61) rfl)) (hw _ (List.mem_of_getElem? (i := 60) rfl)) (by decide) (by decide)) (g := (mkF m 360 #[.val (.int p1), .val (.int p2), .val (.int p3), .val (.int p4), .val (.int p5), .val (.long q6), .second, .val (.int cn), .val (.int ix), .val (.int vl), .val (.ref b1), .val (.ref b4), .val (.int (1 : Int32)), .val (.int ((4 : Int32) * ix)), .val (.int (((4 : Int32) * ix) + (4 : Int32)))] [(.int (((4 : Int32) * ix) + (4 : Int32))), (.int ((4 : Int32) * ix)), (.int (12 : Int32)), (.ref b1)])) rfl (by rw [hml]; rfl) (argsL := [(.ref b1), (.int (12 : Int32)), (.int ((4 : Int32) * ix)), (.int (((4 : Int32) * ix) + (4 : Int32)))]) (rest := []) (lenOf pd_7 rfl) rfl (by show 2 * 0 + _ ≤ _; exact Nat.le_of_eq rfl) (hb hby at_360) (fun _ _ => ⟨rfl, e25, (by first | decide | exact Nat.le_of_ble_eq_true rfl), (by first | decide | exact Nat.le_of_ble_eq_true rfl)⟩)
  dsimp only [Pt.U, Pt.locs, Pt.cells, Pt.slots] at X26 l26 y26 z26 st26 hQ26
  obtain ⟨rfl, N26, e26⟩ := hQ26
  have X26 := own_sn X26 (k' := 4) (n' := 25) y26 z26
  have NF26 := own_fr l26 NF25 N26
  refine own_go st26 ?_
  show own_Gl p.tables e below F (T26.setTop (mkF m 363 #[.val (.int p1), .val (.int p2), .val (.int p3), .val (.int p4), .val (.int p5), .val (.long q6), .second, .val (.int cn), .val (.int ix), .val (.int vl), .val (.ref b1), .val (.ref b4), .val (.int (1 : Int32)), .val (.int ((4 : Int32) * ix)), .val (.int (((4 : Int32) * ix) + (4 : Int32)))] [(.int (1 : Int32))]))
  refine own_go (fun _ k => XS.ifNo X26.here hx rfl (hb hby at_363) rfl (XT.i0_eq_f (by decide)) k) ?_
  show own_Gl p.tables e below F (T26.setTop (mkF m 366 #[.val (.int p1), .val (.int p2), .val (.int p3), .val (.int p4), .val (.int p5), .val (.long q6), .second, .val (.int cn), .val (.int ix), .val (.int vl), .val (.ref b1), .val (.ref b4), .val (.int (1 : Int32)), .val (.int ((4 : Int32) * ix)), .val (.int (((4 : Int32) * ix) + (4 : Int32)))] []))
  refine own_go (fun _ k => XS.aload X26.here hx rfl (hb hby at_366) rfl rfl k) ?_
  show own_Gl p.tables e below F (T26.setTop (mkF m 368 #[.val (.int p1), .val (.int p2), .val (.int p3), .val (.int p4), .val (.int p5), .val (.long q6), .second, .val (.int cn), .val (.int ix), .val (.int vl), .val (.ref b1), .val (.ref b4), .val (.int (1 : Int32)), .val (.int ((4 : Int32) * ix)), .val (.int (((4 : Int32) * ix) + (4 : Int32)))] [(.ref b1)]))
  refine own_go (fun _ k => XS.bipush X26.here hx rfl (hb hby at_368) k) ?_
  show own_Gl p.tables e below F (T26.setTop (mkF m 370 #[.val (.int p1), .val (.int p2), .val (.int p3), .val (.int p4), .val (.int p5), .val (.long q6), .second, .val (.int cn), .val (.int ix), .val (.int vl), .val (.ref b1), .val (.ref b4), .val (.int (1 : Int32)), .val (.int ((4 : Int32) * ix)), .val (.int (((4 : Int32) * ix) + (4 : Int32)))] [(.int (13 : Int32)), (.ref b1)]))
  refine own_go (fun _ k => XS.iload X26.here hx rfl (hb hby at_370) rfl k) ?_
  show own_Gl p.tables e below F (T26.setTop (mkF m 372 #[.val (.int p1), .val (.int p2), .val (.int p3), .val (.int p4), .val (.int p5), .val (.long q6), .second, .val (.int cn), .val (.int ix), .val (.int vl), .val (.ref b1), .val (.ref b4), .val (.int (1 : Int32)), .val (.int ((4 : Int32) * ix)), .val (.int (((4 : Int32) * ix) + (4 : Int32)))] [(.int ((4 : Int32) * ix)), (.int (13 : Int32)), (.ref b1)]))
  refine own_go (fun _ k => XS.iload X26.here hx rfl (hb hby at_372) rfl k) ?_
  show own_Gl p.tables e below F (T26.setTop (mkF m 374 #[.val (.int p1), .val (.int p2), .val (.int p3), .val (.int p4), .val (.int p5), .val (.long q6), .second, .val (.int cn), .val (.int ix), .val (.int vl), .val (.ref b1), .val (.ref b4), .val (.int (1 : Int32)), .val (.int ((4 : Int32) * ix)), .val (.int (((4 : Int32) * ix) + (4 : Int32)))] [(.int (((4 : Int32) * ix) + (4 : Int32))), (.int ((4 : Int32) * ix)), (.int (13 : Int32)), (.ref b1)]))
  obtain ⟨_, _, ⟨T27, L27, k27, n27⟩, -, X27, ⟨Lc27, hQ27, l27, y27, z27⟩, st27⟩ := Jvm.LawKit.callS X26 hx (y := (⟨"com/example/palimpsest/palimpsest/storage/RecordWritesPlacePinLaw", "untouched", "([IIII)Z"⟩ : MethodName)) hown (mvT hZ (hw _ (List.mem_of_getElem? (i := 58) rfl))) (mvT hZ (hw _ (List.mem_of_getElem? (i := 59) rfl))) (mvT hZ (hw _ (List.mem_of_getElem? (i := 60) rfl))) (mvT hZ (hw _ (List.mem_of_getElem? (i := 61) rfl))) (by decide) (backOf (W := 0) (rm11 l Z a0 hw [] b1 (13 : Int32) ((4 : Int32) * ix) (((4 : Int32) * ix) + (4 : Int32)) ((4 : Int32) * cn) (own_put (fun _ => (.int (0 : Int32))) ix p2 p3 p4 vl) T7.heap n0 Z7 f7_1 (by decide) hU) hZ (hw _ (List.mem_of_getElem? (i := 61) rfl)) (hw _ (List.mem_of_getElem? (i := 60) rfl)) (by decide) (by decide)) (g := (mkF m 374 #[.val (.int p1), .val (.int p2), .val (.int p3), .val (.int p4), .val (.int p5), .val (.long q6), .second, .val (.int cn), .val (.int ix), .val (.int vl), .val (.ref b1), .val (.ref b4), .val (.int (1 : Int32)), .val (.int ((4 : Int32) * ix)), .val (.int (((4 : Int32) * ix) + (4 : Int32)))] [(.int (((4 : Int32) * ix) + (4 : Int32))), (.int ((4 : Int32) * ix)), (.int (13 : Int32)), (.ref b1)])) rfl (by rw [hml]; rfl) (argsL := [(.ref b1), (.int (13 : Int32)), (.int ((4 : Int32) * ix)), (.int (((4 : Int32) * ix) + (4 : Int32)))]) (rest := []) (lenOf pd_7 rfl) rfl (by show 2 * 0 + _ ≤ _; exact Nat.le_of_eq rfl) (hb hby at_374) (fun _ _ => ⟨rfl, e26, (by first | decide | exact Nat.le_of_ble_eq_true rfl), (by first | decide | exact Nat.le_of_ble_eq_true rfl)⟩)
  dsimp only [Pt.U, Pt.locs, Pt.cells, Pt.slots] at X27 l27 y27 z27 st27 hQ27
  obtain ⟨rfl, N27, e27⟩ := hQ27
  have X27 := own_sn X27 (k' := 4) (n' := 25) y27 z27
  have NF27 := own_fr l27 NF26 N27
  refine own_go st27 ?_
  show own_Gl p.tables e below F (T27.setTop (mkF m 377 #[.val (.int p1), .val (.int p2), .val (.int p3), .val (.int p4), .val (.int p5), .val (.long q6), .second, .val (.int cn), .val (.int ix), .val (.int vl), .val (.ref b1), .val (.ref b4), .val (.int (1 : Int32)), .val (.int ((4 : Int32) * ix)), .val (.int (((4 : Int32) * ix) + (4 : Int32)))] [(.int (1 : Int32))]))
  refine own_go (fun _ k => XS.ifNo X27.here hx rfl (hb hby at_377) rfl (XT.i0_eq_f (by decide)) k) ?_
  show own_Gl p.tables e below F (T27.setTop (mkF m 380 #[.val (.int p1), .val (.int p2), .val (.int p3), .val (.int p4), .val (.int p5), .val (.long q6), .second, .val (.int cn), .val (.int ix), .val (.int vl), .val (.ref b1), .val (.ref b4), .val (.int (1 : Int32)), .val (.int ((4 : Int32) * ix)), .val (.int (((4 : Int32) * ix) + (4 : Int32)))] []))
  refine own_go (fun _ k => XS.aload X27.here hx rfl (hb hby at_380) rfl rfl k) ?_
  show own_Gl p.tables e below F (T27.setTop (mkF m 382 #[.val (.int p1), .val (.int p2), .val (.int p3), .val (.int p4), .val (.int p5), .val (.long q6), .second, .val (.int cn), .val (.int ix), .val (.int vl), .val (.ref b1), .val (.ref b4), .val (.int (1 : Int32)), .val (.int ((4 : Int32) * ix)), .val (.int (((4 : Int32) * ix) + (4 : Int32)))] [(.ref b1)]))
  refine own_go (fun _ k => XS.bipush X27.here hx rfl (hb hby at_382) k) ?_
  show own_Gl p.tables e below F (T27.setTop (mkF m 384 #[.val (.int p1), .val (.int p2), .val (.int p3), .val (.int p4), .val (.int p5), .val (.long q6), .second, .val (.int cn), .val (.int ix), .val (.int vl), .val (.ref b1), .val (.ref b4), .val (.int (1 : Int32)), .val (.int ((4 : Int32) * ix)), .val (.int (((4 : Int32) * ix) + (4 : Int32)))] [(.int (14 : Int32)), (.ref b1)]))
  refine own_go (fun _ k => XS.iload X27.here hx rfl (hb hby at_384) rfl k) ?_
  show own_Gl p.tables e below F (T27.setTop (mkF m 386 #[.val (.int p1), .val (.int p2), .val (.int p3), .val (.int p4), .val (.int p5), .val (.long q6), .second, .val (.int cn), .val (.int ix), .val (.int vl), .val (.ref b1), .val (.ref b4), .val (.int (1 : Int32)), .val (.int ((4 : Int32) * ix)), .val (.int (((4 : Int32) * ix) + (4 : Int32)))] [(.int ((4 : Int32) * ix)), (.int (14 : Int32)), (.ref b1)]))
  refine own_go (fun _ k => XS.iload X27.here hx rfl (hb hby at_386) rfl k) ?_
  show own_Gl p.tables e below F (T27.setTop (mkF m 388 #[.val (.int p1), .val (.int p2), .val (.int p3), .val (.int p4), .val (.int p5), .val (.long q6), .second, .val (.int cn), .val (.int ix), .val (.int vl), .val (.ref b1), .val (.ref b4), .val (.int (1 : Int32)), .val (.int ((4 : Int32) * ix)), .val (.int (((4 : Int32) * ix) + (4 : Int32)))] [(.int (((4 : Int32) * ix) + (4 : Int32))), (.int ((4 : Int32) * ix)), (.int (14 : Int32)), (.ref b1)]))
  obtain ⟨_, _, ⟨T28, L28, k28, n28⟩, -, X28, ⟨Lc28, hQ28, l28, y28, z28⟩, st28⟩ := Jvm.LawKit.callS X27 hx (y := (⟨"com/example/palimpsest/palimpsest/storage/RecordWritesPlacePinLaw", "untouched", "([IIII)Z"⟩ : MethodName)) hown (mvT hZ (hw _ (List.mem_of_getElem? (i := 58) rfl))) (mvT hZ (hw _ (List.mem_of_getElem? (i := 59) rfl))) (mvT hZ (hw _ (List.mem_of_getElem? (i := 60) rfl))) (mvT hZ (hw _ (List.mem_of_getElem? (i := 61) rfl))) (by decide) (backOf (W := 0) (rm11 l Z a0 hw [] b1 (14 : Int32) ((4 : Int32) * ix) (((4 : Int32) * ix) + (4 : Int32)) ((4 : Int32) * cn) (own_put (fun _ => (.int (0 : Int32))) ix p2 p3 p4 vl) T7.heap n0 Z7 f7_1 (by decide) hU) hZ (hw _ (List.mem_of_getElem? (i := 61) rfl)) (hw _ (List.mem_of_getElem? (i := 60) rfl)) (by decide) (by decide)) (g := (mkF m 388 #[.val (.int p1), .val (.int p2), .val (.int p3), .val (.int p4), .val (.int p5), .val (.long q6), .second, .val (.int cn), .val (.int ix), .val (.int vl), .val (.ref b1), .val (.ref b4), .val (.int (1 : Int32)), .val (.int ((4 : Int32) * ix)), .val (.int (((4 : Int32) * ix) + (4 : Int32)))] [(.int (((4 : Int32) * ix) + (4 : Int32))), (.int ((4 : Int32) * ix)), (.int (14 : Int32)), (.ref b1)])) rfl (by rw [hml]; rfl) (argsL := [(.ref b1), (.int (14 : Int32)), (.int ((4 : Int32) * ix)), (.int (((4 : Int32) * ix) + (4 : Int32)))]) (rest := []) (lenOf pd_7 rfl) rfl (by show 2 * 0 + _ ≤ _; exact Nat.le_of_eq rfl) (hb hby at_388) (fun _ _ => ⟨rfl, e27, (by first | decide | exact Nat.le_of_ble_eq_true rfl), (by first | decide | exact Nat.le_of_ble_eq_true rfl)⟩)
  dsimp only [Pt.U, Pt.locs, Pt.cells, Pt.slots] at X28 l28 y28 z28 st28 hQ28
  obtain ⟨rfl, N28, e28⟩ := hQ28
  have X28 := own_sn X28 (k' := 4) (n' := 25) y28 z28
  have NF28 := own_fr l28 NF27 N28
  refine own_go st28 ?_
  show own_Gl p.tables e below F (T28.setTop (mkF m 391 #[.val (.int p1), .val (.int p2), .val (.int p3), .val (.int p4), .val (.int p5), .val (.long q6), .second, .val (.int cn), .val (.int ix), .val (.int vl), .val (.ref b1), .val (.ref b4), .val (.int (1 : Int32)), .val (.int ((4 : Int32) * ix)), .val (.int (((4 : Int32) * ix) + (4 : Int32)))] [(.int (1 : Int32))]))
  refine own_go (fun _ k => XS.ifNo X28.here hx rfl (hb hby at_391) rfl (XT.i0_eq_f (by decide)) k) ?_
  show own_Gl p.tables e below F (T28.setTop (mkF m 394 #[.val (.int p1), .val (.int p2), .val (.int p3), .val (.int p4), .val (.int p5), .val (.long q6), .second, .val (.int cn), .val (.int ix), .val (.int vl), .val (.ref b1), .val (.ref b4), .val (.int (1 : Int32)), .val (.int ((4 : Int32) * ix)), .val (.int (((4 : Int32) * ix) + (4 : Int32)))] []))
  refine own_go (fun _ k => XS.aload X28.here hx rfl (hb hby at_394) rfl rfl k) ?_
  show own_Gl p.tables e below F (T28.setTop (mkF m 396 #[.val (.int p1), .val (.int p2), .val (.int p3), .val (.int p4), .val (.int p5), .val (.long q6), .second, .val (.int cn), .val (.int ix), .val (.int vl), .val (.ref b1), .val (.ref b4), .val (.int (1 : Int32)), .val (.int ((4 : Int32) * ix)), .val (.int (((4 : Int32) * ix) + (4 : Int32)))] [(.ref b1)]))
  refine own_go (fun _ k => XS.bipush X28.here hx rfl (hb hby at_396) k) ?_
  show own_Gl p.tables e below F (T28.setTop (mkF m 398 #[.val (.int p1), .val (.int p2), .val (.int p3), .val (.int p4), .val (.int p5), .val (.long q6), .second, .val (.int cn), .val (.int ix), .val (.int vl), .val (.ref b1), .val (.ref b4), .val (.int (1 : Int32)), .val (.int ((4 : Int32) * ix)), .val (.int (((4 : Int32) * ix) + (4 : Int32)))] [(.int (15 : Int32)), (.ref b1)]))
  refine own_go (fun _ k => XS.iload X28.here hx rfl (hb hby at_398) rfl k) ?_
  show own_Gl p.tables e below F (T28.setTop (mkF m 400 #[.val (.int p1), .val (.int p2), .val (.int p3), .val (.int p4), .val (.int p5), .val (.long q6), .second, .val (.int cn), .val (.int ix), .val (.int vl), .val (.ref b1), .val (.ref b4), .val (.int (1 : Int32)), .val (.int ((4 : Int32) * ix)), .val (.int (((4 : Int32) * ix) + (4 : Int32)))] [(.int ((4 : Int32) * ix)), (.int (15 : Int32)), (.ref b1)]))
  refine own_go (fun _ k => XS.iload X28.here hx rfl (hb hby at_400) rfl k) ?_
  show own_Gl p.tables e below F (T28.setTop (mkF m 402 #[.val (.int p1), .val (.int p2), .val (.int p3), .val (.int p4), .val (.int p5), .val (.long q6), .second, .val (.int cn), .val (.int ix), .val (.int vl), .val (.ref b1), .val (.ref b4), .val (.int (1 : Int32)), .val (.int ((4 : Int32) * ix)), .val (.int (((4 : Int32) * ix) + (4 : Int32)))] [(.int (((4 : Int32) * ix) + (4 : Int32))), (.int ((4 : Int32) * ix)), (.int (15 : Int32)), (.ref b1)]))
  obtain ⟨_, _, ⟨T29, L29, k29, n29⟩, -, X29, ⟨Lc29, hQ29, l29, y29, z29⟩, st29⟩ := Jvm.LawKit.callS X28 hx (y := (⟨"com/example/palimpsest/palimpsest/storage/RecordWritesPlacePinLaw", "untouched", "([IIII)Z"⟩ : MethodName)) hown (mvT hZ (hw _ (List.mem_of_getElem? (i := 58) rfl))) (mvT hZ (hw _ (List.mem_of_getElem? (i := 59) rfl))) (mvT hZ (hw _ (List.mem_of_getElem? (i := 60) rfl))) (mvT hZ (hw _ (List.mem_of_getElem? (i := 61) rfl))) (by decide) (backOf (W := 0) (rm11 l Z a0 hw [] b1 (15 : Int32) ((4 : Int32) * ix) (((4 : Int32) * ix) + (4 : Int32)) ((4 : Int32) * cn) (own_put (fun _ => (.int (0 : Int32))) ix p2 p3 p4 vl) T7.heap n0 Z7 f7_1 (by decide) hU) hZ (hw _ (List.mem_of_getElem? (i := 61) rfl)) (hw _ (List.mem_of_getElem? (i := 60) rfl)) (by decide) (by decide)) (g := (mkF m 402 #[.val (.int p1), .val (.int p2), .val (.int p3), .val (.int p4), .val (.int p5), .val (.long q6), .second, .val (.int cn), .val (.int ix), .val (.int vl), .val (.ref b1), .val (.ref b4), .val (.int (1 : Int32)), .val (.int ((4 : Int32) * ix)), .val (.int (((4 : Int32) * ix) + (4 : Int32)))] [(.int (((4 : Int32) * ix) + (4 : Int32))), (.int ((4 : Int32) * ix)), (.int (15 : Int32)), (.ref b1)])) rfl (by rw [hml]; rfl) (argsL := [(.ref b1), (.int (15 : Int32)), (.int ((4 : Int32) * ix)), (.int (((4 : Int32) * ix) + (4 : Int32)))]) (rest := []) (lenOf pd_7 rfl) rfl (by show 2 * 0 + _ ≤ _; exact Nat.le_of_eq rfl) (hb hby at_402) (fun _ _ => ⟨rfl, e28, (by first | decide | exact Nat.le_of_ble_eq_true rfl), (by first | decide | exact Nat.le_of_ble_eq_true rfl)⟩)
  dsimp only [Pt.U, Pt.locs, Pt.cells, Pt.slots] at X29 l29 y29 z29 st29 hQ29
  obtain ⟨rfl, N29, e29⟩ := hQ29
  have X29 := own_sn X29 (k' := 4) (n' := 25) y29 z29
  have NF29 := own_fr l29 NF28 N29
  refine own_go st29 ?_
  show own_Gl p.tables e below F (T29.setTop (mkF m 405 #[.val (.int p1), .val (.int p2), .val (.int p3), .val (.int p4), .val (.int p5), .val (.long q6), .second, .val (.int cn), .val (.int ix), .val (.int vl), .val (.ref b1), .val (.ref b4), .val (.int (1 : Int32)), .val (.int ((4 : Int32) * ix)), .val (.int (((4 : Int32) * ix) + (4 : Int32)))] [(.int (1 : Int32))]))
  refine own_go (fun _ k => XS.ifNo X29.here hx rfl (hb hby at_405) rfl (XT.i0_eq_f (by decide)) k) ?_
  show own_Gl p.tables e below F (T29.setTop (mkF m 408 #[.val (.int p1), .val (.int p2), .val (.int p3), .val (.int p4), .val (.int p5), .val (.long q6), .second, .val (.int cn), .val (.int ix), .val (.int vl), .val (.ref b1), .val (.ref b4), .val (.int (1 : Int32)), .val (.int ((4 : Int32) * ix)), .val (.int (((4 : Int32) * ix) + (4 : Int32)))] []))
  refine own_go (fun _ k => XS.iconst X29.here hx rfl (hb hby at_408) k) ?_
  show own_Gl p.tables e below F (T29.setTop (mkF m 409 #[.val (.int p1), .val (.int p2), .val (.int p3), .val (.int p4), .val (.int p5), .val (.long q6), .second, .val (.int cn), .val (.int ix), .val (.int vl), .val (.ref b1), .val (.ref b4), .val (.int (1 : Int32)), .val (.int ((4 : Int32) * ix)), .val (.int (((4 : Int32) * ix) + (4 : Int32)))] [(.int (1 : Int32))]))
  refine own_go (fun _ k => XS.goto X29.here hx rfl (pc0 := 409) (pc' := 413) rfl (hb hby at_409) (by decide) (by decide) k) ?_
  show own_Gl p.tables e below F (T29.setTop (mkF m 413 #[.val (.int p1), .val (.int p2), .val (.int p3), .val (.int p4), .val (.int p5), .val (.long q6), .second, .val (.int cn), .val (.int ix), .val (.int vl), .val (.ref b1), .val (.ref b4), .val (.int (1 : Int32)), .val (.int ((4 : Int32) * ix)), .val (.int (((4 : Int32) * ix) + (4 : Int32)))] [(.int (1 : Int32))]))
  refine own_go (fun _ k => XS.istore X29.here hx rfl (hb hby at_413) rfl (l' := #[.val (.int p1), .val (.int p2), .val (.int p3), .val (.int p4), .val (.int p5), .val (.long q6), .second, .val (.int cn), .val (.int ix), .val (.int vl), .val (.ref b1), .val (.ref b4), .val (.int (1 : Int32)), .val (.int ((4 : Int32) * ix)), .val (.int (((4 : Int32) * ix) + (4 : Int32)))]) rfl k) ?_
  show own_Gl p.tables e below F (T29.setTop (mkF m 415 #[.val (.int p1), .val (.int p2), .val (.int p3), .val (.int p4), .val (.int p5), .val (.long q6), .second, .val (.int cn), .val (.int ix), .val (.int vl), .val (.ref b1), .val (.ref b4), .val (.int (1 : Int32)), .val (.int ((4 : Int32) * ix)), .val (.int (((4 : Int32) * ix) + (4 : Int32)))] []))
  refine own_go (fun _ k => XS.iload X29.here hx rfl (hb hby at_415) rfl k) ?_
  show own_Gl p.tables e below F (T29.setTop (mkF m 417 #[.val (.int p1), .val (.int p2), .val (.int p3), .val (.int p4), .val (.int p5), .val (.long q6), .second, .val (.int cn), .val (.int ix), .val (.int vl), .val (.ref b1), .val (.ref b4), .val (.int (1 : Int32)), .val (.int ((4 : Int32) * ix)), .val (.int (((4 : Int32) * ix) + (4 : Int32)))] [(.int (1 : Int32))]))
  obtain ⟨fs, hr, hrun, hended, hW, hsame⟩ := X29.leave (v := some (.int (1 : Int32))) (fun h => by rw [Bd.returns] at h; cases h)
  subst hF
  refine own_fin ?_ ⟨hrun, hended, _, _, rfl, ?_, ⟨_, rfl⟩, hW, hsame.mono (by first | decide | exact Nat.le_of_ble_eq_true rfl) (by first | decide | exact Nat.le_of_ble_eq_true rfl)⟩
  · exact own_retN X29 hx (t := .boolean) Bd.returns (by simp) rfl (hb hby at_417) hr
  · show Q_rm0 Z _ _ _ _ _ _ h0 n0 _ T29.heap _
    rw [e29]
    exact ⟨rfl, NF29⟩
set_option maxRecDepth 65536 in
set_option maxHeartbeats 40000000 in
theorem comes_1 {Post : Tables → Env → Array Value → State → Outcome → State → Prop} (hpost : ∀ tb e args s v u, (limb_1_1.after args s (.returned v) u = true ∧ limb_1_2.after args s (.returned v) u = true ∧ True) → FrameEnd s (.returned v) u (Jvm.fieldLocs frame_1_writes args s ++ Jvm.arrayLocs frame_1_arrays args s ++ Jvm.staticLocs frame_1_statics s) 16 128 → Post tb e args s (.returned v) u) :
    ArmFor flags0 classFile x code maxLocals ret World_1 tables_1 room_1 Calls_1 rest_1 Pre_1 Post := by
  intro l hfl _ _ p e ha hc hk s m args below hf hA hF happ hP
  obtain ⟨hcalls, hrest, hpre⟩ := hP
  obtain ⟨-, -, -, hnamed, -, -, -, hat⟩ := (Spec.applies_iff hf).mp happ
  obtain ⟨hg, hn⟩ := and_e (Cond.before_iff.mp (show (Jvm.Cond.and given_1 narrow_1).before args s = true from hpre))
  obtain ⟨gv1, gv2⟩ := and_e hg
  obtain ⟨gv3, gv4⟩ := and_e gv2
  obtain ⟨gv5, gv6⟩ := and_e gv4
  obtain ⟨gv7, gv8⟩ := and_e gv6
  obtain ⟨gv9, gv10⟩ := and_e gv8
  obtain ⟨gv11, gv12⟩ := and_e gv10
  obtain ⟨w0, w1, w2, w3, w4, w5, rfl⟩ : ∃ w0 w1 w2 w3 w4 w5 : Value, args = #[w0, w1, w2, w3, w4, w5] := by
    have hs : args.size = 6 := by simpa [Cond.value, given_1] using gv1
    obtain ⟨L⟩ := args
    match L, hs with
    | [w0, w1, w2, w3, w4, w5], _ => exact ⟨w0, w1, w2, w3, w4, w5, rfl⟩
  have hw := fun d (hd : d ∈ tables_1) => atoms_spec (ws := Jvm.Cond.code x code maxLocals ret :: tables_1) hat d (List.mem_cons_of_mem _ hd)
  have hfit : Fit s := fun {y c} hc i hi => by
    obtain ⟨ha, rfl⟩ := Array.getElem?_eq_some_iff.mp hc
    have q := List.all_eq_true.mp ((Array.all_eq_true_iff_forall_mem.mp hF) _ (Array.getElem_mem ha)) i (List.mem_range.mpr hi)
    simpa [Array.getElem?_eq_getElem hi] using q
  obtain ⟨i0, ei0⟩ := is_v gv3
  obtain rfl : w0 = (.int i0) := Option.some.inj ei0
  obtain ⟨i1, ei1⟩ := is_v gv5
  obtain rfl : w1 = (.int i1) := Option.some.inj ei1
  obtain ⟨i2, ei2⟩ := is_v gv7
  obtain rfl : w2 = (.int i2) := Option.some.inj ei2
  obtain ⟨i3, ei3⟩ := is_v gv9
  obtain rfl : w3 = (.int i3) := Option.some.inj ei3
  obtain ⟨i4, ei4⟩ := is_v gv11
  obtain rfl : w4 = (.int i4) := Option.some.inj ei4
  obtain ⟨i5, ei5⟩ := isL_v gv12
  obtain rfl : w5 = (.long i5) := Option.some.inj ei5
  obtain ⟨n, o, h1, h2, h3, _, L, rfl, ⟨rfl, N⟩, hq⟩ := rm0 l s _ hw tables_1 i0 i1 i2 i3 i4 i5  s.heap s.heap.size (Nat.le_refl _)  p e ha hc hk s m _ below hf ((Spec.applies_iff_loose hf).mp happ).1 ⟨rfl, State.Warmed39.refl s, rfl⟩ trivial
  refine ⟨n, _, h1, h2, h3, hpost _ _ _ _ _ _ ⟨Cond.after_iff.mpr rfl, Cond.after_iff.mpr (eq_i res_at (Term.int_eval (1)) rfl), trivial⟩ ⟨hq.1, hq.2.1, (hq.2.2.sift fun y hy => Or.inr (N y hy)).mono (by decide) (by decide)⟩⟩
theorem main_1_1 : Claimed_1_1 := comes_1 fun _ _ _ _ _ _ h hF => ⟨h.1, hF⟩
theorem main_1_2 : Claimed_1_2 := comes_1 fun _ _ _ _ _ _ h hF => ⟨h.2.1, hF⟩
end Jvm.Pilot.@@N@@
namespace Jvm.Pilot.@@N@@
open Jvm Jvm.ClassFile Sem Op Lib Jvm.Free Jvm.Stand Jvm.Pilot.@@N@@.Jvm.D
/-! MADE BY PROGRAM (witnessworld.py) out of the Statement's table words and the real class files: 9 classes; the members and pool entries that the words name. The judged class is class 1, her method 1. -/
namespace start1
open Jvm.ClassFile
def u (s : String) : CpInfo := .utf8 (stringToUtf16 s)
/-- a pool by its gaps: so many unusable entries, then the entry; so many at the end -/
def gap : Nat → List CpInfo → List CpInfo
  | 0, r => r
  | n + 1, r => .unusable :: gap n r
def poolList (es : List (Nat × CpInfo)) (last : Nat) : List CpInfo := es.foldr (fun e r => gap e.1 (e.2 :: r)) (gap last [])
def pool (es : List (Nat × CpInfo)) (last : Nat) : Array CpInfo := ⟨poolList es last⟩
def fileOf (pool : Array CpInfo) (this : Nat) (attrs : Array Attribute := #[]) (ms : Array MethodInfo := #[]) (fl : Nat := 33) (sup : Nat := 0) (ifs : Array Nat := #[]) (fds : Array FieldInfo := #[]) : ClassFile where
  minorVersion := 0
  majorVersion := 65
  constantPool := pool
  accessFlags := fl
  thisClass := this
  superClass := sup
  interfaces := ifs
  fields := fds
  methods := ms
  attributes := attrs
def plain (name : String) (sup : Option ClassId) : Class where
  name := name
  kind := .ordinary
  loader := none
  accessFlags := 33
  super := sup
  interfaces := #[]
  cf := none
  fields := #[]
  methods := #[]
  instanceTypes := #[]
  staticTypes := #[]
  resolved := #[]
  callSites := []
  init := .initialized
  statics := none
  mirror := none

def pool0 : Array CpInfo := pool [(5, u "<init>"), (0, u "()V"), (1, .class_ 10), (1, u "java/lang/Object")] 113

def k0c0 : Code := { maxStack := 0, maxLocals := 1, code := object_method_1_code, exceptionTable := #[], attributes := #[] }
def k0m0 : Method := { name := "<init>", desc := "()V", sig := { parameters := [], returnType := none }, accessFlags := 1, code := some k0c0 }
/-- java/lang/Object -/
def k0 : Class := { plain "java/lang/Object" none with
  accessFlags := 33
  interfaces := #[]
  cf := some (fileOf pool0 8 #[] #[{ accessFlags := 1, nameIndex := 5, descriptorIndex := 6, attributes := #[] }] 33 0 #[] #[])
  fields := #[]
  methods := #[k0m0]
  instanceTypes := #[]
  staticTypes := #[]
  resolved := Array.replicate 124 none
  statics := none }

def pool1 : Array CpInfo := pool [(2, .class_ 4), (1, u "java/lang/Object"), (0, u "<init>"), (0, u "()V"), (0, .methodref 8 9), (0, .class_ 10), (0, .nameAndType 11 12), (0, u "com/example/palimpsest/palimpsest/storage/RecordWrites"), (0, u "places"), (0, u "(I)[I"), (0, .methodref 8 14), (0, .nameAndType 15 16), (0, u "place"), (0, u "([IIIIII)V"), (0, .methodref 8 18), (0, .nameAndType 5 19), (0, u "([B[I[ILcom/example/palimpsest/palimpsest/storage/ValueFile;J)V"), (0, .methodref 8 21), (0, .nameAndType 22 23), (0, u "size"), (0, u "()I"), (0, .methodref 8 25), (0, .nameAndType 26 27), (0, u "keyAt"), (0, u "(I)I"), (0, .methodref 8 29), (0, .nameAndType 30 27), (0, u "keyLength"), (0, .methodref 8 32), (0, .nameAndType 33 27), (0, u "valueLength"), (0, .methodref 8 35), (0, .nameAndType 36 37), (0, u "valueOffset"), (0, u "(I)J"), (0, .methodref 8 39), (0, .nameAndType 40 41), (0, u "isDeletion"), (0, u "(I)Z"), (0, .methodref 43 44), (0, .class_ 45), (0, .nameAndType 46 47), (0, u "com/example/palimpsest/palimpsest/storage/RecordWritesPlacePinLaw"), (0, u "untouched"), (0, u "([IIII)Z"), (2, u "law"), (0, u "(IIIIIJ)Z")] 5

def k1m0 : Method := { name := "<init>", desc := "()V", sig := { parameters := [], returnType := none }, accessFlags := 1, code := none }
def k1c1 : Code := { maxStack := 8, maxLocals := 15, code := code, exceptionTable := #[], attributes := #[] }
def k1m1 : Method := { name := "law", desc := "(IIIIIJ)Z", sig := { parameters := [.int, .int, .int, .int, .int, .long], returnType := some .boolean }, accessFlags := 9, code := some k1c1 }
def k1c2 : Code := { maxStack := 2, maxLocals := 4, code := method_3_code, exceptionTable := #[], attributes := #[] }
def k1m2 : Method := { name := "untouched", desc := "([IIII)Z", sig := { parameters := [(.array .int), .int, .int, .int], returnType := some .boolean }, accessFlags := 10, code := some k1c2 }
/-- com/example/palimpsest/palimpsest/storage/RecordWritesPlacePinLaw -/
def k1 : Class := { plain "com/example/palimpsest/palimpsest/storage/RecordWritesPlacePinLaw" (some 0) with
  accessFlags := 49
  interfaces := #[]
  cf := some (fileOf pool1 43 #[] #[{ accessFlags := 1, nameIndex := 5, descriptorIndex := 6, attributes := #[] }, { accessFlags := 9, nameIndex := 50, descriptorIndex := 51, attributes := #[] }, { accessFlags := 10, nameIndex := 46, descriptorIndex := 47, attributes := #[] }] 49 2 #[] #[])
  fields := #[]
  methods := #[k1m0, k1m1, k1m2]
  instanceTypes := #[]
  staticTypes := #[]
  resolved := Array.replicate 57 none
  statics := none }

def pool2 : Array CpInfo := pool [(1, .methodref 2 3), (0, .class_ 4), (0, .nameAndType 5 6), (0, u "java/lang/Object"), (0, u "<init>"), (0, u "()V"), (0, .fieldref 8 9), (0, .class_ 10), (0, .nameAndType 11 12), (0, u "com/example/palimpsest/palimpsest/storage/RecordWrites"), (0, u "bytes"), (0, u "[B"), (0, .fieldref 8 14), (0, .nameAndType 15 16), (0, u "places"), (0, u "[I"), (0, .fieldref 8 18), (0, .nameAndType 19 16), (0, u "checksums"), (0, .fieldref 8 21), (0, .nameAndType 22 23), (0, u "file"), (0, u "Lcom/example/palimpsest/palimpsest/storage/ValueFile;"), (0, .fieldref 8 25), (0, .nameAndType 26 27), (0, u "valuesAt"), (0, u "J"), (0, .methodref 8 29), (0, .nameAndType 30 31), (0, u "valueLength"), (0, u "(I)I"), (2, u "size"), (0, u "()I"), (8, u "isDeletion"), (0, u "(I)Z"), (2, u "valueOffset"), (0, u "(I)J"), (9, u "DELETION"), (0, u "I"), (2, u "PLACES"), (1, u "KEY_AT"), (1, u "KEY_LENGTH"), (1, u "VALUE_AT"), (1, u "VALUE_LENGTH"), (1, u "([B[I[ILcom/example/palimpsest/palimpsest/storage/ValueFile;J)V"), (2, u "(I)[I"), (0, u "place"), (0, u "([IIIIII)V"), (1, u "keyAt"), (0, u "keyLength")] 10

def k2c0 : Code := { maxStack := 3, maxLocals := 7, code := prog_159_method_1_code, exceptionTable := #[], attributes := #[] }
def k2m0 : Method := { name := "<init>", desc := "([B[I[ILcom/example/palimpsest/palimpsest/storage/ValueFile;J)V", sig := { parameters := [(.array .byte), (.array .int), (.array .int), (.object "com/example/palimpsest/palimpsest/storage/ValueFile"), .long], returnType := none }, accessFlags := 0, code := some k2c0 }
def k2c1 : Code := { maxStack := 2, maxLocals := 1, code := prog_159_method_2_code, exceptionTable := #[], attributes := #[] }
def k2m1 : Method := { name := "places", desc := "(I)[I", sig := { parameters := [.int], returnType := some (.array .int) }, accessFlags := 8, code := some k2c1 }
def k2c2 : Code := { maxStack := 3, maxLocals := 7, code := prog_159_method_3_code, exceptionTable := #[], attributes := #[] }
def k2m2 : Method := { name := "place", desc := "([IIIIII)V", sig := { parameters := [(.array .int), .int, .int, .int, .int, .int], returnType := none }, accessFlags := 8, code := some k2c2 }
def k2c3 : Code := { maxStack := 3, maxLocals := 2, code := prog_159_method_5_code, exceptionTable := #[], attributes := #[] }
def k2m3 : Method := { name := "keyAt", desc := "(I)I", sig := { parameters := [.int], returnType := some .int }, accessFlags := 1, code := some k2c3 }
def k2c4 : Code := { maxStack := 3, maxLocals := 2, code := prog_159_method_6_code, exceptionTable := #[], attributes := #[] }
def k2m4 : Method := { name := "keyLength", desc := "(I)I", sig := { parameters := [.int], returnType := some .int }, accessFlags := 1, code := some k2c4 }
def k2c5 : Code := { maxStack := 3, maxLocals := 2, code := prog_159_method_7_code, exceptionTable := #[], attributes := #[] }
def k2m5 : Method := { name := "valueLength", desc := "(I)I", sig := { parameters := [.int], returnType := some .int }, accessFlags := 1, code := some k2c5 }
def k2c6 : Code := { maxStack := 2, maxLocals := 2, code := prog_159_method_8_code, exceptionTable := #[], attributes := #[] }
def k2m6 : Method := { name := "isDeletion", desc := "(I)Z", sig := { parameters := [.int], returnType := some .boolean }, accessFlags := 1, code := some k2c6 }
def k2c7 : Code := { maxStack := 5, maxLocals := 2, code := prog_159_method_10_code, exceptionTable := #[], attributes := #[] }
def k2m7 : Method := { name := "valueOffset", desc := "(I)J", sig := { parameters := [.int], returnType := some .long }, accessFlags := 1, code := some k2c7 }
def k2c8 : Code := { maxStack := 2, maxLocals := 1, code := prog_159_method_13_code, exceptionTable := #[], attributes := #[] }
def k2m8 : Method := { name := "size", desc := "()I", sig := { parameters := [], returnType := some .int }, accessFlags := 1, code := some k2c8 }
/-- com/example/palimpsest/palimpsest/storage/RecordWrites -/
def k2 : Class := { plain "com/example/palimpsest/palimpsest/storage/RecordWrites" (some 0) with
  accessFlags := 49
  interfaces := #[]
  cf := some (fileOf pool2 8 #[] #[{ accessFlags := 0, nameIndex := 5, descriptorIndex := 73, attributes := #[] }, { accessFlags := 8, nameIndex := 15, descriptorIndex := 76, attributes := #[] }, { accessFlags := 8, nameIndex := 77, descriptorIndex := 78, attributes := #[] }, { accessFlags := 1, nameIndex := 80, descriptorIndex := 31, attributes := #[] }, { accessFlags := 1, nameIndex := 81, descriptorIndex := 31, attributes := #[] }, { accessFlags := 1, nameIndex := 30, descriptorIndex := 31, attributes := #[] }, { accessFlags := 1, nameIndex := 44, descriptorIndex := 45, attributes := #[] }, { accessFlags := 1, nameIndex := 48, descriptorIndex := 49, attributes := #[] }, { accessFlags := 1, nameIndex := 34, descriptorIndex := 35, attributes := #[] }] 49 2 #[] #[{ accessFlags := 24, nameIndex := 59, descriptorIndex := 60, attributes := #[] }, { accessFlags := 26, nameIndex := 63, descriptorIndex := 60, attributes := #[] }, { accessFlags := 26, nameIndex := 65, descriptorIndex := 60, attributes := #[] }, { accessFlags := 26, nameIndex := 67, descriptorIndex := 60, attributes := #[] }, { accessFlags := 26, nameIndex := 69, descriptorIndex := 60, attributes := #[] }, { accessFlags := 26, nameIndex := 71, descriptorIndex := 60, attributes := #[] }, { accessFlags := 18, nameIndex := 11, descriptorIndex := 12, attributes := #[] }, { accessFlags := 18, nameIndex := 15, descriptorIndex := 16, attributes := #[] }, { accessFlags := 18, nameIndex := 19, descriptorIndex := 16, attributes := #[] }, { accessFlags := 18, nameIndex := 22, descriptorIndex := 23, attributes := #[] }, { accessFlags := 18, nameIndex := 26, descriptorIndex := 27, attributes := #[] }])
  fields := #[{ name := "DELETION", type := .int, accessFlags := 24, slot := 0, constantValue := 0 }, { name := "PLACES", type := .int, accessFlags := 26, slot := 1, constantValue := 0 }, { name := "KEY_AT", type := .int, accessFlags := 26, slot := 2, constantValue := 0 }, { name := "KEY_LENGTH", type := .int, accessFlags := 26, slot := 3, constantValue := 0 }, { name := "VALUE_AT", type := .int, accessFlags := 26, slot := 4, constantValue := 0 }, { name := "VALUE_LENGTH", type := .int, accessFlags := 26, slot := 5, constantValue := 0 }, { name := "bytes", type := (.array .byte), accessFlags := 18, slot := 0, constantValue := 0 }, { name := "places", type := (.array .int), accessFlags := 18, slot := 1, constantValue := 0 }, { name := "checksums", type := (.array .int), accessFlags := 18, slot := 2, constantValue := 0 }, { name := "file", type := (.object "com/example/palimpsest/palimpsest/storage/ValueFile"), accessFlags := 18, slot := 3, constantValue := 0 }, { name := "valuesAt", type := .long, accessFlags := 18, slot := 4, constantValue := 0 }]
  methods := #[k2m0, k2m1, k2m2, k2m3, k2m4, k2m5, k2m6, k2m7, k2m8]
  instanceTypes := #[(.array .byte), (.array .int), (.array .int), (.object "com/example/palimpsest/palimpsest/storage/ValueFile"), .long]
  staticTypes := #[.int, .int, .int, .int, .int, .int]
  resolved := Array.replicate 92 none
  statics := none }

def pool3 : Array CpInfo := pool [(1, u "java/lang/Cloneable"), (0, .class_ 1), (0, u "java/lang/Object"), (0, .class_ 3)] 3

/-- java/lang/Cloneable -/
def k3 : Class := { plain "java/lang/Cloneable" (some 0) with
  accessFlags := 1537
  interfaces := #[]
  cf := some (fileOf pool3 2 #[] #[] 1537 4 #[] #[])
  fields := #[]
  methods := #[]
  instanceTypes := #[]
  staticTypes := #[]
  resolved := Array.replicate 8 none
  statics := none }

def pool4 : Array CpInfo := pool [(1, u "java/io/Serializable"), (0, .class_ 1), (0, u "java/lang/Object"), (0, .class_ 3)] 3

/-- java/io/Serializable -/
def k4 : Class := { plain "java/io/Serializable" (some 0) with
  accessFlags := 1537
  interfaces := #[]
  cf := some (fileOf pool4 2 #[] #[] 1537 4 #[] #[])
  fields := #[]
  methods := #[]
  instanceTypes := #[]
  staticTypes := #[]
  resolved := Array.replicate 8 none
  statics := none }

/-- the primitive byte -/
def k5 : Class := { plain "byte" none with kind := .primitive 'B', accessFlags := 0x411 }
/-- [B -/
def k6 : Class := { plain "[B" (some 0) with kind := .array 5 .byte, interfaces := #[3, 4], accessFlags := 1041 }

/-- the primitive int -/
def k7 : Class := { plain "int" none with kind := .primitive 'I', accessFlags := 0x411 }
/-- [I -/
def k8 : Class := { plain "[I" (some 0) with kind := .array 7 .int, interfaces := #[3, 4], accessFlags := 1041 }

def heap : Heap := #[]
def classes : Array Class := #[k0, k1, k2, k3, k4, k5, k6, k7, k8]
def interned : List (Array UInt16 × Addr) := []
def slotsUsed : Nat := 0
def theMethod : MethodId := ⟨1, 1⟩
def args0 : Array Value := #[.int 5, .int 9, .int 2, .int 3, .int 4, .long 7]
def aboutOver (below : List Frame) : State where
  vm := { classes := classes, interned := interned.toArray }
  heap := heap
  slotsUsed := slotsUsed
  threads := #[{ frames := .invoking theMethod args0 :: below }]
def below0 : List Frame := [.native { method := ⟨0, 0⟩, args := #[] }]
def about1 : State := aboutOver below0
def p0 : Program := .bare "" "" ""
def e0 : Env := launch0.env 0 0 0
theorem w_frames : about1.frames = Frame.invoking theMethod args0 :: below0 := rfl
set_option maxRecDepth 65536 in
theorem w_args : argsFit about1.vm theMethod args0 = true := by decide +kernel
set_option maxRecDepth 65536 in
theorem w_heap : heapFits about1 = true := by decide +kernel
set_option maxRecDepth 65536 in
theorem w_runnable : about1.curStatus? = some .runnable := by decide +kernel
set_option maxRecDepth 65536 in
theorem w_alone : about1.alone = true := by decide +kernel
set_option maxRecDepth 65536 in
theorem w_named : about1.methodNamed? x = some theMethod := by decide +kernel
set_option maxRecDepth 65536 in
theorem w_hears : about1.hears theMethod below0 = true := by decide +kernel
set_option maxRecDepth 65536 in
theorem w_ripe : about1.ripe theMethod args0 below0 = true := by decide +kernel
theorem w_running : about1.status = .running := rfl
set_option maxRecDepth 65536 in
theorem w_room : about1.hasRoom e0.platform room_1 = true :=
  launch0.hasRoom_least _ room_1 (by decide +kernel) (by decide +kernel) (by decide +kernel) (by decide +kernel) (by decide +kernel) (by decide +kernel)
theorem allAtoms_all (ts : List Jvm.Cond) (a : Array Jvm.Value) (st : Jvm.State) : (allAtoms ts).before a st = ts.all (fun c => c.before a st) := by
  induction ts with
  | nil => rfl
  | cons c t ih =>
    show (Jvm.Cond.and c (allAtoms t)).before a st = _
    rw [Jvm.Cond.before_and, ih, List.all_cons]
def words1 : List Jvm.Cond := Jvm.Cond.code x code maxLocals ret :: tables_1
/-- a 'code' word, met by the world's own term for the bytes: nothing is compared byte by byte -/
theorem code_word {y : MethodName} {bytes : ByteArray} {mx : Nat} {rt : Option FieldType} {a : Array Value} {s : State} {m : MethodId} {meth : Method} {c : Code} (h1 : s.methodNamed? y = some m) (h2 : s.vm.method? m = some meth) (h3 : meth.code = some c) (h4 : c.code = bytes)
    (h5 : (c.maxLocals == mx && c.exceptionTable.isEmpty && decide (c.maxStack ≤ mostOperands) && decide (meth.sig.returnType = rt) && !meth.locks && decide (parseMethodDescriptor y.desc = some meth.sig)) = true) : (Jvm.Cond.code y bytes mx rt).before a s = true := by
  simp only [Bool.and_eq_true, beq_iff_eq, Bool.not_eq_true', decide_eq_true_eq] at h5
  obtain ⟨⟨⟨⟨⟨g1, g2⟩, g3⟩, g4⟩, g5⟩, g6⟩ := h5
  simp [Cond.before, Cond.holds, Cond.value, h1, h2, h3, h4, g1, g2, g3, g4, g5, g6]
def isCode : Jvm.Cond → Bool
  | .code _ _ _ _ => true
  | _ => false
theorem all_split {L : List Jvm.Cond} {P : Jvm.Cond → Bool} (h1 : L.all (fun c => isCode c || P c) = true) (h2 : ∀ c ∈ L.filter isCode, P c = true) : L.all P = true := by
  refine List.all_eq_true.mpr fun c hc => ?_
  have h := List.all_eq_true.mp h1 c hc
  rcases Bool.eq_false_or_eq_true (isCode c) with hi | hi
  · exact h2 c (List.mem_filter.mpr ⟨hc, hi⟩)
  · simpa [hi] using h
set_option maxRecDepth 65536 in
theorem w_c0 : (Jvm.Cond.code x code maxLocals ret).before args0 about1 = true := code_word (m := ⟨1, 1⟩) (meth := k1m1) (c := k1c1) (by decide +kernel) rfl rfl rfl (by decide +kernel)
set_option maxRecDepth 65536 in
theorem w_c1 : (Jvm.Cond.code ({ cls := "com/example/palimpsest/palimpsest/storage/RecordWrites", name := "places", desc := "(I)[I" } : Jvm.MethodName) prog_159_method_2_code (1 : Nat) (Option.some (Jvm.ClassFile.FieldType.array Jvm.ClassFile.FieldType.int))).before args0 about1 = true := code_word (m := ⟨2, 1⟩) (meth := k2m1) (c := k2c1) (by decide +kernel) rfl rfl rfl (by decide +kernel)
set_option maxRecDepth 65536 in
theorem w_c2 : (Jvm.Cond.code ({ cls := "com/example/palimpsest/palimpsest/storage/RecordWrites", name := "place", desc := "([IIIIII)V" } : Jvm.MethodName) prog_159_method_3_code (7 : Nat) (Option.none : Option Jvm.ClassFile.FieldType)).before args0 about1 = true := code_word (m := ⟨2, 2⟩) (meth := k2m2) (c := k2c2) (by decide +kernel) rfl rfl rfl (by decide +kernel)
set_option maxRecDepth 65536 in
theorem w_c3 : (Jvm.Cond.code ({ cls := "com/example/palimpsest/palimpsest/storage/RecordWrites", name := "<init>", desc := "([B[I[ILcom/example/palimpsest/palimpsest/storage/ValueFile;J)V" } : Jvm.MethodName) prog_159_method_1_code (7 : Nat) (Option.none : Option Jvm.ClassFile.FieldType)).before args0 about1 = true := code_word (m := ⟨2, 0⟩) (meth := k2m0) (c := k2c0) (by decide +kernel) rfl rfl rfl (by decide +kernel)
set_option maxRecDepth 65536 in
theorem w_c4 : (Jvm.Cond.code ({ cls := "java/lang/Object", name := "<init>", desc := "()V" } : Jvm.MethodName) object_method_1_code (1 : Nat) (Option.none : Option Jvm.ClassFile.FieldType)).before args0 about1 = true := code_word (m := ⟨0, 0⟩) (meth := k0m0) (c := k0c0) (by decide +kernel) rfl rfl rfl (by decide +kernel)
set_option maxRecDepth 65536 in
theorem w_c5 : (Jvm.Cond.code ({ cls := "com/example/palimpsest/palimpsest/storage/RecordWrites", name := "size", desc := "()I" } : Jvm.MethodName) prog_159_method_13_code (1 : Nat) (Option.some Jvm.ClassFile.FieldType.int)).before args0 about1 = true := code_word (m := ⟨2, 8⟩) (meth := k2m8) (c := k2c8) (by decide +kernel) rfl rfl rfl (by decide +kernel)
set_option maxRecDepth 65536 in
theorem w_c6 : (Jvm.Cond.code ({ cls := "com/example/palimpsest/palimpsest/storage/RecordWrites", name := "keyAt", desc := "(I)I" } : Jvm.MethodName) prog_159_method_5_code (2 : Nat) (Option.some Jvm.ClassFile.FieldType.int)).before args0 about1 = true := code_word (m := ⟨2, 3⟩) (meth := k2m3) (c := k2c3) (by decide +kernel) rfl rfl rfl (by decide +kernel)
set_option maxRecDepth 65536 in
theorem w_c7 : (Jvm.Cond.code ({ cls := "com/example/palimpsest/palimpsest/storage/RecordWrites", name := "keyLength", desc := "(I)I" } : Jvm.MethodName) prog_159_method_6_code (2 : Nat) (Option.some Jvm.ClassFile.FieldType.int)).before args0 about1 = true := code_word (m := ⟨2, 4⟩) (meth := k2m4) (c := k2c4) (by decide +kernel) rfl rfl rfl (by decide +kernel)
set_option maxRecDepth 65536 in
theorem w_c8 : (Jvm.Cond.code ({ cls := "com/example/palimpsest/palimpsest/storage/RecordWrites", name := "valueLength", desc := "(I)I" } : Jvm.MethodName) prog_159_method_7_code (2 : Nat) (Option.some Jvm.ClassFile.FieldType.int)).before args0 about1 = true := code_word (m := ⟨2, 5⟩) (meth := k2m5) (c := k2c5) (by decide +kernel) rfl rfl rfl (by decide +kernel)
set_option maxRecDepth 65536 in
theorem w_c9 : (Jvm.Cond.code ({ cls := "com/example/palimpsest/palimpsest/storage/RecordWrites", name := "valueOffset", desc := "(I)J" } : Jvm.MethodName) prog_159_method_10_code (2 : Nat) (Option.some Jvm.ClassFile.FieldType.long)).before args0 about1 = true := code_word (m := ⟨2, 7⟩) (meth := k2m7) (c := k2c7) (by decide +kernel) rfl rfl rfl (by decide +kernel)
set_option maxRecDepth 65536 in
theorem w_c10 : (Jvm.Cond.code ({ cls := "com/example/palimpsest/palimpsest/storage/RecordWrites", name := "isDeletion", desc := "(I)Z" } : Jvm.MethodName) prog_159_method_8_code (2 : Nat) (Option.some Jvm.ClassFile.FieldType.boolean)).before args0 about1 = true := code_word (m := ⟨2, 6⟩) (meth := k2m6) (c := k2c6) (by decide +kernel) rfl rfl rfl (by decide +kernel)
set_option maxRecDepth 65536 in
theorem w_c11 : (Jvm.Cond.code ({ cls := "com/example/palimpsest/palimpsest/storage/RecordWritesPlacePinLaw", name := "untouched", desc := "([IIII)Z" } : Jvm.MethodName) method_3_code (4 : Nat) (Option.some Jvm.ClassFile.FieldType.boolean)).before args0 about1 = true := code_word (m := ⟨1, 2⟩) (meth := k1m2) (c := k1c2) (by decide +kernel) rfl rfl rfl (by decide +kernel)
def codes1 : List Jvm.Cond := [Jvm.Cond.code x code maxLocals ret, Jvm.Cond.code ({ cls := "com/example/palimpsest/palimpsest/storage/RecordWrites", name := "places", desc := "(I)[I" } : Jvm.MethodName) prog_159_method_2_code (1 : Nat) (Option.some (Jvm.ClassFile.FieldType.array Jvm.ClassFile.FieldType.int)), Jvm.Cond.code ({ cls := "com/example/palimpsest/palimpsest/storage/RecordWrites", name := "place", desc := "([IIIIII)V" } : Jvm.MethodName) prog_159_method_3_code (7 : Nat) (Option.none : Option Jvm.ClassFile.FieldType), Jvm.Cond.code ({ cls := "com/example/palimpsest/palimpsest/storage/RecordWrites", name := "<init>", desc := "([B[I[ILcom/example/palimpsest/palimpsest/storage/ValueFile;J)V" } : Jvm.MethodName) prog_159_method_1_code (7 : Nat) (Option.none : Option Jvm.ClassFile.FieldType), Jvm.Cond.code ({ cls := "java/lang/Object", name := "<init>", desc := "()V" } : Jvm.MethodName) object_method_1_code (1 : Nat) (Option.none : Option Jvm.ClassFile.FieldType), Jvm.Cond.code ({ cls := "com/example/palimpsest/palimpsest/storage/RecordWrites", name := "size", desc := "()I" } : Jvm.MethodName) prog_159_method_13_code (1 : Nat) (Option.some Jvm.ClassFile.FieldType.int), Jvm.Cond.code ({ cls := "com/example/palimpsest/palimpsest/storage/RecordWrites", name := "keyAt", desc := "(I)I" } : Jvm.MethodName) prog_159_method_5_code (2 : Nat) (Option.some Jvm.ClassFile.FieldType.int), Jvm.Cond.code ({ cls := "com/example/palimpsest/palimpsest/storage/RecordWrites", name := "keyLength", desc := "(I)I" } : Jvm.MethodName) prog_159_method_6_code (2 : Nat) (Option.some Jvm.ClassFile.FieldType.int), Jvm.Cond.code ({ cls := "com/example/palimpsest/palimpsest/storage/RecordWrites", name := "valueLength", desc := "(I)I" } : Jvm.MethodName) prog_159_method_7_code (2 : Nat) (Option.some Jvm.ClassFile.FieldType.int), Jvm.Cond.code ({ cls := "com/example/palimpsest/palimpsest/storage/RecordWrites", name := "valueOffset", desc := "(I)J" } : Jvm.MethodName) prog_159_method_10_code (2 : Nat) (Option.some Jvm.ClassFile.FieldType.long), Jvm.Cond.code ({ cls := "com/example/palimpsest/palimpsest/storage/RecordWrites", name := "isDeletion", desc := "(I)Z" } : Jvm.MethodName) prog_159_method_8_code (2 : Nat) (Option.some Jvm.ClassFile.FieldType.boolean), Jvm.Cond.code ({ cls := "com/example/palimpsest/palimpsest/storage/RecordWritesPlacePinLaw", name := "untouched", desc := "([IIII)Z" } : Jvm.MethodName) method_3_code (4 : Nat) (Option.some Jvm.ClassFile.FieldType.boolean)]
set_option maxRecDepth 65536 in
theorem codes_eq : words1.filter isCode = codes1 := rfl
theorem w_codes : ∀ c ∈ words1.filter isCode, c.before args0 about1 = true := by
  rw [codes_eq]
  intro c hc
  simp only [codes1, List.mem_cons, List.not_mem_nil, or_false] at hc
  rcases hc with rfl | rfl | rfl | rfl | rfl | rfl | rfl | rfl | rfl | rfl | rfl | rfl
  · exact w_c0
  · exact w_c1
  · exact w_c2
  · exact w_c3
  · exact w_c4
  · exact w_c5
  · exact w_c6
  · exact w_c7
  · exact w_c8
  · exact w_c9
  · exact w_c10
  · exact w_c11
set_option maxRecDepth 65536 in
theorem w_t1 : (words1.take 24).all (fun c => isCode c || c.before args0 about1) = true := by decide +kernel
set_option maxRecDepth 65536 in
theorem w_t2 : ((words1.drop 24).take 24).all (fun c => isCode c || c.before args0 about1) = true := by decide +kernel
set_option maxRecDepth 65536 in
theorem w_t3 : ((words1.drop 24).drop 24).all (fun c => isCode c || c.before args0 about1) = true := by decide +kernel
theorem w_tables : (allAtoms (Jvm.Cond.code x code maxLocals ret :: tables_1)).before args0 about1 = true := by
  rw [allAtoms_all]
  show words1.all (fun c => c.before args0 about1) = true
  refine all_split ?_ w_codes
  rw [← List.take_append_drop 24 words1, List.all_append, w_t1, ← List.take_append_drop 24 (words1.drop 24), List.all_append, w_t2, w_t3]
  rfl
set_option maxRecDepth 65536 in
theorem w_case : (Jvm.Cond.and given_1 narrow_1).before args0 about1 = true := by decide +kernel
theorem w_applies : (headSpec (Jvm.Cond.code x code maxLocals ret :: tables_1) room_1).applies x e0.platform about1 = true :=
  (Spec.applies_iff w_frames).mpr ⟨w_running, w_runnable, w_alone, w_named, w_hears, w_ripe, w_room, w_tables⟩
theorem atStart : AtStart classFile x code maxLocals ret World_1 tables_1 room_1 Calls_1 rest_1 Pre_1 launch0 p0 e0 about1 theMethod args0 below0 :=
  ⟨lists_1, trivial, launch0.admits_env _ _ _, launch0.least_env, fairChoices_fair.cas, fairChoices_fair.clock, w_frames, w_args, w_heap, w_applies, trivial, trivial, w_case⟩
end start1
theorem witness_1 : WitnessClaimed_1 := ⟨start1.p0, start1.e0, start1.about1, start1.theMethod, start1.args0, start1.below0, start1.atStart⟩
end Jvm.Pilot.@@N@@
