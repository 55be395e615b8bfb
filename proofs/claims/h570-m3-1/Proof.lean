import JvmDerived
import JvmDerived.Pilot.@@N@@Statement
import JvmDerived.Pilot.@@N@@Code
set_option linter.unusedVariables false
set_option linter.unusedSimpArgs false
namespace Jvm.RoadKit
open Sem ClassFile Op Lib Jvm.Stand Jvm.Free Jvm.LawKit
section New
variable {p : Program} {l : Launch} {e : Env} {R : Room} {s : State} {m : MethodId} {args : Array Value} {below : List Frame} {meth : Method} {c : Code} {T : State} {locs : List Loc} {cells slots : Nat}
theorem retI (X : Stand p l e R s m args below meth c T locs cells slots) (hx : p.tables.exec = Jvm.exec) {pc : Nat} {Ls : Array Slot} {z : Int32} {rest : List Value} (hret : meth.sig.returnType = some .int) (hd : decode c.code pc = .ok (.ireturn, 1)) {fs : List Frame}
    (hl : ∀ (f : JFrame) (acts : List Action), f.method = m → f.locked = none → f.entered = [] → (doReturn e (T.setTop f) acts (some (.int z))).1 = T.setFrames fs) : Steps p.tables e below (T.setTop (mkF m pc Ls (.int z :: rest))) (T.setFrames fs) := by
  have hm' : T.vm.method? m = some meth := X.method'
  have hn : narrow .int (.int z) = .int z := rfl
  show Steps p.tables e below (T.setTop { method := m, pc := pc, locals := Ls, stack := _ :: rest, locked := none }) _
  jvm_step X.here [X.here.top, hx, hd, hm', hret, hn]
  first | (intro acts; rw [hl _ acts rfl rfl rfl]) | rw [hl _ _ rfl rfl rfl]
  exact Steps.refl _
theorem own_retJ (X : Stand p l e R s m args below meth c T locs cells slots) (hx : p.tables.exec = Jvm.exec) {pc : Nat} {Ls : Array Slot} {z : Int64} {rest : List Value} (hret : meth.sig.returnType = some .long) (hd : decode c.code pc = .ok (.lreturn, 1)) {fs : List Frame}
    (hl : ∀ (f : JFrame) (acts : List Action), f.method = m → f.locked = none → f.entered = [] → (doReturn e (T.setTop f) acts (some (.long z))).1 = T.setFrames fs) : Steps p.tables e below (T.setTop (mkF m pc Ls (.long z :: rest))) (T.setFrames fs) :=
  retOut X hx hret rfl (Or.inr (Or.inl ⟨rfl, rfl, z, rfl⟩)) hd hl
theorem own_retA (X : Stand p l e R s m args below meth c T locs cells slots) (hx : p.tables.exec = Jvm.exec) {pc : Nat} {Ls : Array Slot} {w : Value} {t : FieldType} {rest : List Value} (hret : meth.sig.returnType = some t) (ht : t.isReference = true) (hw : w.isRef = true) (hd : decode c.code pc = .ok (.areturn, 1)) {fs : List Frame}
    (hl : ∀ (f : JFrame) (acts : List Action), f.method = m → f.locked = none → f.entered = [] → (doReturn e (T.setTop f) acts (some w)).1 = T.setFrames fs) : Steps p.tables e below (T.setTop (mkF m pc Ls (w :: rest))) (T.setFrames fs) :=
  retOut X hx hret (by rcases ref_cases hw with rfl | ⟨a, rfl⟩ <;> cases t <;> first | rfl | (simp [FieldType.isReference] at ht)) (Or.inr (Or.inr (Or.inr (Or.inr ⟨rfl, ht, hw⟩)))) hd hl
theorem own_retN (X : Stand p l e R s m args below meth c T locs cells slots) (hx : p.tables.exec = Jvm.exec) {pc : Nat} {Ls : Array Slot} {z z' : Int32} {t : FieldType} {rest : List Value} (hret : meth.sig.returnType = some t) (ht : t = .boolean ∨ t = .byte ∨ t = .char ∨ t = .short) (hz : nar t z = z')
    (hd : decode c.code pc = .ok (.ireturn, 1)) {fs : List Frame} (hl : ∀ (f : JFrame) (acts : List Action), f.method = m → f.locked = none → f.entered = [] → (doReturn e (T.setTop f) acts (some (.int z'))).1 = T.setFrames fs) :
    Steps p.tables e below (T.setTop (mkF m pc Ls (.int z :: rest))) (T.setFrames fs) := by subst hz; exact retN X hx hret ht hd hl
/-- from a state, some run leads to an end that F takes -/
def own_Gl (tb : Tables) (e : Env) (below : List Frame) (F : State → Outcome → Prop) (st : State) : Prop := ∃ s₂ o, Steps tb e below st s₂ ∧ F s₂ o
theorem own_go {tb : Tables} {F : State → Outcome → Prop} {st st' : State} (h : ∀ t, Steps tb e below st' t → Steps tb e below st t) (g : own_Gl tb e below F st') : own_Gl tb e below F st := by
  obtain ⟨t, o, k, r⟩ := g; exact ⟨t, o, h t k, r⟩
theorem own_fin {tb : Tables} {F : State → Outcome → Prop} {st t : State} {o : Outcome} (h : Steps tb e below st t) (r : F t o) : own_Gl tb e below F st := ⟨t, o, h, r⟩
theorem own_start {tb : Tables} {G : State → Outcome → Prop} {g g' : JFrame} (q : g = g') (k : ∀ F, F = G → own_Gl tb e below F (T.setTop g')) : ∃ s₂ o, Steps tb e below (T.setTop g) s₂ ∧ G s₂ o := by subst q; exact k G rfl
/-- the counts of a stand as plain numbers -/
theorem own_sn {k k' n n' : Nat} {L : List Loc} (X : Stand p l e R s m args below meth c T L k n) (hk : k = k') (hn : n = n') : Stand p l e R s m args below meth c T L k' n' := by subst hk hn; exact X
theorem own_fr {n0 : Nat} {L A B : List Loc} (q : L = A ++ B) (NA : Fr n0 A) (NB : Fr n0 B) : Fr n0 L := by subst q; exact Fr.app NA NB
theorem own_frn {n0 : Nat} {L : List Loc} (q : L = []) : Fr n0 L := by subst q; exact Fr.nil n0
end New
/-- an array of length z whose place j holds g j -/
def own_A (Z : State) (h : Heap) (a : Addr) (ty : FieldType) (z : Int32) (g : Nat → Value) : Prop := ∃ c : Cell, Arr Z h a c ty ∧ c.slots.size = z.toNatClampNeg ∧ ¬ z < 0 ∧ ∀ j, j < c.slots.size → c.slots[j]? = some (g j)
section OwnA
variable {Z : State} {h h' : Heap} {a b : Addr} {ty : FieldType} {z : Int32} {g : Nat → Value} {sl : Nat} {v : Value} {ws : List Addr}
theorem own_A.lt (F : own_A Z h a ty z g) : a < h.size := by obtain ⟨c, A, -⟩ := F; exact A.lt
theorem own_A.ext (F : own_A Z h a ty z g) (E : Ext h h') : own_A Z h' a ty z g := by obtain ⟨c, A, r⟩ := F; exact ⟨c, A.ext E, r⟩
theorem own_A.other (F : own_A Z h b ty z g) (W : Wr h h' a sl v) (q : b ≠ a) : own_A Z h' b ty z g := by obtain ⟨c, A, r⟩ := F; exact ⟨c, A.other W q, r⟩
theorem own_A.keep (F : own_A Z h a ty z g) (K : Keep h h' ws) (q : a ∉ ws) : own_A Z h' a ty z g := by obtain ⟨c, A, r⟩ := F; exact ⟨c, ⟨K.2.1 a c A.1 q, A.2⟩, r⟩
theorem own_A.set (F : own_A Z h a ty z g) {i : Nat} (W : Wr h h' a i v) : own_A Z h' a ty z (fun k => if k = i then v else g k) := by
  obtain ⟨c, A, S, N, H⟩ := F
  refine ⟨_, A.same W, by rw [sz_set]; exact S, N, fun j hj => ?_⟩
  rw [sz_set] at hj
  by_cases u : j = i
  · subst u; simp [Cell.setSlot, hj]
  · show _ = some (if j = i then v else g j)
    rw [if_neg u]; simp only [Cell.setSlot]; rw [Array.getElem?_setIfInBounds_ne (fun q => u q.symm)]; exact H j hj
theorem own_A.new {k : ClassId} (A : Arr Z h a (newA k ty z) ty) (q : ¬ z < 0) : own_A Z h a ty z (fun _ => defaultValue ty) := by
  obtain ⟨c, A', -, S, N, H, -⟩ := Arv.new A q
  exact ⟨c, A', S, N, fun j hj => H j hj⟩
theorem own_A.of (F : own_A Z h a ty z g) {g' : Nat → Value} (q : ∀ j, j < z.toNatClampNeg → g j = g' j) : own_A Z h a ty z g' := by
  obtain ⟨c, A, S, N, H⟩ := F; exact ⟨c, A, S, N, fun j hj => by rw [← q j (S ▸ hj)]; exact H j hj⟩
end OwnA
end Jvm.RoadKit
namespace Jvm.Pilot.@@N@@
open Jvm Jvm.ClassFile Sem Op Lib Jvm.Free Jvm.Stand Jvm.LawKit Jvm.RoadKit Bundle Jvm.Pilot.@@N@@.Jvm.D

def own_min (x y : Int64) : Int64 := if y < x then y else x
def own_max (x y : Int64) : Int64 := if x < y then y else x
theorem own_min_i (x y : Int64) : (own_min x y).toInt = min x.toInt y.toInt := by
  unfold own_min; by_cases h : y < x
  · rw [if_pos h]; rw [Int64.lt_iff_toInt_lt] at h; omega
  · rw [if_neg h]; rw [Int64.lt_iff_toInt_lt] at h; omega
theorem own_max_i (x y : Int64) : (own_max x y).toInt = max x.toInt y.toInt := by
  unfold own_max; by_cases h : x < y
  · rw [if_pos h]; rw [Int64.lt_iff_toInt_lt] at h; omega
  · rw [if_neg h]; rw [Int64.lt_iff_toInt_lt] at h; omega
def own_fl (f : Int → Int64) : Nat → Value := fun j => .long (f (j : Int))
def own_upd (f : Int → Int64) (i : Int) (v : Int64) : Int → Int64 := fun t => if t = i then v else f t
def own_swap (f : Int → Int64) (i j : Int) : Int → Int64 := own_upd (own_upd f i (f j)) j (f i)
theorem own_clamp {I : Int32} (h : 0 ≤ I.toInt) : ((I.toNatClampNeg : Nat) : Int) = I.toInt := by simp only [Int32.toNatClampNeg]; omega
theorem own_at (f : Int → Int64) {I : Int32} (h : 0 ≤ I.toInt) : own_fl f I.toNatClampNeg = .long (f I.toInt) := by
  unfold own_fl; rw [own_clamp h]
theorem own_set (f : Int → Int64) {I : Int32} (h : 0 ≤ I.toInt) (v : Int64) (k : Nat) : (if k = I.toNatClampNeg then .long v else own_fl f k) = own_fl (own_upd f I.toInt v) k := by
  unfold own_fl own_upd
  have e := own_clamp h
  by_cases q : k = I.toNatClampNeg
  · rw [if_pos q, if_pos (by rw [q, e])]
  · rw [if_neg q, if_neg (by intro u; apply q; omega)]
theorem own_inb {I z : Int32} (h1 : 0 ≤ I.toInt) (h2 : I.toInt < z.toInt) : ¬ I < 0 ∧ I < z := by
  rw [Int32.lt_iff_toInt_lt, Int32.lt_iff_toInt_lt]
  have : (0 : Int32).toInt = 0 := rfl
  rw [this]; omega
theorem own_inc {I : Int32} (h1 : -1 ≤ I.toInt) (h2 : I.toInt ≤ 10) : (I + (1 : Int32)).toInt = I.toInt + 1 := by
  rw [Int32.toInt_add]
  have : (1 : Int32).toInt = 1 := rfl
  rw [this, Int.bmod_def]; omega
theorem own_dec {I : Int32} (h1 : -1 ≤ I.toInt) (h2 : I.toInt ≤ 10) : (I + (-1 : Int32)).toInt = I.toInt - 1 := by
  rw [Int32.toInt_add]
  have : (-1 : Int32).toInt = -1 := rfl
  rw [this, Int.bmod_def]; omega
theorem own_mid {L H : Int32} (h1 : 0 ≤ L.toInt) (h2 : L.toInt ≤ H.toInt) (h3 : H.toInt ≤ 10) : (L + (H - L) / (2 : Int32)).toInt = L.toInt + (H.toInt - L.toInt) / 2 := by
  have a1 : (H - L).toInt = H.toInt - L.toInt := by rw [Int32.toInt_sub, Int.bmod_def]; omega
  have a2 : ((H - L) / (2 : Int32)).toInt = (H.toInt - L.toInt) / 2 := by
    rw [Int32.toInt_div, a1]
    have : (2 : Int32).toInt = 2 := rfl
    rw [this, Int.tdiv_eq_ediv_of_nonneg (by omega), Int.bmod_def]; omega
  rw [Int32.toInt_add, a2, Int.bmod_def]; omega
theorem own_pred {z : Int32} (h1 : 1 ≤ z.toInt) (h2 : z.toInt ≤ 5) : (z - (1 : Int32)).toInt = z.toInt - 1 := by
  rw [Int32.toInt_sub]
  have : (1 : Int32).toInt = 1 := rfl
  rw [this, Int.bmod_def]; omega
/-- how many of the first n places hold a value that P takes -/
def own_cnt (P : Int64 → Bool) (f : Int → Int64) : Nat → Nat
  | 0 => 0
  | m + 1 => own_cnt P f m + (P (f (m : Int))).toNat
theorem own_cnt_s (P : Int64 → Bool) (f : Int → Int64) (m : Nat) : own_cnt P f (m + 1) = own_cnt P f m + (P (f (m : Int))).toNat := rfl
theorem own_cnt_out (P : Int64 → Bool) (f : Int → Int64) (i : Int) (v : Int64) : ∀ n : Nat, (n : Int) ≤ i → own_cnt P (own_upd f i v) n = own_cnt P f n := by
  intro n
  induction n with
  | zero => intro _; rfl
  | succ n ih =>
    intro h
    rw [own_cnt_s, own_cnt_s, ih (by omega)]
    have u : own_upd f i v (n : Int) = f n := by unfold own_upd; rw [if_neg (by omega)]
    rw [u]
theorem own_cnt_in (P : Int64 → Bool) (f : Int → Int64) (i : Int) (v : Int64) (h0 : 0 ≤ i) : ∀ n : Nat, i < (n : Int) → own_cnt P (own_upd f i v) n + (P (f i)).toNat = own_cnt P f n + (P v).toNat := by
  intro n
  induction n with
  | zero => intro h; omega
  | succ n ih =>
    intro h
    rw [own_cnt_s, own_cnt_s]
    by_cases e : i = (n : Int)
    · have u : own_upd f i v (n : Int) = v := by unfold own_upd; rw [if_pos e.symm]
      rw [u, own_cnt_out P f i v n (by omega), ← e]; omega
    · have u : own_upd f i v (n : Int) = f n := by unfold own_upd; rw [if_neg (fun q => e q.symm)]
      have := ih (by omega)
      rw [u]; omega
def own_perm (f g : Int → Int64) (n : Nat) : Prop := ∀ P : Int64 → Bool, own_cnt P f n = own_cnt P g n
theorem own_perm_swap (f : Int → Int64) {i j : Int} {n : Nat} (hi : 0 ≤ i ∧ i < (n : Int)) (hj : 0 ≤ j ∧ j < (n : Int)) : own_perm (own_swap f i j) f n := fun P => by
  have h1 := own_cnt_in P (own_upd f i (f j)) j (f i) hj.1 n hj.2
  have h2 := own_cnt_in P f i (f j) hi.1 n hi.2
  have h3 : own_upd f i (f j) j = f j := by unfold own_upd; by_cases e : j = i <;> simp [e]
  rw [h3] at h1
  unfold own_swap; omega
theorem own_swap_i (f : Int → Int64) (i j : Int) : own_swap f i j i = f j := by
  unfold own_swap own_upd; by_cases e : i = j <;> simp [e]
theorem own_swap_j (f : Int → Int64) (i j : Int) : own_swap f i j j = f i := by
  unfold own_swap own_upd; simp
theorem own_swap_o (f : Int → Int64) {i j t : Int} (h1 : t ≠ i) (h2 : t ≠ j) : own_swap f i j t = f t := by
  unfold own_swap own_upd; simp [h1, h2]
/-- the partition: what stands when the two scans have met -/
def own_part (f g : Int → Int64) (lo hi I J pv : Int) : Prop :=
  lo < I ∧ J < hi ∧ J < I ∧ I ≤ hi + 1 ∧ lo - 1 ≤ J ∧ (∀ t, t < lo ∨ hi < t → g t = f t) ∧ (∀ t, lo ≤ t → t ≤ hi → ∃ u, lo ≤ u ∧ u ≤ hi ∧ g t = f u) ∧ (∀ t, lo ≤ t → t < I → (g t).toInt ≤ pv) ∧ (∀ t, J < t → t ≤ hi → pv ≤ (g t).toInt)
/-- what goes through the partition's loop -/
def own_mode (f : Int → Int64) (lo hi I J pv : Int) : Prop :=
  lo ≤ I ∧ I ≤ hi + 1 ∧ J ≤ hi ∧ lo - 1 ≤ J ∧ (∀ t, lo ≤ t → t < I → (f t).toInt ≤ pv) ∧ (∀ t, J < t → t ≤ hi → pv ≤ (f t).toInt) ∧
  ((I ≤ J ∧ ∃ x y, I ≤ x ∧ x ≤ hi ∧ pv ≤ (f x).toInt ∧ lo ≤ y ∧ y ≤ J ∧ (f y).toInt ≤ pv ∧ (x ≤ y ∨ (lo < I ∧ J < hi))) ∨ (J < I ∧ lo < I ∧ J < hi))
theorem own_mode_swap {f : Int → Int64} {lo hi I J I' J' pv : Int} (h : own_mode f lo hi I J pv) (hI : I ≤ I') (hJ : J' ≤ J) (hIJ : I' ≤ J') (hs : ∀ t, I ≤ t → t < I' → (f t).toInt ≤ pv) (ht : ∀ t, J' < t → t ≤ J → pv ≤ (f t).toInt) (h1 : pv ≤ (f I').toInt) (h2 : (f J').toInt ≤ pv) :
    own_mode (own_swap f I' J') lo hi (I' + 1) (J' - 1) pv := by
  obtain ⟨a1, a2, a3, a4, a5, a6, a7⟩ := h
  have si := own_swap_i f I' J'
  have sj := own_swap_j f I' J'
  refine ⟨by omega, by omega, by omega, by omega, fun t q1 q2 => ?_, fun t q1 q2 => ?_, ?_⟩
  · by_cases e : t = I'
    · rw [e, si]; exact h2
    · rw [own_swap_o f e (by omega)]
      by_cases q : t < I
      · exact a5 t q1 q
      · exact hs t (by omega) (by omega)
  · by_cases e : t = J'
    · rw [e, sj]; exact h1
    · rw [own_swap_o f (by omega) e]
      by_cases q : J < t
      · exact a6 t q q2
      · exact ht t (by omega) (by omega)
  · by_cases q : I' + 1 ≤ J' - 1
    · exact Or.inl ⟨q, J', I', by omega, by omega, by rw [sj]; exact h1, by omega, by omega, by rw [si]; exact h2, Or.inr ⟨by omega, by omega⟩⟩
    · exact Or.inr ⟨by omega, by omega, by omega⟩
theorem own_mode_stop {f : Int → Int64} {lo hi I J I' J' pv x y : Int} (h : own_mode f lo hi I J pv) (hI : I ≤ I') (hJ : J' ≤ J) (hIJ : J' < I') (hx : I' ≤ x) (hx2 : x ≤ hi) (hy : y ≤ J') (hy2 : lo ≤ y) (hxy : x ≤ y ∨ (lo < I ∧ J < hi)) (hs : ∀ t, I ≤ t → t < I' → (f t).toInt ≤ pv) (ht : ∀ t, J' < t → t ≤ J → pv ≤ (f t).toInt) :
    own_mode f lo hi I' J' pv := by
  obtain ⟨a1, a2, a3, a4, a5, a6, a7⟩ := h
  refine ⟨by omega, by omega, by omega, by omega, fun t q1 q2 => ?_, fun t q1 q2 => ?_, Or.inr ⟨hIJ, by omega, by omega⟩⟩
  · by_cases q : t < I
    · exact a5 t q1 q
    · exact hs t (by omega) q2
  · by_cases q : J < t
    · exact a6 t q q2
    · exact ht t q1 (by omega)
theorem own_part_end {f : Int → Int64} {lo hi I J pv : Int} (h : own_mode f lo hi I J pv) (hIJ : J < I) : own_part f f lo hi I J pv := by
  obtain ⟨a1, a2, a3, a4, a5, a6, a7⟩ := h
  rcases a7 with ⟨q, -⟩ | ⟨-, b1, b2⟩
  · omega
  · exact ⟨b1, b2, hIJ, a2, a4, fun _ _ => rfl, fun t q1 q2 => ⟨t, q1, q2, rfl⟩, a5, a6⟩
theorem own_part_swap {f g : Int → Int64} {lo hi i j I J pv : Int} (hi1 : lo ≤ i ∧ i ≤ hi) (hj1 : lo ≤ j ∧ j ≤ hi) (h : own_part (own_swap f i j) g lo hi I J pv) : own_part f g lo hi I J pv := by
  obtain ⟨b1, b2, b3, b4, b5, b6, b7, b8, b9⟩ := h
  refine ⟨b1, b2, b3, b4, b5, fun t q => ?_, fun t q1 q2 => ?_, b8, b9⟩
  · rw [b6 t q, own_swap_o f (by omega) (by omega)]
  · obtain ⟨u, u1, u2, u3⟩ := b7 t q1 q2
    by_cases e1 : u = i
    · exact ⟨j, hj1.1, hj1.2, by rw [u3, e1, own_swap_i]⟩
    · by_cases e2 : u = j
      · exact ⟨i, hi1.1, hi1.2, by rw [u3, e2, own_swap_j]⟩
      · exact ⟨u, u1, u2, by rw [u3, own_swap_o f e1 e2]⟩
/-- what goes through the outer loop: the places below lo are no greater, those above hi no less -/
def own_out (f : Int → Int64) (lo hi k n : Int) : Prop :=
  0 ≤ lo ∧ lo ≤ k ∧ k ≤ hi ∧ hi < n ∧ (∀ x y, 0 ≤ x → x < lo → lo ≤ y → y < n → (f x).toInt ≤ (f y).toInt) ∧ (∀ x y, 0 ≤ x → x ≤ hi → hi < y → y < n → (f x).toInt ≤ (f y).toInt)
def own_sel (f : Int → Int64) (k n : Int) : Prop := (∀ x, 0 ≤ x → x < k → (f x).toInt ≤ (f k).toInt) ∧ (∀ y, k < y → y < n → (f k).toInt ≤ (f y).toInt)
theorem own_sel_end {f : Int → Int64} {lo hi k n : Int} (h : own_out f lo hi k n) (q : hi ≤ lo) : own_sel f k n := by
  obtain ⟨a1, a2, a3, a4, a5, a6⟩ := h
  exact ⟨fun x h1 h2 => a5 x k h1 (by omega) (by omega) (by omega), fun y h1 h2 => a6 k y (by omega) a3 (by omega) h2⟩
theorem own_le_old {f g : Int → Int64} {lo hi k n I J pv : Int} (h : own_out f lo hi k n) (P : own_part f g lo hi I J pv) : (∀ x y, 0 ≤ x → x < lo → lo ≤ y → y < n → (g x).toInt ≤ (g y).toInt) ∧ (∀ x y, 0 ≤ x → x ≤ hi → hi < y → y < n → (g x).toInt ≤ (g y).toInt) := by
  obtain ⟨a1, a2, a3, a4, a5, a6⟩ := h
  obtain ⟨b1, b2, b3, b4, b5, b6, b7, b8, b9⟩ := P
  constructor
  · intro x y q1 q2 q3 q4
    rw [b6 x (Or.inl q2)]
    by_cases e : y ≤ hi
    · obtain ⟨u, u1, u2, u3⟩ := b7 y q3 e
      rw [u3]; exact a5 x u q1 q2 u1 (by omega)
    · rw [b6 y (Or.inr (by omega))]; exact a5 x y q1 q2 q3 q4
  · intro x y q1 q2 q3 q4
    rw [b6 y (Or.inr q3)]
    by_cases e : x < lo
    · rw [b6 x (Or.inl e)]; exact a6 x y q1 q2 q3 q4
    · obtain ⟨u, u1, u2, u3⟩ := b7 x (by omega) q2
      rw [u3]; exact a6 u y (by omega) u2 q3 q4
theorem own_out_hi {f g : Int → Int64} {lo hi k n I J pv : Int} (h : own_out f lo hi k n) (P : own_part f g lo hi I J pv) (q : k ≤ J) : own_out g lo J k n := by
  obtain ⟨c1, c2⟩ := own_le_old h P
  obtain ⟨a1, a2, a3, a4, a5, a6⟩ := h
  obtain ⟨b1, b2, b3, b4, b5, b6, b7, b8, b9⟩ := P
  refine ⟨a1, a2, q, by omega, c1, fun x y q1 q2 q3 q4 => ?_⟩
  by_cases e : y ≤ hi
  · by_cases e2 : x < lo
    · exact c1 x y q1 e2 (by omega) q4
    · exact Int.le_trans (b8 x (by omega) (by omega)) (b9 y q3 e)
  · exact c2 x y q1 (by omega) (by omega) q4
theorem own_out_lo {f g : Int → Int64} {lo hi k n I J pv : Int} (h : own_out f lo hi k n) (P : own_part f g lo hi I J pv) (q : I ≤ k) : own_out g I hi k n := by
  obtain ⟨c1, c2⟩ := own_le_old h P
  obtain ⟨a1, a2, a3, a4, a5, a6⟩ := h
  obtain ⟨b1, b2, b3, b4, b5, b6, b7, b8, b9⟩ := P
  refine ⟨by omega, q, a3, a4, fun x y q1 q2 q3 q4 => ?_, c2⟩
  by_cases e : x < lo
  · exact c1 x y q1 e (by omega) q4
  · by_cases e2 : y ≤ hi
    · exact Int.le_trans (b8 x (by omega) q2) (b9 y (by omega) e2)
    · exact c2 x y q1 (by omega) (by omega) q4
theorem own_sel_mid {f g : Int → Int64} {lo hi k n I J pv : Int} (h : own_out f lo hi k n) (P : own_part f g lo hi I J pv) (q1 : J < k) (q2 : k < I) : own_sel g k n := by
  obtain ⟨c1, c2⟩ := own_le_old h P
  obtain ⟨a1, a2, a3, a4, a5, a6⟩ := h
  obtain ⟨b1, b2, b3, b4, b5, b6, b7, b8, b9⟩ := P
  constructor
  · intro x r1 r2
    by_cases e : x < lo
    · exact c1 x k r1 e a2 (by omega)
    · exact Int.le_trans (b8 x (by omega) (by omega)) (b9 k q1 a3)
  · intro y r1 r2
    by_cases e : y ≤ hi
    · exact Int.le_trans (b8 k a2 q2) (b9 y (by omega) e)
    · exact c2 k y (by omega) a3 (by omega) r2
theorem own_meas {I J I' J' I3 J3 : Int32} {d : Nat} (hd : (J.toInt - I.toInt + 1).toNat = d) (i1 : I3.toInt = I'.toInt + 1) (j1 : J3.toInt = J'.toInt - 1) (h1 : I.toInt ≤ I'.toInt) (h2 : J'.toInt ≤ J.toInt) (h3 : I'.toInt ≤ J'.toInt) : (J3.toInt - I3.toInt + 1).toNat < d := by
  rw [← hd, i1, j1]; omega
/-- slots of a long that stands or doesn't yet -/
def own_2 (s t : Slot) : Prop := (s = .unset ∧ t = .unset) ∨ ∃ v, s = .val (.long v) ∧ t = .second
def own_1 (s : Slot) : Prop := s = .unset ∨ ∃ v, s = .val (.int v)
theorem own_st4 {a : Addr} {K L H : Int32} {s4 s5 s6 s7 s8 s9 : Slot} {v : Int64} (h : own_2 s4 s5) : storeLocals #[.val (.ref a), .val (.int K), .val (.int L), .val (.int H), s4, s5, s6, s7, s8, s9] 4 (.long v) = some #[.val (.ref a), .val (.int K), .val (.int L), .val (.int H), .val (.long v), .second, s6, s7, s8, s9] := by
  rcases h with ⟨rfl, rfl⟩ | ⟨w, rfl, rfl⟩ <;> rfl
theorem own_st6 {a : Addr} {K L H : Int32} {s6 s7 s8 s9 : Slot} {v : Int64} {i : Int32} (h : own_1 s6) : storeLocals #[.val (.ref a), .val (.int K), .val (.int L), .val (.int H), .val (.long v), .second, s6, s7, s8, s9] 6 (.int i) = some #[.val (.ref a), .val (.int K), .val (.int L), .val (.int H), .val (.long v), .second, .val (.int i), s7, s8, s9] := by
  rcases h with rfl | ⟨w, rfl⟩ <;> rfl
theorem own_st7 {a : Addr} {K L H : Int32} {s7 s8 s9 : Slot} {v : Int64} {i j : Int32} (h : own_1 s7) : storeLocals #[.val (.ref a), .val (.int K), .val (.int L), .val (.int H), .val (.long v), .second, .val (.int i), s7, s8, s9] 7 (.int j) = some #[.val (.ref a), .val (.int K), .val (.int L), .val (.int H), .val (.long v), .second, .val (.int i), .val (.int j), s8, s9] := by
  rcases h with rfl | ⟨w, rfl⟩ <;> rfl
theorem own_st8 {a : Addr} {K L H : Int32} {s8 s9 : Slot} {v w : Int64} {i j : Int32} (h : own_2 s8 s9) : storeLocals #[.val (.ref a), .val (.int K), .val (.int L), .val (.int H), .val (.long v), .second, .val (.int i), .val (.int j), s8, s9] 8 (.long w) = some #[.val (.ref a), .val (.int K), .val (.int L), .val (.int H), .val (.long v), .second, .val (.int i), .val (.int j), .val (.long w), .second] := by
  rcases h with ⟨rfl, rfl⟩ | ⟨w, rfl, rfl⟩ <;> rfl
/-! counts -/
theorem own_cnt_lo {P : Int64 → Bool} {f : Int → Int64} {c : Nat} : ∀ n : Nat, c ≤ n → (∀ y : Nat, y < c → P (f (y : Int)) = true) → c ≤ own_cnt P f n := by
  intro n
  induction n generalizing c with
  | zero => intro h _; omega
  | succ n ih =>
    intro h q
    rw [own_cnt_s]
    by_cases e : c = n + 1
    · have h1 := ih (c := n) (Nat.le_refl _) (fun y hy => q y (by omega))
      have h2 := q n (by omega)
      rw [h2]; simp only [Bool.toNat_true]; omega
    · have h1 := ih (c := c) (by omega) q
      omega
theorem own_cnt_hi {P : Int64 → Bool} {f : Int → Int64} {c : Nat} : ∀ n : Nat, c ≤ n → (∀ y : Nat, c ≤ y → y < n → P (f (y : Int)) = true) → n - c ≤ own_cnt P f n := by
  intro n
  induction n with
  | zero => intro h _; omega
  | succ n ih =>
    intro h q
    rw [own_cnt_s]
    by_cases e : c = n + 1
    · omega
    · have h1 := ih (by omega) (fun y h1 h2 => q y h1 (by omega))
      have h2 := q n (by omega) (by omega)
      rw [h2]; simp only [Bool.toNat_true]; omega
theorem own_cnt_one {P : Int64 → Bool} {f : Int → Int64} {j : Nat} (hj : P (f (j : Int)) = true) : ∀ n : Nat, j < n → 1 ≤ own_cnt P f n := by
  intro n
  induction n with
  | zero => intro h; omega
  | succ n ih =>
    intro h
    rw [own_cnt_s]
    by_cases e : j = n
    · subst e; rw [hj]; simp only [Bool.toNat_true]; omega
    · have := ih (by omega); omega
theorem own_cnt_hi1 {P : Int64 → Bool} {f : Int → Int64} {c j : Nat} (hj : j < c) (hp : P (f (j : Int)) = true) : ∀ n : Nat, c ≤ n → (∀ y : Nat, c ≤ y → y < n → P (f (y : Int)) = true) → n - c + 1 ≤ own_cnt P f n := by
  intro n
  induction n with
  | zero => intro h _; omega
  | succ n ih =>
    intro h q
    rw [own_cnt_s]
    by_cases e : c = n + 1
    · subst e
      have h3 := own_cnt_one hp (n + 1) hj
      rw [own_cnt_s] at h3; omega
    · have h1 := ih (by omega) (fun y h1 h2 => q y h1 (by omega))
      have h2 := q n (by omega) (by omega)
      rw [h2]; simp only [Bool.toNat_true]; omega
def own_lep (m : Int64) : Int64 → Bool := fun v => decide (v.toInt ≤ m.toInt)
def own_gep (m : Int64) : Int64 → Bool := fun v => decide (m.toInt ≤ v.toInt)
/-- m is the c-th smallest (from 0) of the first n places -/
def own_rank (m : Int64) (f : Int → Int64) (c n : Nat) : Prop := c + 1 ≤ own_cnt (own_lep m) f n ∧ n - c ≤ own_cnt (own_gep m) f n
theorem own_rank_perm {m : Int64} {f g : Int → Int64} {c n : Nat} (h : own_perm f g n) (r : own_rank m f c n) : own_rank m g c n := ⟨by rw [← h]; exact r.1, by rw [← h]; exact r.2⟩
theorem own_sel_rank {f : Int → Int64} {c n : Nat} (hc : c < n) (S : own_sel f (c : Int) (n : Int)) : own_rank (f (c : Int)) f c n := by
  constructor
  · apply own_cnt_lo n (by omega)
    intro y hy
    simp only [own_lep, decide_eq_true_eq]
    by_cases e : y = c
    · subst e; exact Int.le_refl _
    · exact S.1 y (by omega) (by omega)
  · apply own_cnt_hi n (by omega)
    intro y h1 h2
    simp only [own_gep, decide_eq_true_eq]
    by_cases e : y = c
    · subst e; exact Int.le_refl _
    · exact S.2 y (by omega) (by omega)
/-- the greatest of the c + 1 places below the (c + 1)-th, which is selected -/
theorem own_low_rank {f : Int → Int64} {c n : Nat} (hc : c + 1 < n) (S : own_sel f ((c + 1 : Nat) : Int) (n : Int)) {L : Int64} (hL : ∀ y : Nat, y < c + 1 → (f (y : Int)).toInt ≤ L.toInt) {j : Nat} (hj : j < c + 1) (e : L = f (j : Int)) : own_rank L f c n := by
  constructor
  · apply own_cnt_lo n (by omega)
    intro y hy
    simp only [own_lep, decide_eq_true_eq]; exact hL y hy
  · have h1 : n - (c + 1) + 1 ≤ own_cnt (own_gep L) f n := by
      apply own_cnt_hi1 (c := c + 1) (j := j) hj (by simp only [own_gep, decide_eq_true_eq]; rw [e]; exact Int.le_refl _) n (by omega)
      intro y q1 q2
      simp only [own_gep, decide_eq_true_eq]
      have h2 := S.1 (j : Int) (by omega) (by omega)
      rw [e]
      by_cases e2 : y = c + 1
      · subst e2; exact h2
      · exact Int.le_trans h2 (S.2 y (by omega) (by omega))
    omega
/-! the plain laws -/
theorem own_lmx (x y m : Int) : (m ≤ max x y) = (m ≤ x ∨ m ≤ y) := propext ⟨fun h => by omega, fun h => by omega⟩
theorem own_lmn (x y m : Int) : (m ≤ min x y) = (m ≤ x ∧ m ≤ y) := propext ⟨fun h => by omega, fun h => by omega⟩
theorem own_mxl (x y m : Int) : (max x y ≤ m) = (x ≤ m ∧ y ≤ m) := propext ⟨fun h => by omega, fun h => by omega⟩
theorem own_mnl (x y m : Int) : (min x y ≤ m) = (x ≤ m ∨ y ≤ m) := propext ⟨fun h => by omega, fun h => by omega⟩
theorem own_tri (x m : Int) : (x < m ∧ (decide (x ≤ m)).toNat = 1 ∧ (decide (m ≤ x)).toNat = 0) ∨ (x = m ∧ (decide (x ≤ m)).toNat = 1 ∧ (decide (m ≤ x)).toNat = 1) ∨ (m < x ∧ (decide (x ≤ m)).toNat = 0 ∧ (decide (m ≤ x)).toNat = 1) := by
  rcases Int.lt_trichotomy x m with h | h | h
  · exact Or.inl ⟨h, by rw [decide_eq_true (Int.le_of_lt h)]; rfl, by rw [decide_eq_false (Int.not_le.mpr h)]; rfl⟩
  · exact Or.inr (Or.inl ⟨h, by rw [decide_eq_true (Int.le_of_eq h)]; rfl, by rw [decide_eq_true (Int.le_of_eq h.symm)]; rfl⟩)
  · exact Or.inr (Or.inr ⟨h, by rw [decide_eq_false (Int.not_le.mpr h)]; rfl, by rw [decide_eq_true (Int.le_of_lt h)]; rfl⟩)
theorem own_two_hi {a b m : Int} (h1 : 2 ≤ (decide (a ≤ m)).toNat + (decide (b ≤ m)).toNat) (h2 : 1 ≤ (decide (m ≤ a)).toNat + (decide (m ≤ b)).toNat) : m = max a b := by
  have k1 : ∀ p q : Bool, 2 ≤ p.toNat + q.toNat → (p && q) = true := by decide
  have k2 : ∀ p q : Bool, 1 ≤ p.toNat + q.toNat → (p || q) = true := by decide
  have q1 := k1 _ _ h1
  have q2 := k2 _ _ h2
  simp only [Bool.and_eq_true, Bool.or_eq_true, decide_eq_true_eq] at q1 q2
  refine Int.le_antisymm ?_ ?_
  · simp only [own_lmx, own_lmn]; exact q2
  · simp only [own_mxl, own_mnl]; exact q1
theorem own_two_lo {a b m : Int} (h1 : 1 ≤ (decide (a ≤ m)).toNat + (decide (b ≤ m)).toNat) (h2 : 2 ≤ (decide (m ≤ a)).toNat + (decide (m ≤ b)).toNat) : m = min a b := by
  have k1 : ∀ p q : Bool, 1 ≤ p.toNat + q.toNat → (p || q) = true := by decide
  have k2 : ∀ p q : Bool, 2 ≤ p.toNat + q.toNat → (p && q) = true := by decide
  have q1 := k1 _ _ h1
  have q2 := k2 _ _ h2
  simp only [Bool.and_eq_true, Bool.or_eq_true, decide_eq_true_eq] at q1 q2
  refine Int.le_antisymm ?_ ?_
  · simp only [own_lmx, own_lmn]; exact q2
  · simp only [own_mxl, own_mnl]; exact q1
theorem own_three {a b c m : Int} (h1 : 2 ≤ (decide (a ≤ m)).toNat + (decide (b ≤ m)).toNat + (decide (c ≤ m)).toNat) (h2 : 2 ≤ (decide (m ≤ a)).toNat + (decide (m ≤ b)).toNat + (decide (m ≤ c)).toNat) : m = max (min a b) (min (max a b) c) := by
  have k1 : ∀ p q r : Bool, 2 ≤ p.toNat + q.toNat + r.toNat → ((p || q) && ((p && q) || r)) = true := by decide
  have k2 : ∀ p q r : Bool, 2 ≤ p.toNat + q.toNat + r.toNat → ((p && q) || ((p || q) && r)) = true := by decide
  have q1 := k1 _ _ _ h1
  have q2 := k2 _ _ _ h2
  simp only [Bool.and_eq_true, Bool.or_eq_true, decide_eq_true_eq] at q1 q2
  refine Int.le_antisymm ?_ ?_
  · simp only [own_lmx, own_lmn]; exact q2
  · simp only [own_mxl, own_mnl]; exact q1
theorem own_four_hi {a b c d m : Int} (h1 : 3 ≤ (decide (a ≤ m)).toNat + (decide (b ≤ m)).toNat + (decide (c ≤ m)).toNat + (decide (d ≤ m)).toNat) (h2 : 2 ≤ (decide (m ≤ a)).toNat + (decide (m ≤ b)).toNat + (decide (m ≤ c)).toNat + (decide (m ≤ d)).toNat) :
    m = max (max (min a b) (min c d)) (min (max a b) (max c d)) := by
  have k1 : ∀ p q r s : Bool, 3 ≤ p.toNat + q.toNat + r.toNat + s.toNat → (((p || q) && (r || s)) && ((p && q) || (r && s))) = true := by decide
  have k2 : ∀ p q r s : Bool, 2 ≤ p.toNat + q.toNat + r.toNat + s.toNat → (((p && q) || (r && s)) || ((p || q) && (r || s))) = true := by decide
  have q1 := k1 _ _ _ _ h1
  have q2 := k2 _ _ _ _ h2
  simp only [Bool.and_eq_true, Bool.or_eq_true, decide_eq_true_eq] at q1 q2
  refine Int.le_antisymm ?_ ?_
  · simp only [own_lmx, own_lmn]; exact q2
  · simp only [own_mxl, own_mnl]; exact q1
theorem own_four_lo {a b c d m : Int} (h1 : 2 ≤ (decide (a ≤ m)).toNat + (decide (b ≤ m)).toNat + (decide (c ≤ m)).toNat + (decide (d ≤ m)).toNat) (h2 : 3 ≤ (decide (m ≤ a)).toNat + (decide (m ≤ b)).toNat + (decide (m ≤ c)).toNat + (decide (m ≤ d)).toNat) :
    m = min (max (min a b) (min c d)) (min (max a b) (max c d)) := by
  have k1 : ∀ p q r s : Bool, 2 ≤ p.toNat + q.toNat + r.toNat + s.toNat → (((p || q) && (r || s)) || ((p && q) || (r && s))) = true := by decide
  have k2 : ∀ p q r s : Bool, 3 ≤ p.toNat + q.toNat + r.toNat + s.toNat → (((p && q) || (r && s)) && ((p || q) && (r || s))) = true := by decide
  have q1 := k1 _ _ _ _ h1
  have q2 := k2 _ _ _ _ h2
  simp only [Bool.and_eq_true, Bool.or_eq_true, decide_eq_true_eq] at q1 q2
  refine Int.le_antisymm ?_ ?_
  · simp only [own_lmx, own_lmn]; exact q2
  · simp only [own_mxl, own_mnl]; exact q1
theorem own_five {a b c d e m : Int} (h1 : 3 ≤ (decide (a ≤ m)).toNat + (decide (b ≤ m)).toNat + (decide (c ≤ m)).toNat + (decide (d ≤ m)).toNat + (decide (e ≤ m)).toNat) (h2 : 3 ≤ (decide (m ≤ a)).toNat + (decide (m ≤ b)).toNat + (decide (m ≤ c)).toNat + (decide (m ≤ d)).toNat + (decide (m ≤ e)).toNat) :
    m = max (min e (max (min a b) (min c d))) (min (max e (max (min a b) (min c d))) (min (max a b) (max c d))) := by
  have k1 : ∀ p q r s t : Bool, 3 ≤ p.toNat + q.toNat + r.toNat + s.toNat + t.toNat → ((t || ((p || q) && (r || s))) && ((t && ((p || q) && (r || s))) || ((p && q) || (r && s)))) = true := by decide
  have k2 : ∀ p q r s t : Bool, 3 ≤ p.toNat + q.toNat + r.toNat + s.toNat + t.toNat → ((t && ((p && q) || (r && s))) || ((t || ((p && q) || (r && s))) && ((p || q) && (r || s)))) = true := by decide
  have q1 := k1 _ _ _ _ _ h1
  have q2 := k2 _ _ _ _ _ h2
  simp only [Bool.and_eq_true, Bool.or_eq_true, decide_eq_true_eq] at q1 q2
  refine Int.le_antisymm ?_ ?_
  · simp only [own_lmx, own_lmn]; exact q2
  · simp only [own_mxl, own_mnl]; exact q1
/-- the law's own mean, and the method's -/
def own_mean (x y : Int64) : Int64 := (((x >>> ((1 : Int32) &&& 0x3f).toInt64) + (y >>> ((1 : Int32) &&& 0x3f).toInt64)) + ((x &&& y) &&& (1 : Int64)))
def own_med3 (x y z : Int64) : Int64 := own_max (own_min x y) (own_min (own_max x y) z)
theorem own_nn {x : Int64} (h : 0 ≤ x.toInt) : (x.toBitVec.toNat : Int) = x.toInt := by
  have h1 : x.toInt = x.toBitVec.toInt := rfl
  rw [h1, BitVec.toInt_eq_toNat_cond] at h
  rw [h1, BitVec.toInt_eq_toNat_cond]
  have h2 := x.toBitVec.isLt
  split at h
  · rename_i q; rw [if_pos q]
  · omega
theorem own_shr (x : Int64) : (x >>> ((1 : Int32) &&& 0x3f).toInt64).toInt = x.toInt / 2 := by
  have e : (x >>> ((1 : Int32) &&& 0x3f).toInt64).toBitVec = x.toBitVec.sshiftRight 1 := rfl
  have e2 : (x >>> ((1 : Int32) &&& 0x3f).toInt64).toInt = (x.toBitVec.sshiftRight 1).toInt := by rw [← e]; rfl
  rw [e2, BitVec.toInt_sshiftRight, Int.shiftRight_eq_div_pow]
  rfl
theorem own_and1 {x y : Int64} (hx : 0 ≤ x.toInt) (hy : 0 ≤ y.toInt) : ((x &&& y) &&& (1 : Int64)).toInt = (if x.toInt % 2 = 1 ∧ y.toInt % 2 = 1 then 1 else 0) := by
  have e : ((x &&& y) &&& (1 : Int64)).toBitVec = (x.toBitVec &&& y.toBitVec) &&& 1#64 := rfl
  have n1 : ((x &&& y) &&& (1 : Int64)).toBitVec.toNat = (x.toBitVec.toNat &&& y.toBitVec.toNat) % 2 := by
    rw [e, BitVec.toNat_and, BitVec.toNat_and]; exact Nat.and_two_pow_sub_one_eq_mod _ 1
  have n2 : (x.toBitVec.toNat &&& y.toBitVec.toNat) % 2 = (x.toBitVec.toNat % 2) &&& (y.toBitVec.toNat % 2) := Nat.and_mod_two_pow (n := 1)
  have lt : ((x &&& y) &&& (1 : Int64)).toBitVec.toNat < 2 := by rw [n1]; omega
  have n3 : ((x &&& y) &&& (1 : Int64)).toInt = (((x &&& y) &&& (1 : Int64)).toBitVec.toNat : Int) := by
    show ((x &&& y) &&& (1 : Int64)).toBitVec.toInt = _
    rw [BitVec.toInt_eq_toNat_cond, if_pos (by omega)]
  rw [n3, n1, n2, ← own_nn hx, ← own_nn hy]
  rcases (by omega : x.toBitVec.toNat % 2 = 0 ∨ x.toBitVec.toNat % 2 = 1) with p | p <;> rcases (by omega : y.toBitVec.toNat % 2 = 0 ∨ y.toBitVec.toNat % 2 = 1) with q | q <;> rw [p, q]
  · rw [if_neg (by omega)]; rfl
  · rw [if_neg (by omega)]; rfl
  · rw [if_neg (by omega)]; rfl
  · rw [if_pos (by omega)]; rfl
theorem own_mean_i {x y : Int64} (hx : 0 ≤ x.toInt) (hy : 0 ≤ y.toInt) : (own_mean x y).toInt = (x.toInt + y.toInt) / 2 := by
  have h1 := x.toInt_lt; have h2 := y.toInt_lt
  unfold own_mean
  rw [Int64.toInt_add, Int64.toInt_add, own_shr, own_shr, own_and1 hx hy, Int.bmod_def, Int.bmod_def]
  split <;> omega
theorem own_half {L m : Int64} (h1 : 0 ≤ L.toInt) (h2 : L.toInt ≤ m.toInt) : (L + (m - L) / (2 : Int64)).toInt = (L.toInt + m.toInt) / 2 := by
  have b := m.toInt_lt
  have a1 : (m - L).toInt = m.toInt - L.toInt := by rw [Int64.toInt_sub, Int.bmod_def]; omega
  have a2 : ((m - L) / (2 : Int64)).toInt = (m.toInt - L.toInt) / 2 := by
    rw [Int64.toInt_div, a1]
    have : (2 : Int64).toInt = 2 := rfl
    rw [this, Int.tdiv_eq_ediv_of_nonneg (by omega), Int.bmod_def]; omega
  rw [Int64.toInt_add, a2, Int.bmod_def]; omega
theorem own_pos (x : Int64) : 0 ≤ (x &&& (9223372036854775807 : Int64)).toInt := by
  have : ¬ ((x &&& (9223372036854775807 : Int64)) < 0) := by rw [Jvm.Free.XT.and_neg64]; intro h; exact absurd h.2 (by decide)
  rw [Int64.lt_iff_toInt_lt] at this
  have e0 : (0 : Int64).toInt = 0 := rfl
  omega
/-- the list that the law lays: place t -/
def own_l (a b c d e : Int64) : Int → Int64 := fun t => if t = 0 then a else if t = 1 then b else if t = 2 then c else if t = 3 then d else e
theorem own_r (x : Int32) : ((x &&& 2147483647) % 5) + 1 = 1 ∨ ((x &&& 2147483647) % 5) + 1 = 2 ∨ ((x &&& 2147483647) % 5) + 1 = 3 ∨ ((x &&& 2147483647) % 5) + 1 = 4 ∨ ((x &&& 2147483647) % 5) + 1 = 5 := by
  have h1 : 0 ≤ (x &&& 2147483647).toInt := by
    have : ¬ ((x &&& 2147483647) < 0) := by rw [Jvm.Free.XT.and_neg32]; intro h; exact absurd h.2 (by decide)
    rw [Int32.lt_iff_toInt_lt] at this
    have e0 : (0 : Int32).toInt = 0 := rfl
    omega
  have h2 : 0 ≤ ((x &&& 2147483647) % 5).toInt ∧ ((x &&& 2147483647) % 5).toInt ≤ 4 := by
    rw [Int32.toInt_mod, Int.tmod_eq_emod_of_nonneg h1]
    have e : (5 : Int32).toInt = 5 := rfl
    rw [e]
    generalize (x &&& 2147483647).toInt = n at *
    omega
  have h3 : ((x &&& 2147483647) % 5) = 0 ∨ ((x &&& 2147483647) % 5) = 1 ∨ ((x &&& 2147483647) % 5) = 2 ∨ ((x &&& 2147483647) % 5) = 3 ∨ ((x &&& 2147483647) % 5) = 4 := by
    simp only [← Int32.toInt_inj]
    have e0 : (0 : Int32).toInt = 0 := rfl
    have e1 : (1 : Int32).toInt = 1 := rfl
    have e2 : (2 : Int32).toInt = 2 := rfl
    have e3 : (3 : Int32).toInt = 3 := rfl
    have e4 : (4 : Int32).toInt = 4 := rfl
    omega
  rcases h3 with h | h | h | h | h <;> rw [h] <;> decide
theorem ef_rm1 (m : MethodId) (x0 : Int64) (x1 : Int64) : entryFrame m #[(.long x0), (.long x1)] 4 = mkF m 0 #[.val (.long x0), .second, .val (.long x1), .second] [] := by first | (simp [entryFrame, mkF, argsToLocals, Value.category]; done) | rfl
theorem d1_0 : decode jdk_29_method_70_code 0 = .ok (.lload_n 0, 1) := by decide +kernel
theorem d1_1 : decode jdk_29_method_70_code 1 = .ok (.lload_n 2, 1) := by decide +kernel
theorem d1_2 : decode jdk_29_method_70_code 2 = .ok (.lcmp, 1) := by decide +kernel
theorem d1_3 : decode jdk_29_method_70_code 3 = .ok (.ifCond .gt 7, 3) := by decide +kernel
theorem d1_10 : decode jdk_29_method_70_code 10 = .ok (.lload_n 2, 1) := by decide +kernel
theorem d1_11 : decode jdk_29_method_70_code 11 = .ok (.lreturn, 1) := by decide +kernel
theorem d1_6 : decode jdk_29_method_70_code 6 = .ok (.lload_n 0, 1) := by decide +kernel
theorem d1_7 : decode jdk_29_method_70_code 7 = .ok (.goto 4, 3) := by decide +kernel
def Q_rm1 (Z : State) (q1 q2 : Int64) (h0 : Heap) (n0 : Nat) (v : Option Value) (h : Heap) (L : List Loc) : Prop := v = some (.long (own_min q1 q2)) ∧ Fr n0 L ∧ h = h0
set_option maxRecDepth 65536 in
set_option maxHeartbeats 40000000 in
theorem rm1 (l : Launch) (Z : State) (a0 : Array Value) (hw : ∀ d ∈ tables_1, d.before a0 Z = true) (ws : List Jvm.Cond) (q1 q2 : Int64) (h0 : Heap) (n0 : Nat) (Z0 : n0 ≤ h0.size) :
    MetFree l (⟨"java/lang/Math", "min", "(JJ)J"⟩ : MethodName) (head1 (Jvm.Cond.code (⟨"java/lang/Math", "min", "(JJ)J"⟩ : MethodName) jdk_29_method_70_code 4 (some .long) :: ws) ({ frames := 0, cells := 0, slots := 0, locals := 0 } : Room)) (fun ag U => ag = #[(.long q1), (.long q2)] ∧ Z.Warmed39 U.vm ∧ U.heap = h0) (fun _ _ _ _ _ => True) (fun _ U o U' => ∃ v L, o = .returned v ∧ Q_rm1 Z q1 q2 h0 n0 v U'.heap L ∧ FrameEnd U o U' L ({ frames := 0, cells := 0, slots := 0, locals := 0 } : Room).cells ({ frames := 0, cells := 0, slots := 0, locals := 0 } : Room).slots) := by
  refine MetFree.of_bodySF (Jvm.Free.JP.mathPlain rfl (by decide +kernel)) hisR ?_
  intro p e s m args below meth c s₁ Bd hml0 hP hK
  obtain ⟨rfl, hZ, hh⟩ := hP
  have hx := Bd.exec
  have hby := Bd.bytes
  have hml : c.maxLocals = 4 := hml0
  have hown : s.vm.findClass "java/lang/Math" = some m.cls := findClass_of_methodNamed Bd.named
  have hnm := (name_of_methodNamed Bd.named Bd.method).1
  have X0 : Stand p l e ({ frames := 0, cells := 0, slots := 0, locals := 0 } : Room) s m #[(.long q1), (.long q2)] below meth c s₁ [] 0 0 := Stand.of_body Bd
  have e0 : s₁.heap = h0 := by rw [← hh, Bd.state]; rfl
  have N0 := Fr.nil n0
  refine own_start (ef_rm1 m q1 q2) ?_
  intro F hF
  show own_Gl p.tables e below F (s₁.setTop (mkF m 0 #[.val (.long q1), .second, .val (.long q2), .second] []))
  refine own_go (fun _ k => XS.lloadN X0.here hx rfl (hb hby d1_0) rfl k) ?_
  show own_Gl p.tables e below F (s₁.setTop (mkF m 1 #[.val (.long q1), .second, .val (.long q2), .second] [(.long q1)]))
  refine own_go (fun _ k => XS.lloadN X0.here hx rfl (hb hby d1_1) rfl k) ?_
  show own_Gl p.tables e below F (s₁.setTop (mkF m 2 #[.val (.long q1), .second, .val (.long q2), .second] [(.long q2), (.long q1)]))
  refine own_go (fun _ k => XS.lcmp X0.here hx rfl (hb hby d1_2) rfl k) ?_
  show own_Gl p.tables e below F (s₁.setTop (mkF m 3 #[.val (.long q1), .second, .val (.long q2), .second] [(.int (XT.cmpL q1 q2))]))
  by_cases h1 : q2 < q1
  · refine own_go (fun _ k => XS.ifYes X0.here hx rfl (pc0 := 3) (pc' := 10) rfl (hb hby d1_3) rfl (XT.ll_gt_t (by assumption)) (by decide) (by decide) k) ?_
    show own_Gl p.tables e below F (s₁.setTop (mkF m 10 #[.val (.long q1), .second, .val (.long q2), .second] []))
    refine own_go (fun _ k => XS.lloadN X0.here hx rfl (hb hby d1_10) rfl k) ?_
    show own_Gl p.tables e below F (s₁.setTop (mkF m 11 #[.val (.long q1), .second, .val (.long q2), .second] [(.long q2)]))
    obtain ⟨fs, hr, hrun, hended, hW, hsame⟩ := X0.leave (v := some (.long q2)) (fun h => by rw [Bd.returns] at h; cases h)
    subst hF
    refine own_fin ?_ ⟨hrun, hended, _, _, rfl, ?_, ⟨_, rfl⟩, hW, hsame.mono (by first | decide | exact Nat.le_of_ble_eq_true rfl) (by first | decide | exact Nat.le_of_ble_eq_true rfl)⟩
    · exact own_retJ X0 hx Bd.returns (hb hby d1_11) hr
    · show Q_rm1 Z _ _ h0 n0 _ s₁.heap _
      rw [e0]
      exact ⟨by rw [own_min, if_pos h1], N0, rfl⟩
  · refine own_go (fun _ k => XS.ifNo X0.here hx rfl (hb hby d1_3) rfl (XT.ll_gt_f (by assumption)) k) ?_
    show own_Gl p.tables e below F (s₁.setTop (mkF m 6 #[.val (.long q1), .second, .val (.long q2), .second] []))
    refine own_go (fun _ k => XS.lloadN X0.here hx rfl (hb hby d1_6) rfl k) ?_
    show own_Gl p.tables e below F (s₁.setTop (mkF m 7 #[.val (.long q1), .second, .val (.long q2), .second] [(.long q1)]))
    refine own_go (fun _ k => XS.goto X0.here hx rfl (pc0 := 7) (pc' := 11) rfl (hb hby d1_7) (by decide) (by decide) k) ?_
    show own_Gl p.tables e below F (s₁.setTop (mkF m 11 #[.val (.long q1), .second, .val (.long q2), .second] [(.long q1)]))
    obtain ⟨fs, hr, hrun, hended, hW, hsame⟩ := X0.leave (v := some (.long q1)) (fun h => by rw [Bd.returns] at h; cases h)
    subst hF
    refine own_fin ?_ ⟨hrun, hended, _, _, rfl, ?_, ⟨_, rfl⟩, hW, hsame.mono (by first | decide | exact Nat.le_of_ble_eq_true rfl) (by first | decide | exact Nat.le_of_ble_eq_true rfl)⟩
    · exact own_retJ X0 hx Bd.returns (hb hby d1_11) hr
    · show Q_rm1 Z _ _ h0 n0 _ s₁.heap _
      rw [e0]
      exact ⟨by rw [own_min, if_neg h1], N0, rfl⟩
theorem ef_rm2 (m : MethodId) (x0 : Int64) (x1 : Int64) : entryFrame m #[(.long x0), (.long x1)] 4 = mkF m 0 #[.val (.long x0), .second, .val (.long x1), .second] [] := by first | (simp [entryFrame, mkF, argsToLocals, Value.category]; done) | rfl
theorem d2_0 : decode jdk_29_method_66_code 0 = .ok (.lload_n 0, 1) := by decide +kernel
theorem d2_1 : decode jdk_29_method_66_code 1 = .ok (.lload_n 2, 1) := by decide +kernel
theorem d2_2 : decode jdk_29_method_66_code 2 = .ok (.lcmp, 1) := by decide +kernel
theorem d2_3 : decode jdk_29_method_66_code 3 = .ok (.ifCond .lt 7, 3) := by decide +kernel
theorem d2_10 : decode jdk_29_method_66_code 10 = .ok (.lload_n 2, 1) := by decide +kernel
theorem d2_11 : decode jdk_29_method_66_code 11 = .ok (.lreturn, 1) := by decide +kernel
theorem d2_6 : decode jdk_29_method_66_code 6 = .ok (.lload_n 0, 1) := by decide +kernel
theorem d2_7 : decode jdk_29_method_66_code 7 = .ok (.goto 4, 3) := by decide +kernel
def Q_rm2 (Z : State) (q1 q2 : Int64) (h0 : Heap) (n0 : Nat) (v : Option Value) (h : Heap) (L : List Loc) : Prop := v = some (.long (own_max q1 q2)) ∧ Fr n0 L ∧ h = h0
set_option maxRecDepth 65536 in
set_option maxHeartbeats 40000000 in
theorem rm2 (l : Launch) (Z : State) (a0 : Array Value) (hw : ∀ d ∈ tables_1, d.before a0 Z = true) (ws : List Jvm.Cond) (q1 q2 : Int64) (h0 : Heap) (n0 : Nat) (Z0 : n0 ≤ h0.size) :
    MetFree l (⟨"java/lang/Math", "max", "(JJ)J"⟩ : MethodName) (head1 (Jvm.Cond.code (⟨"java/lang/Math", "max", "(JJ)J"⟩ : MethodName) jdk_29_method_66_code 4 (some .long) :: ws) ({ frames := 0, cells := 0, slots := 0, locals := 0 } : Room)) (fun ag U => ag = #[(.long q1), (.long q2)] ∧ Z.Warmed39 U.vm ∧ U.heap = h0) (fun _ _ _ _ _ => True) (fun _ U o U' => ∃ v L, o = .returned v ∧ Q_rm2 Z q1 q2 h0 n0 v U'.heap L ∧ FrameEnd U o U' L ({ frames := 0, cells := 0, slots := 0, locals := 0 } : Room).cells ({ frames := 0, cells := 0, slots := 0, locals := 0 } : Room).slots) := by
  refine MetFree.of_bodySF (Jvm.Free.JP.mathPlain rfl (by decide +kernel)) hisR ?_
  intro p e s m args below meth c s₁ Bd hml0 hP hK
  obtain ⟨rfl, hZ, hh⟩ := hP
  have hx := Bd.exec
  have hby := Bd.bytes
  have hml : c.maxLocals = 4 := hml0
  have hown : s.vm.findClass "java/lang/Math" = some m.cls := findClass_of_methodNamed Bd.named
  have hnm := (name_of_methodNamed Bd.named Bd.method).1
  have X0 : Stand p l e ({ frames := 0, cells := 0, slots := 0, locals := 0 } : Room) s m #[(.long q1), (.long q2)] below meth c s₁ [] 0 0 := Stand.of_body Bd
  have e0 : s₁.heap = h0 := by rw [← hh, Bd.state]; rfl
  have N0 := Fr.nil n0
  refine own_start (ef_rm2 m q1 q2) ?_
  intro F hF
  show own_Gl p.tables e below F (s₁.setTop (mkF m 0 #[.val (.long q1), .second, .val (.long q2), .second] []))
  refine own_go (fun _ k => XS.lloadN X0.here hx rfl (hb hby d2_0) rfl k) ?_
  show own_Gl p.tables e below F (s₁.setTop (mkF m 1 #[.val (.long q1), .second, .val (.long q2), .second] [(.long q1)]))
  refine own_go (fun _ k => XS.lloadN X0.here hx rfl (hb hby d2_1) rfl k) ?_
  show own_Gl p.tables e below F (s₁.setTop (mkF m 2 #[.val (.long q1), .second, .val (.long q2), .second] [(.long q2), (.long q1)]))
  refine own_go (fun _ k => XS.lcmp X0.here hx rfl (hb hby d2_2) rfl k) ?_
  show own_Gl p.tables e below F (s₁.setTop (mkF m 3 #[.val (.long q1), .second, .val (.long q2), .second] [(.int (XT.cmpL q1 q2))]))
  by_cases h1 : q1 < q2
  · refine own_go (fun _ k => XS.ifYes X0.here hx rfl (pc0 := 3) (pc' := 10) rfl (hb hby d2_3) rfl (XT.ll_lt_t (by assumption)) (by decide) (by decide) k) ?_
    show own_Gl p.tables e below F (s₁.setTop (mkF m 10 #[.val (.long q1), .second, .val (.long q2), .second] []))
    refine own_go (fun _ k => XS.lloadN X0.here hx rfl (hb hby d2_10) rfl k) ?_
    show own_Gl p.tables e below F (s₁.setTop (mkF m 11 #[.val (.long q1), .second, .val (.long q2), .second] [(.long q2)]))
    obtain ⟨fs, hr, hrun, hended, hW, hsame⟩ := X0.leave (v := some (.long q2)) (fun h => by rw [Bd.returns] at h; cases h)
    subst hF
    refine own_fin ?_ ⟨hrun, hended, _, _, rfl, ?_, ⟨_, rfl⟩, hW, hsame.mono (by first | decide | exact Nat.le_of_ble_eq_true rfl) (by first | decide | exact Nat.le_of_ble_eq_true rfl)⟩
    · exact own_retJ X0 hx Bd.returns (hb hby d2_11) hr
    · show Q_rm2 Z _ _ h0 n0 _ s₁.heap _
      rw [e0]
      exact ⟨by rw [own_max, if_pos h1], N0, rfl⟩
  · refine own_go (fun _ k => XS.ifNo X0.here hx rfl (hb hby d2_3) rfl (XT.ll_lt_f (by assumption)) k) ?_
    show own_Gl p.tables e below F (s₁.setTop (mkF m 6 #[.val (.long q1), .second, .val (.long q2), .second] []))
    refine own_go (fun _ k => XS.lloadN X0.here hx rfl (hb hby d2_6) rfl k) ?_
    show own_Gl p.tables e below F (s₁.setTop (mkF m 7 #[.val (.long q1), .second, .val (.long q2), .second] [(.long q1)]))
    refine own_go (fun _ k => XS.goto X0.here hx rfl (pc0 := 7) (pc' := 11) rfl (hb hby d2_7) (by decide) (by decide) k) ?_
    show own_Gl p.tables e below F (s₁.setTop (mkF m 11 #[.val (.long q1), .second, .val (.long q2), .second] [(.long q1)]))
    obtain ⟨fs, hr, hrun, hended, hW, hsame⟩ := X0.leave (v := some (.long q1)) (fun h => by rw [Bd.returns] at h; cases h)
    subst hF
    refine own_fin ?_ ⟨hrun, hended, _, _, rfl, ?_, ⟨_, rfl⟩, hW, hsame.mono (by first | decide | exact Nat.le_of_ble_eq_true rfl) (by first | decide | exact Nat.le_of_ble_eq_true rfl)⟩
    · exact own_retJ X0 hx Bd.returns (hb hby d2_11) hr
    · show Q_rm2 Z _ _ h0 n0 _ s₁.heap _
      rw [e0]
      exact ⟨by rw [own_max, if_neg h1], N0, rfl⟩
theorem ef_rm5 (m : MethodId) (x0 : Int64) (x1 : Int64) : entryFrame m #[(.long x0), (.long x1)] 4 = mkF m 0 #[.val (.long x0), .second, .val (.long x1), .second] [] := by first | (simp [entryFrame, mkF, argsToLocals, Value.category]; done) | rfl
theorem pn_0 : plainName "com/example/cores_from_twigs/coresfromtwigs/MainMedianMicrosPinLaw" = true := by first | (simp [plainName, overriddenIn]; done) | decide +kernel
theorem d5_0 : decode method_2_code 0 = .ok (.lload_n 0, 1) := by decide +kernel
theorem d5_1 : decode method_2_code 1 = .ok (.iconst 1, 1) := by decide +kernel
theorem d5_2 : decode method_2_code 2 = .ok (.lshr, 1) := by decide +kernel
theorem d5_3 : decode method_2_code 3 = .ok (.lload_n 2, 1) := by decide +kernel
theorem d5_4 : decode method_2_code 4 = .ok (.iconst 1, 1) := by decide +kernel
theorem d5_5 : decode method_2_code 5 = .ok (.lshr, 1) := by decide +kernel
theorem d5_6 : decode method_2_code 6 = .ok (.ladd, 1) := by decide +kernel
theorem d5_7 : decode method_2_code 7 = .ok (.lload_n 0, 1) := by decide +kernel
theorem d5_8 : decode method_2_code 8 = .ok (.lload_n 2, 1) := by decide +kernel
theorem d5_9 : decode method_2_code 9 = .ok (.land, 1) := by decide +kernel
theorem d5_10 : decode method_2_code 10 = .ok (.lconst 1, 1) := by decide +kernel
theorem d5_11 : decode method_2_code 11 = .ok (.land, 1) := by decide +kernel
theorem d5_12 : decode method_2_code 12 = .ok (.ladd, 1) := by decide +kernel
theorem d5_13 : decode method_2_code 13 = .ok (.lreturn, 1) := by decide +kernel
def Q_rm5 (Z : State) (q1 q2 : Int64) (h0 : Heap) (n0 : Nat) (v : Option Value) (h : Heap) (L : List Loc) : Prop := v = some (.long (own_mean q1 q2)) ∧ Fr n0 L ∧ h = h0
set_option maxRecDepth 65536 in
set_option maxHeartbeats 40000000 in
theorem rm5 (l : Launch) (Z : State) (a0 : Array Value) (hw : ∀ d ∈ tables_1, d.before a0 Z = true) (ws : List Jvm.Cond) (q1 q2 : Int64) (h0 : Heap) (n0 : Nat) (Z0 : n0 ≤ h0.size) :
    MetFree l (⟨"com/example/cores_from_twigs/coresfromtwigs/MainMedianMicrosPinLaw", "mean", "(JJ)J"⟩ : MethodName) (head1 (Jvm.Cond.code (⟨"com/example/cores_from_twigs/coresfromtwigs/MainMedianMicrosPinLaw", "mean", "(JJ)J"⟩ : MethodName) method_2_code 4 (some .long) :: ws) ({ frames := 0, cells := 0, slots := 0, locals := 0 } : Room)) (fun ag U => ag = #[(.long q1), (.long q2)] ∧ Z.Warmed39 U.vm ∧ U.heap = h0) (fun _ _ _ _ _ => True) (fun _ U o U' => ∃ v L, o = .returned v ∧ Q_rm5 Z q1 q2 h0 n0 v U'.heap L ∧ FrameEnd U o U' L ({ frames := 0, cells := 0, slots := 0, locals := 0 } : Room).cells ({ frames := 0, cells := 0, slots := 0, locals := 0 } : Room).slots) := by
  refine MetFree.of_bodySF (plainFor_of_name pn_0) hisR ?_
  intro p e s m args below meth c s₁ Bd hml0 hP hK
  obtain ⟨rfl, hZ, hh⟩ := hP
  have hx := Bd.exec
  have hby := Bd.bytes
  have hml : c.maxLocals = 4 := hml0
  have hown : s.vm.findClass "com/example/cores_from_twigs/coresfromtwigs/MainMedianMicrosPinLaw" = some m.cls := findClass_of_methodNamed Bd.named
  have hnm := (name_of_methodNamed Bd.named Bd.method).1
  have X0 : Stand p l e ({ frames := 0, cells := 0, slots := 0, locals := 0 } : Room) s m #[(.long q1), (.long q2)] below meth c s₁ [] 0 0 := Stand.of_body Bd
  have e0 : s₁.heap = h0 := by rw [← hh, Bd.state]; rfl
  have N0 := Fr.nil n0
  refine own_start (ef_rm5 m q1 q2) ?_
  intro F hF
  show own_Gl p.tables e below F (s₁.setTop (mkF m 0 #[.val (.long q1), .second, .val (.long q2), .second] []))
  refine own_go (fun _ k => XS.lloadN X0.here hx rfl (hb hby d5_0) rfl k) ?_
  show own_Gl p.tables e below F (s₁.setTop (mkF m 1 #[.val (.long q1), .second, .val (.long q2), .second] [(.long q1)]))
  refine own_go (fun _ k => XS.iconst X0.here hx rfl (hb hby d5_1) k) ?_
  show own_Gl p.tables e below F (s₁.setTop (mkF m 2 #[.val (.long q1), .second, .val (.long q2), .second] [(.int (1 : Int32)), (.long q1)]))
  refine own_go (fun _ k => XS.lshr X0.here hx rfl (hb hby d5_2) rfl k) ?_
  show own_Gl p.tables e below F (s₁.setTop (mkF m 3 #[.val (.long q1), .second, .val (.long q2), .second] [(.long (q1 >>> ((1 : Int32) &&& 0x3f).toInt64))]))
  refine own_go (fun _ k => XS.lloadN X0.here hx rfl (hb hby d5_3) rfl k) ?_
  show own_Gl p.tables e below F (s₁.setTop (mkF m 4 #[.val (.long q1), .second, .val (.long q2), .second] [(.long q2), (.long (q1 >>> ((1 : Int32) &&& 0x3f).toInt64))]))
  refine own_go (fun _ k => XS.iconst X0.here hx rfl (hb hby d5_4) k) ?_
  show own_Gl p.tables e below F (s₁.setTop (mkF m 5 #[.val (.long q1), .second, .val (.long q2), .second] [(.int (1 : Int32)), (.long q2), (.long (q1 >>> ((1 : Int32) &&& 0x3f).toInt64))]))
  refine own_go (fun _ k => XS.lshr X0.here hx rfl (hb hby d5_5) rfl k) ?_
  show own_Gl p.tables e below F (s₁.setTop (mkF m 6 #[.val (.long q1), .second, .val (.long q2), .second] [(.long (q2 >>> ((1 : Int32) &&& 0x3f).toInt64)), (.long (q1 >>> ((1 : Int32) &&& 0x3f).toInt64))]))
  refine own_go (fun _ k => XS.ladd X0.here hx rfl (hb hby d5_6) rfl k) ?_
  show own_Gl p.tables e below F (s₁.setTop (mkF m 7 #[.val (.long q1), .second, .val (.long q2), .second] [(.long ((q1 >>> ((1 : Int32) &&& 0x3f).toInt64) + (q2 >>> ((1 : Int32) &&& 0x3f).toInt64)))]))
  refine own_go (fun _ k => XS.lloadN X0.here hx rfl (hb hby d5_7) rfl k) ?_
  show own_Gl p.tables e below F (s₁.setTop (mkF m 8 #[.val (.long q1), .second, .val (.long q2), .second] [(.long q1), (.long ((q1 >>> ((1 : Int32) &&& 0x3f).toInt64) + (q2 >>> ((1 : Int32) &&& 0x3f).toInt64)))]))
  refine own_go (fun _ k => XS.lloadN X0.here hx rfl (hb hby d5_8) rfl k) ?_
  show own_Gl p.tables e below F (s₁.setTop (mkF m 9 #[.val (.long q1), .second, .val (.long q2), .second] [(.long q2), (.long q1), (.long ((q1 >>> ((1 : Int32) &&& 0x3f).toInt64) + (q2 >>> ((1 : Int32) &&& 0x3f).toInt64)))]))
  refine own_go (fun _ k => XS.land X0.here hx rfl (hb hby d5_9) rfl k) ?_
  show own_Gl p.tables e below F (s₁.setTop (mkF m 10 #[.val (.long q1), .second, .val (.long q2), .second] [(.long (q1 &&& q2)), (.long ((q1 >>> ((1 : Int32) &&& 0x3f).toInt64) + (q2 >>> ((1 : Int32) &&& 0x3f).toInt64)))]))
  refine own_go (fun _ k => XS.lconst X0.here hx rfl (hb hby d5_10) k) ?_
  show own_Gl p.tables e below F (s₁.setTop (mkF m 11 #[.val (.long q1), .second, .val (.long q2), .second] [(.long (1 : Int64)), (.long (q1 &&& q2)), (.long ((q1 >>> ((1 : Int32) &&& 0x3f).toInt64) + (q2 >>> ((1 : Int32) &&& 0x3f).toInt64)))]))
  refine own_go (fun _ k => XS.land X0.here hx rfl (hb hby d5_11) rfl k) ?_
  show own_Gl p.tables e below F (s₁.setTop (mkF m 12 #[.val (.long q1), .second, .val (.long q2), .second] [(.long ((q1 &&& q2) &&& (1 : Int64))), (.long ((q1 >>> ((1 : Int32) &&& 0x3f).toInt64) + (q2 >>> ((1 : Int32) &&& 0x3f).toInt64)))]))
  refine own_go (fun _ k => XS.ladd X0.here hx rfl (hb hby d5_12) rfl k) ?_
  show own_Gl p.tables e below F (s₁.setTop (mkF m 13 #[.val (.long q1), .second, .val (.long q2), .second] [(.long (((q1 >>> ((1 : Int32) &&& 0x3f).toInt64) + (q2 >>> ((1 : Int32) &&& 0x3f).toInt64)) + ((q1 &&& q2) &&& (1 : Int64))))]))
  obtain ⟨fs, hr, hrun, hended, hW, hsame⟩ := X0.leave (v := some (.long (((q1 >>> ((1 : Int32) &&& 0x3f).toInt64) + (q2 >>> ((1 : Int32) &&& 0x3f).toInt64)) + ((q1 &&& q2) &&& (1 : Int64))))) (fun h => by rw [Bd.returns] at h; cases h)
  subst hF
  refine own_fin ?_ ⟨hrun, hended, _, _, rfl, ?_, ⟨_, rfl⟩, hW, hsame.mono (by first | decide | exact Nat.le_of_ble_eq_true rfl) (by first | decide | exact Nat.le_of_ble_eq_true rfl)⟩
  · exact own_retJ X0 hx Bd.returns (hb hby d5_13) hr
  · show Q_rm5 Z _ _ h0 n0 _ s₁.heap _
    rw [e0]
    exact ⟨rfl, N0, rfl⟩
theorem ef_rm6 (m : MethodId) (x0 : Int64) (x1 : Int64) (x2 : Int64) : entryFrame m #[(.long x0), (.long x1), (.long x2)] 6 = mkF m 0 #[.val (.long x0), .second, .val (.long x1), .second, .val (.long x2), .second] [] := by first | (simp [entryFrame, mkF, argsToLocals, Value.category]; done) | rfl
theorem d6_0 : decode method_3_code 0 = .ok (.lload_n 0, 1) := by decide +kernel
theorem d6_1 : decode method_3_code 1 = .ok (.lload_n 2, 1) := by decide +kernel
theorem d6_2 : decode method_3_code 2 = .ok (.invokestatic 7, 3) := by decide +kernel
theorem pd_0 : parseMethodDescriptor "(JJ)J" = some ⟨[.long, .long], some .long⟩ := by decide +kernel
theorem d6_5 : decode method_3_code 5 = .ok (.lload_n 0, 1) := by decide +kernel
theorem d6_6 : decode method_3_code 6 = .ok (.lload_n 2, 1) := by decide +kernel
theorem d6_7 : decode method_3_code 7 = .ok (.invokestatic 13, 3) := by decide +kernel
theorem d6_10 : decode method_3_code 10 = .ok (.lload 4, 2) := by decide +kernel
theorem d6_12 : decode method_3_code 12 = .ok (.invokestatic 7, 3) := by decide +kernel
theorem d6_15 : decode method_3_code 15 = .ok (.invokestatic 13, 3) := by decide +kernel
theorem d6_18 : decode method_3_code 18 = .ok (.lreturn, 1) := by decide +kernel
def Q_rm6 (Z : State) (q1 q2 q3 : Int64) (h0 : Heap) (n0 : Nat) (v : Option Value) (h : Heap) (L : List Loc) : Prop := v = some (.long (own_med3 q1 q2 q3)) ∧ Fr n0 L ∧ h = h0
set_option maxRecDepth 65536 in
set_option maxHeartbeats 40000000 in
theorem rm6 (l : Launch) (Z : State) (a0 : Array Value) (hw : ∀ d ∈ tables_1, d.before a0 Z = true) (ws : List Jvm.Cond) (q1 q2 q3 : Int64) (h0 : Heap) (n0 : Nat) (Z0 : n0 ≤ h0.size) :
    MetFree l (⟨"com/example/cores_from_twigs/coresfromtwigs/MainMedianMicrosPinLaw", "med3", "(JJJ)J"⟩ : MethodName) (head1 (Jvm.Cond.code (⟨"com/example/cores_from_twigs/coresfromtwigs/MainMedianMicrosPinLaw", "med3", "(JJJ)J"⟩ : MethodName) method_3_code 6 (some .long) :: ws) ({ frames := 1, cells := 0, slots := 0, locals := 17 } : Room)) (fun ag U => ag = #[(.long q1), (.long q2), (.long q3)] ∧ Z.Warmed39 U.vm ∧ U.heap = h0) (fun _ _ _ _ _ => True) (fun _ U o U' => ∃ v L, o = .returned v ∧ Q_rm6 Z q1 q2 q3 h0 n0 v U'.heap L ∧ FrameEnd U o U' L ({ frames := 1, cells := 0, slots := 0, locals := 17 } : Room).cells ({ frames := 1, cells := 0, slots := 0, locals := 17 } : Room).slots) := by
  refine MetFree.of_bodySF (plainFor_of_name pn_0) hisR ?_
  intro p e s m args below meth c s₁ Bd hml0 hP hK
  obtain ⟨rfl, hZ, hh⟩ := hP
  have hx := Bd.exec
  have hby := Bd.bytes
  have hml : c.maxLocals = 6 := hml0
  have hown : s.vm.findClass "com/example/cores_from_twigs/coresfromtwigs/MainMedianMicrosPinLaw" = some m.cls := findClass_of_methodNamed Bd.named
  have hnm := (name_of_methodNamed Bd.named Bd.method).1
  have X0 : Stand p l e ({ frames := 1, cells := 0, slots := 0, locals := 17 } : Room) s m #[(.long q1), (.long q2), (.long q3)] below meth c s₁ [] 0 0 := Stand.of_body Bd
  have e0 : s₁.heap = h0 := by rw [← hh, Bd.state]; rfl
  have N0 := Fr.nil n0
  refine own_start (ef_rm6 m q1 q2 q3) ?_
  intro F hF
  show own_Gl p.tables e below F (s₁.setTop (mkF m 0 #[.val (.long q1), .second, .val (.long q2), .second, .val (.long q3), .second] []))
  refine own_go (fun _ k => XS.lloadN X0.here hx rfl (hb hby d6_0) rfl k) ?_
  show own_Gl p.tables e below F (s₁.setTop (mkF m 1 #[.val (.long q1), .second, .val (.long q2), .second, .val (.long q3), .second] [(.long q1)]))
  refine own_go (fun _ k => XS.lloadN X0.here hx rfl (hb hby d6_1) rfl k) ?_
  show own_Gl p.tables e below F (s₁.setTop (mkF m 2 #[.val (.long q1), .second, .val (.long q2), .second, .val (.long q3), .second] [(.long q2), (.long q1)]))
  obtain ⟨_, _, ⟨T1, L1, k1, n1⟩, -, X1, ⟨Lc1, hQ1, ll1, y1, z1⟩, st1⟩ := Jvm.LawKit.callS X0 hx (y := (⟨"java/lang/Math", "min", "(JJ)J"⟩ : MethodName)) hown (mvT hZ (hw _ (List.mem_of_getElem? (i := 2) rfl))) (mvT hZ (hw _ (List.mem_of_getElem? (i := 3) rfl))) (mvT hZ (hw _ (List.mem_of_getElem? (i := 4) rfl))) (mvT hZ (hw _ (List.mem_of_getElem? (i := 5) rfl))) (by decide) (backOf (W := 0) (rm1 l Z a0 hw [] q1 q2  h0 n0 Z0 ) hZ (hw _ (List.mem_of_getElem? (i := 5) rfl)) (hw _ (List.mem_of_getElem? (i := 4) rfl)) (by decide) (by decide)) (g := (mkF m 2 #[.val (.long q1), .second, .val (.long q2), .second, .val (.long q3), .second] [(.long q2), (.long q1)])) rfl (by rw [hml]; rfl) (argsL := [(.long q1), (.long q2)]) (rest := []) (lenOf pd_0 rfl) rfl (by show 2 * 0 + _ ≤ _; exact Nat.le_of_eq rfl) (hb hby d6_2) (fun _ _ => ⟨rfl, e0, (by first | decide | exact Nat.le_of_ble_eq_true rfl), (by first | decide | exact Nat.le_of_ble_eq_true rfl)⟩)
  dsimp only [Pt.U, Pt.locs, Pt.cells, Pt.slots] at X1 ll1 y1 z1 st1 hQ1
  have X1 := own_sn X1 (k' := 0) (n' := 0) y1 z1
  obtain ⟨hv1, N1, e1⟩ := hQ1
  rw [hv1] at st1
  have NF1 := own_fr ll1 N0 N1
  refine own_go st1 ?_
  show own_Gl p.tables e below F (T1.setTop (mkF m 5 #[.val (.long q1), .second, .val (.long q2), .second, .val (.long q3), .second] [(.long (own_min q1 q2))]))
  refine own_go (fun _ k => XS.lloadN X1.here hx rfl (hb hby d6_5) rfl k) ?_
  show own_Gl p.tables e below F (T1.setTop (mkF m 6 #[.val (.long q1), .second, .val (.long q2), .second, .val (.long q3), .second] [(.long q1), (.long (own_min q1 q2))]))
  refine own_go (fun _ k => XS.lloadN X1.here hx rfl (hb hby d6_6) rfl k) ?_
  show own_Gl p.tables e below F (T1.setTop (mkF m 7 #[.val (.long q1), .second, .val (.long q2), .second, .val (.long q3), .second] [(.long q2), (.long q1), (.long (own_min q1 q2))]))
  obtain ⟨_, _, ⟨T2, L2, k2, n2⟩, -, X2, ⟨Lc2, hQ2, ll2, y2, z2⟩, st2⟩ := Jvm.LawKit.callS X1 hx (y := (⟨"java/lang/Math", "max", "(JJ)J"⟩ : MethodName)) hown (mvT hZ (hw _ (List.mem_of_getElem? (i := 6) rfl))) (mvT hZ (hw _ (List.mem_of_getElem? (i := 7) rfl))) (mvT hZ (hw _ (List.mem_of_getElem? (i := 4) rfl))) (mvT hZ (hw _ (List.mem_of_getElem? (i := 8) rfl))) (by decide) (backOf (W := 2) (rm2 l Z a0 hw [] q1 q2  h0 n0 Z0 ) hZ (hw _ (List.mem_of_getElem? (i := 8) rfl)) (hw _ (List.mem_of_getElem? (i := 4) rfl)) (by decide) (by decide)) (g := (mkF m 7 #[.val (.long q1), .second, .val (.long q2), .second, .val (.long q3), .second] [(.long q2), (.long q1), (.long (own_min q1 q2))])) rfl (by rw [hml]; rfl) (argsL := [(.long q1), (.long q2)]) (rest := [(.long (own_min q1 q2))]) (lenOf pd_0 rfl) rfl (by show 2 * 0 + _ ≤ _; exact Nat.le_of_eq rfl) (hb hby d6_7) (fun _ _ => ⟨rfl, e1, (by first | decide | exact Nat.le_of_ble_eq_true rfl), (by first | decide | exact Nat.le_of_ble_eq_true rfl)⟩)
  dsimp only [Pt.U, Pt.locs, Pt.cells, Pt.slots] at X2 ll2 y2 z2 st2 hQ2
  have X2 := own_sn X2 (k' := 0) (n' := 0) y2 z2
  obtain ⟨hv2, N2, e2⟩ := hQ2
  rw [hv2] at st2
  have NF2 := own_fr ll2 NF1 N2
  refine own_go st2 ?_
  show own_Gl p.tables e below F (T2.setTop (mkF m 10 #[.val (.long q1), .second, .val (.long q2), .second, .val (.long q3), .second] [(.long (own_max q1 q2)), (.long (own_min q1 q2))]))
  refine own_go (fun _ k => XS.lload X2.here hx rfl (hb hby d6_10) rfl k) ?_
  show own_Gl p.tables e below F (T2.setTop (mkF m 12 #[.val (.long q1), .second, .val (.long q2), .second, .val (.long q3), .second] [(.long q3), (.long (own_max q1 q2)), (.long (own_min q1 q2))]))
  obtain ⟨_, _, ⟨T3, L3, k3, n3⟩, -, X3, ⟨Lc3, hQ3, ll3, y3, z3⟩, st3⟩ := Jvm.LawKit.callS X2 hx (y := (⟨"java/lang/Math", "min", "(JJ)J"⟩ : MethodName)) hown (mvT hZ (hw _ (List.mem_of_getElem? (i := 2) rfl))) (mvT hZ (hw _ (List.mem_of_getElem? (i := 3) rfl))) (mvT hZ (hw _ (List.mem_of_getElem? (i := 4) rfl))) (mvT hZ (hw _ (List.mem_of_getElem? (i := 5) rfl))) (by decide) (backOf (W := 2) (rm1 l Z a0 hw [] (own_max q1 q2) q3  h0 n0 Z0 ) hZ (hw _ (List.mem_of_getElem? (i := 5) rfl)) (hw _ (List.mem_of_getElem? (i := 4) rfl)) (by decide) (by decide)) (g := (mkF m 12 #[.val (.long q1), .second, .val (.long q2), .second, .val (.long q3), .second] [(.long q3), (.long (own_max q1 q2)), (.long (own_min q1 q2))])) rfl (by rw [hml]; rfl) (argsL := [(.long (own_max q1 q2)), (.long q3)]) (rest := [(.long (own_min q1 q2))]) (lenOf pd_0 rfl) rfl (by show 2 * 0 + _ ≤ _; exact Nat.le_of_eq rfl) (hb hby d6_12) (fun _ _ => ⟨rfl, e2, (by first | decide | exact Nat.le_of_ble_eq_true rfl), (by first | decide | exact Nat.le_of_ble_eq_true rfl)⟩)
  dsimp only [Pt.U, Pt.locs, Pt.cells, Pt.slots] at X3 ll3 y3 z3 st3 hQ3
  have X3 := own_sn X3 (k' := 0) (n' := 0) y3 z3
  obtain ⟨hv3, N3, e3⟩ := hQ3
  rw [hv3] at st3
  have NF3 := own_fr ll3 NF2 N3
  refine own_go st3 ?_
  show own_Gl p.tables e below F (T3.setTop (mkF m 15 #[.val (.long q1), .second, .val (.long q2), .second, .val (.long q3), .second] [(.long (own_min (own_max q1 q2) q3)), (.long (own_min q1 q2))]))
  obtain ⟨_, _, ⟨T4, L4, k4, n4⟩, -, X4, ⟨Lc4, hQ4, ll4, y4, z4⟩, st4⟩ := Jvm.LawKit.callS X3 hx (y := (⟨"java/lang/Math", "max", "(JJ)J"⟩ : MethodName)) hown (mvT hZ (hw _ (List.mem_of_getElem? (i := 6) rfl))) (mvT hZ (hw _ (List.mem_of_getElem? (i := 7) rfl))) (mvT hZ (hw _ (List.mem_of_getElem? (i := 4) rfl))) (mvT hZ (hw _ (List.mem_of_getElem? (i := 8) rfl))) (by decide) (backOf (W := 0) (rm2 l Z a0 hw [] (own_min q1 q2) (own_min (own_max q1 q2) q3)  h0 n0 Z0 ) hZ (hw _ (List.mem_of_getElem? (i := 8) rfl)) (hw _ (List.mem_of_getElem? (i := 4) rfl)) (by decide) (by decide)) (g := (mkF m 15 #[.val (.long q1), .second, .val (.long q2), .second, .val (.long q3), .second] [(.long (own_min (own_max q1 q2) q3)), (.long (own_min q1 q2))])) rfl (by rw [hml]; rfl) (argsL := [(.long (own_min q1 q2)), (.long (own_min (own_max q1 q2) q3))]) (rest := []) (lenOf pd_0 rfl) rfl (by show 2 * 0 + _ ≤ _; exact Nat.le_of_eq rfl) (hb hby d6_15) (fun _ _ => ⟨rfl, e3, (by first | decide | exact Nat.le_of_ble_eq_true rfl), (by first | decide | exact Nat.le_of_ble_eq_true rfl)⟩)
  dsimp only [Pt.U, Pt.locs, Pt.cells, Pt.slots] at X4 ll4 y4 z4 st4 hQ4
  have X4 := own_sn X4 (k' := 0) (n' := 0) y4 z4
  obtain ⟨hv4, N4, e4⟩ := hQ4
  rw [hv4] at st4
  have NF4 := own_fr ll4 NF3 N4
  refine own_go st4 ?_
  show own_Gl p.tables e below F (T4.setTop (mkF m 18 #[.val (.long q1), .second, .val (.long q2), .second, .val (.long q3), .second] [(.long (own_max (own_min q1 q2) (own_min (own_max q1 q2) q3)))]))
  obtain ⟨fs, hr, hrun, hended, hW, hsame⟩ := X4.leave (v := some (.long (own_max (own_min q1 q2) (own_min (own_max q1 q2) q3)))) (fun h => by rw [Bd.returns] at h; cases h)
  subst hF
  refine own_fin ?_ ⟨hrun, hended, _, _, rfl, ?_, ⟨_, rfl⟩, hW, hsame.mono (by first | decide | exact Nat.le_of_ble_eq_true rfl) (by first | decide | exact Nat.le_of_ble_eq_true rfl)⟩
  · exact own_retJ X4 hx Bd.returns (hb hby d6_18) hr
  · show Q_rm6 Z _ _ _ h0 n0 _ T4.heap _
    rw [e4]
    exact ⟨rfl, NF4, rfl⟩
theorem ef_rm4 (m : MethodId) (x0 : Addr) (x1 : Int32) : entryFrame m #[(.ref x0), (.int x1)] 10 = mkF m 0 #[.val (.ref x0), .val (.int x1), .unset, .unset, .unset, .unset, .unset, .unset, .unset, .unset] [] := by first | (simp [entryFrame, mkF, argsToLocals, Value.category]; done) | rfl
theorem pn_1 : plainName "com/example/cores_from_twigs/coresfromtwigs/Main" = true := by first | (simp [plainName, overriddenIn]; done) | decide +kernel
theorem d4_36 : decode prog_1_method_13_code 36 = .ok (.aload_n 0, 1) := by decide +kernel
theorem d4_37 : decode prog_1_method_13_code 37 = .ok (.iload 6, 2) := by decide +kernel
theorem d4_39 : decode prog_1_method_13_code 39 = .ok (.laload, 1) := by decide +kernel
theorem d4_40 : decode prog_1_method_13_code 40 = .ok (.lload 4, 2) := by decide +kernel
theorem d4_42 : decode prog_1_method_13_code 42 = .ok (.lcmp, 1) := by decide +kernel
theorem d4_43 : decode prog_1_method_13_code 43 = .ok (.ifCond .ge 9, 3) := by decide +kernel
theorem d4_46 : decode prog_1_method_13_code 46 = .ok (.iinc 6 1, 3) := by decide +kernel
theorem d4_49 : decode prog_1_method_13_code 49 = .ok (.goto (-13), 3) := by decide +kernel
theorem d4_52 : decode prog_1_method_13_code 52 = .ok (.aload_n 0, 1) := by decide +kernel
theorem d4_53 : decode prog_1_method_13_code 53 = .ok (.iload 7, 2) := by decide +kernel
theorem d4_55 : decode prog_1_method_13_code 55 = .ok (.laload, 1) := by decide +kernel
theorem d4_56 : decode prog_1_method_13_code 56 = .ok (.lload 4, 2) := by decide +kernel
theorem d4_58 : decode prog_1_method_13_code 58 = .ok (.lcmp, 1) := by decide +kernel
theorem d4_59 : decode prog_1_method_13_code 59 = .ok (.ifCond .le 9, 3) := by decide +kernel
theorem d4_62 : decode prog_1_method_13_code 62 = .ok (.iinc 7 (-1), 3) := by decide +kernel
theorem d4_65 : decode prog_1_method_13_code 65 = .ok (.goto (-13), 3) := by decide +kernel
theorem d4_29 : decode prog_1_method_13_code 29 = .ok (.iload 6, 2) := by decide +kernel
theorem d4_31 : decode prog_1_method_13_code 31 = .ok (.iload 7, 2) := by decide +kernel
theorem d4_33 : decode prog_1_method_13_code 33 = .ok (.if_icmp .gt 71, 3) := by decide +kernel
theorem d4_68 : decode prog_1_method_13_code 68 = .ok (.iload 6, 2) := by decide +kernel
theorem d4_70 : decode prog_1_method_13_code 70 = .ok (.iload 7, 2) := by decide +kernel
theorem d4_72 : decode prog_1_method_13_code 72 = .ok (.if_icmp .gt (-43), 3) := by decide +kernel
theorem d4_88 : decode prog_1_method_13_code 88 = .ok (.lastore, 1) := by decide +kernel
theorem d4_94 : decode prog_1_method_13_code 94 = .ok (.lastore, 1) := by decide +kernel
theorem d4_75 : decode prog_1_method_13_code 75 = .ok (.aload_n 0, 1) := by decide +kernel
theorem d4_76 : decode prog_1_method_13_code 76 = .ok (.iload 6, 2) := by decide +kernel
theorem d4_78 : decode prog_1_method_13_code 78 = .ok (.laload, 1) := by decide +kernel
theorem d4_79 : decode prog_1_method_13_code 79 = .ok (.lstore 8, 2) := by decide +kernel
theorem d4_81 : decode prog_1_method_13_code 81 = .ok (.aload_n 0, 1) := by decide +kernel
theorem d4_82 : decode prog_1_method_13_code 82 = .ok (.iload 6, 2) := by decide +kernel
theorem d4_84 : decode prog_1_method_13_code 84 = .ok (.aload_n 0, 1) := by decide +kernel
theorem d4_85 : decode prog_1_method_13_code 85 = .ok (.iload 7, 2) := by decide +kernel
theorem d4_87 : decode prog_1_method_13_code 87 = .ok (.laload, 1) := by decide +kernel
theorem d4_89 : decode prog_1_method_13_code 89 = .ok (.aload_n 0, 1) := by decide +kernel
theorem d4_90 : decode prog_1_method_13_code 90 = .ok (.iload 7, 2) := by decide +kernel
theorem d4_92 : decode prog_1_method_13_code 92 = .ok (.lload 8, 2) := by decide +kernel
theorem d4_95 : decode prog_1_method_13_code 95 = .ok (.iinc 6 1, 3) := by decide +kernel
theorem d4_98 : decode prog_1_method_13_code 98 = .ok (.iinc 7 (-1), 3) := by decide +kernel
theorem d4_101 : decode prog_1_method_13_code 101 = .ok (.goto (-72), 3) := by decide +kernel
theorem d4_7 : decode prog_1_method_13_code 7 = .ok (.iload_n 2, 1) := by decide +kernel
theorem d4_8 : decode prog_1_method_13_code 8 = .ok (.iload_n 3, 1) := by decide +kernel
theorem d4_9 : decode prog_1_method_13_code 9 = .ok (.if_icmp .ge 119, 3) := by decide +kernel
theorem d4_12 : decode prog_1_method_13_code 12 = .ok (.aload_n 0, 1) := by decide +kernel
theorem d4_13 : decode prog_1_method_13_code 13 = .ok (.iload_n 2, 1) := by decide +kernel
theorem d4_14 : decode prog_1_method_13_code 14 = .ok (.iload_n 3, 1) := by decide +kernel
theorem d4_15 : decode prog_1_method_13_code 15 = .ok (.iload_n 2, 1) := by decide +kernel
theorem d4_16 : decode prog_1_method_13_code 16 = .ok (.isub, 1) := by decide +kernel
theorem d4_17 : decode prog_1_method_13_code 17 = .ok (.iconst 2, 1) := by decide +kernel
theorem d4_18 : decode prog_1_method_13_code 18 = .ok (.idiv, 1) := by decide +kernel
theorem d4_19 : decode prog_1_method_13_code 19 = .ok (.iadd, 1) := by decide +kernel
theorem d4_20 : decode prog_1_method_13_code 20 = .ok (.laload, 1) := by decide +kernel
theorem d4_21 : decode prog_1_method_13_code 21 = .ok (.lstore 4, 2) := by decide +kernel
theorem d4_23 : decode prog_1_method_13_code 23 = .ok (.iload_n 2, 1) := by decide +kernel
theorem d4_24 : decode prog_1_method_13_code 24 = .ok (.istore 6, 2) := by decide +kernel
theorem d4_26 : decode prog_1_method_13_code 26 = .ok (.iload_n 3, 1) := by decide +kernel
theorem d4_27 : decode prog_1_method_13_code 27 = .ok (.istore 7, 2) := by decide +kernel
theorem d4_104 : decode prog_1_method_13_code 104 = .ok (.iload_n 1, 1) := by decide +kernel
theorem d4_105 : decode prog_1_method_13_code 105 = .ok (.iload 7, 2) := by decide +kernel
theorem d4_107 : decode prog_1_method_13_code 107 = .ok (.if_icmp .gt 9, 3) := by decide +kernel
theorem d4_116 : decode prog_1_method_13_code 116 = .ok (.iload_n 1, 1) := by decide +kernel
theorem d4_117 : decode prog_1_method_13_code 117 = .ok (.iload 6, 2) := by decide +kernel
theorem d4_119 : decode prog_1_method_13_code 119 = .ok (.if_icmp .lt 9, 3) := by decide +kernel
theorem d4_122 : decode prog_1_method_13_code 122 = .ok (.iload 6, 2) := by decide +kernel
theorem d4_124 : decode prog_1_method_13_code 124 = .ok (.istore_n 2, 1) := by decide +kernel
theorem d4_125 : decode prog_1_method_13_code 125 = .ok (.goto (-118), 3) := by decide +kernel
theorem d4_110 : decode prog_1_method_13_code 110 = .ok (.iload 7, 2) := by decide +kernel
theorem d4_112 : decode prog_1_method_13_code 112 = .ok (.istore_n 3, 1) := by decide +kernel
theorem d4_113 : decode prog_1_method_13_code 113 = .ok (.goto 12, 3) := by decide +kernel
theorem d4_0 : decode prog_1_method_13_code 0 = .ok (.iconst 0, 1) := by decide +kernel
theorem d4_1 : decode prog_1_method_13_code 1 = .ok (.istore_n 2, 1) := by decide +kernel
theorem d4_2 : decode prog_1_method_13_code 2 = .ok (.aload_n 0, 1) := by decide +kernel
theorem d4_3 : decode prog_1_method_13_code 3 = .ok (.arraylength, 1) := by decide +kernel
theorem d4_4 : decode prog_1_method_13_code 4 = .ok (.iconst 1, 1) := by decide +kernel
theorem d4_5 : decode prog_1_method_13_code 5 = .ok (.isub, 1) := by decide +kernel
theorem d4_6 : decode prog_1_method_13_code 6 = .ok (.istore_n 3, 1) := by decide +kernel
theorem d4_128 : decode prog_1_method_13_code 128 = .ok (.aload_n 0, 1) := by decide +kernel
theorem d4_129 : decode prog_1_method_13_code 129 = .ok (.iload_n 1, 1) := by decide +kernel
theorem d4_130 : decode prog_1_method_13_code 130 = .ok (.laload, 1) := by decide +kernel
theorem d4_131 : decode prog_1_method_13_code 131 = .ok (.lreturn, 1) := by decide +kernel
def Q_rm4 (Z : State) (a : Addr) (K z : Int32) (f0 : Int → Int64) (h0 : Heap) (n0 : Nat) (v : Option Value) (h : Heap) (L : List Loc) : Prop := ∃ f : Int → Int64, v = some (.long (f K.toInt)) ∧ Fr n0 L ∧ Keep h0 h [a] ∧ own_A Z h a .long z (own_fl f) ∧ own_perm f f0 z.toNatClampNeg ∧ own_sel f K.toInt z.toInt
set_option maxRecDepth 65536 in
set_option maxHeartbeats 40000000 in
theorem rm4 (l : Launch) (Z : State) (a0 : Array Value) (hw : ∀ d ∈ tables_1, d.before a0 Z = true) (ws : List Jvm.Cond) (a : Addr) (K z : Int32) (f0 : Int → Int64) (h0 : Heap) (n0 : Nat) (Z0 : n0 ≤ h0.size) (A0 : own_A Z h0 a .long z (own_fl f0)) (hz : 1 ≤ z.toInt ∧ z.toInt ≤ 5) (hk : 0 ≤ K.toInt ∧ K.toInt < z.toInt) (g_a : n0 ≤ a) :
    MetFree l (⟨"com/example/cores_from_twigs/coresfromtwigs/Main", "selectInPlace", "([JI)J"⟩ : MethodName) (head1 (Jvm.Cond.code (⟨"com/example/cores_from_twigs/coresfromtwigs/Main", "selectInPlace", "([JI)J"⟩ : MethodName) prog_1_method_13_code 10 (some .long) :: ws) ({ frames := 0, cells := 0, slots := 0, locals := 0 } : Room)) (fun ag U => ag = #[(.ref a), (.int K)] ∧ Z.Warmed39 U.vm ∧ U.heap = h0) (fun _ _ _ _ _ => True) (fun _ U o U' => ∃ v L, o = .returned v ∧ Q_rm4 Z a K z f0 h0 n0 v U'.heap L ∧ FrameEnd U o U' L ({ frames := 0, cells := 0, slots := 0, locals := 0 } : Room).cells ({ frames := 0, cells := 0, slots := 0, locals := 0 } : Room).slots) := by
  refine MetFree.of_bodySF (plainFor_of_name pn_1) hisR ?_
  intro p e s m args below meth c s₁ Bd hml0 hP hK
  obtain ⟨rfl, hZ, hh⟩ := hP
  have hx := Bd.exec
  have hby := Bd.bytes
  have hml : c.maxLocals = 10 := hml0
  have hown : s.vm.findClass "com/example/cores_from_twigs/coresfromtwigs/Main" = some m.cls := findClass_of_methodNamed Bd.named
  have hnm := (name_of_methodNamed Bd.named Bd.method).1
  have X0 : Stand p l e ({ frames := 0, cells := 0, slots := 0, locals := 0 } : Room) s m #[(.ref a), (.int K)] below meth c s₁ [] 0 0 := Stand.of_body Bd
  have e0 : s₁.heap = h0 := by rw [← hh, Bd.state]; rfl
  have N0 := Fr.nil n0
  refine own_start (ef_rm4 m a K) ?_
  intro F hF
  show own_Gl p.tables e below F (s₁.setTop (mkF m 0 #[.val (.ref a), .val (.int K), .unset, .unset, .unset, .unset, .unset, .unset, .unset, .unset] []))
  have scan1 : ∀ (d : Nat) (T : State) (lc : List Loc) (X : Stand p l e ({ frames := 0, cells := 0, slots := 0, locals := 0 } : Room) s m #[(.ref a), (.int K)] below meth c T lc 0 0) (h : Heap) (eT : T.heap = h) (f : Int → Int64) (A : own_A Z h a .long z (own_fl f)) (LO HI I J : Int32) (pv : Int64) (s8 s9 : Slot) (x : Int), (x - I.toInt).toNat = d → 0 ≤ I.toInt → I.toInt ≤ x → x < z.toInt → pv.toInt ≤ (f x).toInt → ∃ I' : Int32, I.toInt ≤ I'.toInt ∧ I'.toInt ≤ x ∧ (∀ t, I.toInt ≤ t → t < I'.toInt → (f t).toInt ≤ pv.toInt) ∧ pv.toInt ≤ (f I'.toInt).toInt ∧ ∀ tg, Steps p.tables e below (T.setTop (mkF m 52 #[.val (.ref a), .val (.int K), .val (.int LO), .val (.int HI), .val (.long pv), .second, .val (.int I'), .val (.int J), s8, s9] [])) tg → Steps p.tables e below (T.setTop (mkF m 36 #[.val (.ref a), .val (.int K), .val (.int LO), .val (.int HI), .val (.long pv), .second, .val (.int I), .val (.int J), s8, s9] [])) tg := by
    intro d
    induction d using Nat.strongRecOn with
    | _ d ih =>
      intro T lc X h eT f A LO HI I J pv s8 s9 x hd hI hx1 hx2 hx3
      by_cases hlt : f I.toInt < pv
      · have hlt' := hlt
        rw [Int64.lt_iff_toInt_lt] at hlt'
        have hne : I.toInt ≠ x := fun q => by rw [q] at hlt'; omega
        have e1 := own_inc (I := I) (by omega) (by omega)
        have b1 : (x - (I + (1 : Int32)).toInt).toNat < d := by rw [← hd, e1]; omega
        have b2 : 0 ≤ (I + (1 : Int32)).toInt := by omega
        have b3 : (I + (1 : Int32)).toInt ≤ x := by omega
        obtain ⟨I', r1, r2, r3, r4, r5⟩ := ih _ b1 T lc X h eT f A LO HI (I + (1 : Int32)) J pv s8 s9 x rfl b2 b3 hx2 hx3
        refine ⟨I', by omega, r2, fun t q1 q2 => ?_, r4, fun tg k => ?_⟩
        · by_cases q : t = I.toInt
          · rw [q]; omega
          · exact r3 t (by omega) q2
        · show Steps p.tables e below (T.setTop (mkF m 36 #[.val (.ref a), .val (.int K), .val (.int LO), .val (.int HI), .val (.long pv), .second, .val (.int I), .val (.int J), s8, s9] [])) _
          refine XS.aloadN X.here hx rfl (hb hby d4_36) rfl rfl ?_
          show Steps p.tables e below (T.setTop (mkF m 37 #[.val (.ref a), .val (.int K), .val (.int LO), .val (.int HI), .val (.long pv), .second, .val (.int I), .val (.int J), s8, s9] [(.ref a)])) _
          refine XS.iload X.here hx rfl (hb hby d4_37) rfl ?_
          show Steps p.tables e below (T.setTop (mkF m 39 #[.val (.ref a), .val (.int K), .val (.int LO), .val (.int HI), .val (.long pv), .second, .val (.int I), .val (.int J), s8, s9] [(.int I), (.ref a)])) _
          obtain ⟨cl1, Ar1, aS1, aN1, aH1⟩ := id A
          have hin1 : ¬ (I < 0 ∨ cl1.slots.size ≤ (I).toNatClampNeg) := inb_of aS1 (own_inb hI (by omega))
          have hat1 : cl1.slots[(I).toNatClampNeg]? = some (.long (f I.toInt)) := (aH1 _ (Nat.lt_of_not_le fun y => hin1 (Or.inr y))).trans (congrArg some (own_at f hI))
          refine X.laload hx (j := I) (v := (.long (f I.toInt))) (by rw [eT]; exact Ar1.1) (State.isArrayOf_alike hZ.alike Ar1.2.1) Ar1.2.2 hin1 hat1 (g := (mkF m 39 #[.val (.ref a), .val (.int K), .val (.int LO), .val (.int HI), .val (.long pv), .second, .val (.int I), .val (.int J), s8, s9] [(.int I), (.ref a)])) rfl rfl (hb hby d4_39) _ ?_
          show Steps p.tables e below (T.setTop (mkF m 40 #[.val (.ref a), .val (.int K), .val (.int LO), .val (.int HI), .val (.long pv), .second, .val (.int I), .val (.int J), s8, s9] [(.long (f I.toInt))])) _
          refine XS.lload X.here hx rfl (hb hby d4_40) rfl ?_
          show Steps p.tables e below (T.setTop (mkF m 42 #[.val (.ref a), .val (.int K), .val (.int LO), .val (.int HI), .val (.long pv), .second, .val (.int I), .val (.int J), s8, s9] [(.long pv), (.long (f I.toInt))])) _
          refine XS.lcmp X.here hx rfl (hb hby d4_42) rfl ?_
          show Steps p.tables e below (T.setTop (mkF m 43 #[.val (.ref a), .val (.int K), .val (.int LO), .val (.int HI), .val (.long pv), .second, .val (.int I), .val (.int J), s8, s9] [(.int (XT.cmpL (f I.toInt) pv))])) _
          refine XS.ifNo X.here hx rfl (hb hby d4_43) rfl (XT.ll_ge_f hlt) ?_
          show Steps p.tables e below (T.setTop (mkF m 46 #[.val (.ref a), .val (.int K), .val (.int LO), .val (.int HI), .val (.long pv), .second, .val (.int I), .val (.int J), s8, s9] [])) _
          refine XS.iinc X.here hx rfl (hb hby d4_46) rfl (l' := #[.val (.ref a), .val (.int K), .val (.int LO), .val (.int HI), .val (.long pv), .second, .val (.int (I + (1 : Int32))), .val (.int J), s8, s9]) rfl ?_
          show Steps p.tables e below (T.setTop (mkF m 49 #[.val (.ref a), .val (.int K), .val (.int LO), .val (.int HI), .val (.long pv), .second, .val (.int (I + (1 : Int32))), .val (.int J), s8, s9] [])) _
          refine XS.goto X.here hx rfl (pc0 := 49) (pc' := 36) rfl (hb hby d4_49) (by decide) (by decide) ?_
          show Steps p.tables e below (T.setTop (mkF m 36 #[.val (.ref a), .val (.int K), .val (.int LO), .val (.int HI), .val (.long pv), .second, .val (.int (I + (1 : Int32))), .val (.int J), s8, s9] [])) _
          exact r5 tg k
      · have hge := hlt
        rw [Int64.lt_iff_toInt_lt] at hge
        refine ⟨I, Int.le_refl _, hx1, fun t q1 q2 => by omega, by omega, fun tg k => ?_⟩
        show Steps p.tables e below (T.setTop (mkF m 36 #[.val (.ref a), .val (.int K), .val (.int LO), .val (.int HI), .val (.long pv), .second, .val (.int I), .val (.int J), s8, s9] [])) _
        refine XS.aloadN X.here hx rfl (hb hby d4_36) rfl rfl ?_
        show Steps p.tables e below (T.setTop (mkF m 37 #[.val (.ref a), .val (.int K), .val (.int LO), .val (.int HI), .val (.long pv), .second, .val (.int I), .val (.int J), s8, s9] [(.ref a)])) _
        refine XS.iload X.here hx rfl (hb hby d4_37) rfl ?_
        show Steps p.tables e below (T.setTop (mkF m 39 #[.val (.ref a), .val (.int K), .val (.int LO), .val (.int HI), .val (.long pv), .second, .val (.int I), .val (.int J), s8, s9] [(.int I), (.ref a)])) _
        obtain ⟨cl2, Ar2, aS2, aN2, aH2⟩ := id A
        have hin2 : ¬ (I < 0 ∨ cl2.slots.size ≤ (I).toNatClampNeg) := inb_of aS2 (own_inb hI (by omega))
        have hat2 : cl2.slots[(I).toNatClampNeg]? = some (.long (f I.toInt)) := (aH2 _ (Nat.lt_of_not_le fun y => hin2 (Or.inr y))).trans (congrArg some (own_at f hI))
        refine X.laload hx (j := I) (v := (.long (f I.toInt))) (by rw [eT]; exact Ar2.1) (State.isArrayOf_alike hZ.alike Ar2.2.1) Ar2.2.2 hin2 hat2 (g := (mkF m 39 #[.val (.ref a), .val (.int K), .val (.int LO), .val (.int HI), .val (.long pv), .second, .val (.int I), .val (.int J), s8, s9] [(.int I), (.ref a)])) rfl rfl (hb hby d4_39) _ ?_
        show Steps p.tables e below (T.setTop (mkF m 40 #[.val (.ref a), .val (.int K), .val (.int LO), .val (.int HI), .val (.long pv), .second, .val (.int I), .val (.int J), s8, s9] [(.long (f I.toInt))])) _
        refine XS.lload X.here hx rfl (hb hby d4_40) rfl ?_
        show Steps p.tables e below (T.setTop (mkF m 42 #[.val (.ref a), .val (.int K), .val (.int LO), .val (.int HI), .val (.long pv), .second, .val (.int I), .val (.int J), s8, s9] [(.long pv), (.long (f I.toInt))])) _
        refine XS.lcmp X.here hx rfl (hb hby d4_42) rfl ?_
        show Steps p.tables e below (T.setTop (mkF m 43 #[.val (.ref a), .val (.int K), .val (.int LO), .val (.int HI), .val (.long pv), .second, .val (.int I), .val (.int J), s8, s9] [(.int (XT.cmpL (f I.toInt) pv))])) _
        refine XS.ifYes X.here hx rfl (pc0 := 43) (pc' := 52) rfl (hb hby d4_43) rfl (XT.ll_ge_t hlt) (by decide) (by decide) ?_
        show Steps p.tables e below (T.setTop (mkF m 52 #[.val (.ref a), .val (.int K), .val (.int LO), .val (.int HI), .val (.long pv), .second, .val (.int I), .val (.int J), s8, s9] [])) _
        exact k
  have scan2 : ∀ (d : Nat) (T : State) (lc : List Loc) (X : Stand p l e ({ frames := 0, cells := 0, slots := 0, locals := 0 } : Room) s m #[(.ref a), (.int K)] below meth c T lc 0 0) (h : Heap) (eT : T.heap = h) (f : Int → Int64) (A : own_A Z h a .long z (own_fl f)) (LO HI I J : Int32) (pv : Int64) (s8 s9 : Slot) (y : Int), (J.toInt - y).toNat = d → 0 ≤ y → y ≤ J.toInt → J.toInt < z.toInt → (f y).toInt ≤ pv.toInt → ∃ J' : Int32, J'.toInt ≤ J.toInt ∧ y ≤ J'.toInt ∧ (∀ t, J'.toInt < t → t ≤ J.toInt → pv.toInt ≤ (f t).toInt) ∧ (f J'.toInt).toInt ≤ pv.toInt ∧ ∀ tg, Steps p.tables e below (T.setTop (mkF m 68 #[.val (.ref a), .val (.int K), .val (.int LO), .val (.int HI), .val (.long pv), .second, .val (.int I), .val (.int J'), s8, s9] [])) tg → Steps p.tables e below (T.setTop (mkF m 52 #[.val (.ref a), .val (.int K), .val (.int LO), .val (.int HI), .val (.long pv), .second, .val (.int I), .val (.int J), s8, s9] [])) tg := by
    intro d
    induction d using Nat.strongRecOn with
    | _ d ih =>
      intro T lc X h eT f A LO HI I J pv s8 s9 y hd hy1 hy2 hJ hy3
      by_cases hlt : pv < f J.toInt
      · have hlt' := hlt
        rw [Int64.lt_iff_toInt_lt] at hlt'
        have hne : J.toInt ≠ y := fun q => by rw [q] at hlt'; omega
        have e1 := own_dec (I := J) (by omega) (by omega)
        obtain ⟨J1, eJ1⟩ : ∃ J1 : Int32, J1 = J + (-1 : Int32) := ⟨_, rfl⟩
        rw [← eJ1] at e1
        have b1 : (J1.toInt - y).toNat < d := by rw [← hd, e1]; omega
        have b2 : y ≤ J1.toInt := by omega
        have b3 : J1.toInt < z.toInt := by omega
        obtain ⟨J', r1, r2, r3, r4, r5⟩ := ih _ b1 T lc X h eT f A LO HI I J1 pv s8 s9 y rfl hy1 b2 b3 hy3
        rw [eJ1] at r5
        refine ⟨J', by omega, r2, fun t q1 q2 => ?_, r4, fun tg k => ?_⟩
        · by_cases q : t = J.toInt
          · rw [q]; omega
          · exact r3 t q1 (by omega)
        · show Steps p.tables e below (T.setTop (mkF m 52 #[.val (.ref a), .val (.int K), .val (.int LO), .val (.int HI), .val (.long pv), .second, .val (.int I), .val (.int J), s8, s9] [])) _
          refine XS.aloadN X.here hx rfl (hb hby d4_52) rfl rfl ?_
          show Steps p.tables e below (T.setTop (mkF m 53 #[.val (.ref a), .val (.int K), .val (.int LO), .val (.int HI), .val (.long pv), .second, .val (.int I), .val (.int J), s8, s9] [(.ref a)])) _
          refine XS.iload X.here hx rfl (hb hby d4_53) rfl ?_
          show Steps p.tables e below (T.setTop (mkF m 55 #[.val (.ref a), .val (.int K), .val (.int LO), .val (.int HI), .val (.long pv), .second, .val (.int I), .val (.int J), s8, s9] [(.int J), (.ref a)])) _
          obtain ⟨cl3, Ar3, aS3, aN3, aH3⟩ := id A
          have hin3 : ¬ (J < 0 ∨ cl3.slots.size ≤ (J).toNatClampNeg) := inb_of aS3 (own_inb (by omega) hJ)
          have hat3 : cl3.slots[(J).toNatClampNeg]? = some (.long (f J.toInt)) := (aH3 _ (Nat.lt_of_not_le fun y => hin3 (Or.inr y))).trans (congrArg some (own_at f (by omega)))
          refine X.laload hx (j := J) (v := (.long (f J.toInt))) (by rw [eT]; exact Ar3.1) (State.isArrayOf_alike hZ.alike Ar3.2.1) Ar3.2.2 hin3 hat3 (g := (mkF m 55 #[.val (.ref a), .val (.int K), .val (.int LO), .val (.int HI), .val (.long pv), .second, .val (.int I), .val (.int J), s8, s9] [(.int J), (.ref a)])) rfl rfl (hb hby d4_55) _ ?_
          show Steps p.tables e below (T.setTop (mkF m 56 #[.val (.ref a), .val (.int K), .val (.int LO), .val (.int HI), .val (.long pv), .second, .val (.int I), .val (.int J), s8, s9] [(.long (f J.toInt))])) _
          refine XS.lload X.here hx rfl (hb hby d4_56) rfl ?_
          show Steps p.tables e below (T.setTop (mkF m 58 #[.val (.ref a), .val (.int K), .val (.int LO), .val (.int HI), .val (.long pv), .second, .val (.int I), .val (.int J), s8, s9] [(.long pv), (.long (f J.toInt))])) _
          refine XS.lcmp X.here hx rfl (hb hby d4_58) rfl ?_
          show Steps p.tables e below (T.setTop (mkF m 59 #[.val (.ref a), .val (.int K), .val (.int LO), .val (.int HI), .val (.long pv), .second, .val (.int I), .val (.int J), s8, s9] [(.int (XT.cmpL (f J.toInt) pv))])) _
          refine XS.ifNo X.here hx rfl (hb hby d4_59) rfl (XT.ll_le_f hlt) ?_
          show Steps p.tables e below (T.setTop (mkF m 62 #[.val (.ref a), .val (.int K), .val (.int LO), .val (.int HI), .val (.long pv), .second, .val (.int I), .val (.int J), s8, s9] [])) _
          refine XS.iinc X.here hx rfl (hb hby d4_62) rfl (l' := #[.val (.ref a), .val (.int K), .val (.int LO), .val (.int HI), .val (.long pv), .second, .val (.int I), .val (.int (J + (-1 : Int32))), s8, s9]) rfl ?_
          show Steps p.tables e below (T.setTop (mkF m 65 #[.val (.ref a), .val (.int K), .val (.int LO), .val (.int HI), .val (.long pv), .second, .val (.int I), .val (.int (J + (-1 : Int32))), s8, s9] [])) _
          refine XS.goto X.here hx rfl (pc0 := 65) (pc' := 52) rfl (hb hby d4_65) (by decide) (by decide) ?_
          show Steps p.tables e below (T.setTop (mkF m 52 #[.val (.ref a), .val (.int K), .val (.int LO), .val (.int HI), .val (.long pv), .second, .val (.int I), .val (.int (J + (-1 : Int32))), s8, s9] [])) _
          exact r5 tg k
      · have hge := hlt
        rw [Int64.lt_iff_toInt_lt] at hge
        refine ⟨J, Int.le_refl _, hy2, fun t q1 q2 => by omega, by omega, fun tg k => ?_⟩
        show Steps p.tables e below (T.setTop (mkF m 52 #[.val (.ref a), .val (.int K), .val (.int LO), .val (.int HI), .val (.long pv), .second, .val (.int I), .val (.int J), s8, s9] [])) _
        refine XS.aloadN X.here hx rfl (hb hby d4_52) rfl rfl ?_
        show Steps p.tables e below (T.setTop (mkF m 53 #[.val (.ref a), .val (.int K), .val (.int LO), .val (.int HI), .val (.long pv), .second, .val (.int I), .val (.int J), s8, s9] [(.ref a)])) _
        refine XS.iload X.here hx rfl (hb hby d4_53) rfl ?_
        show Steps p.tables e below (T.setTop (mkF m 55 #[.val (.ref a), .val (.int K), .val (.int LO), .val (.int HI), .val (.long pv), .second, .val (.int I), .val (.int J), s8, s9] [(.int J), (.ref a)])) _
        obtain ⟨cl4, Ar4, aS4, aN4, aH4⟩ := id A
        have hin4 : ¬ (J < 0 ∨ cl4.slots.size ≤ (J).toNatClampNeg) := inb_of aS4 (own_inb (by omega) hJ)
        have hat4 : cl4.slots[(J).toNatClampNeg]? = some (.long (f J.toInt)) := (aH4 _ (Nat.lt_of_not_le fun y => hin4 (Or.inr y))).trans (congrArg some (own_at f (by omega)))
        refine X.laload hx (j := J) (v := (.long (f J.toInt))) (by rw [eT]; exact Ar4.1) (State.isArrayOf_alike hZ.alike Ar4.2.1) Ar4.2.2 hin4 hat4 (g := (mkF m 55 #[.val (.ref a), .val (.int K), .val (.int LO), .val (.int HI), .val (.long pv), .second, .val (.int I), .val (.int J), s8, s9] [(.int J), (.ref a)])) rfl rfl (hb hby d4_55) _ ?_
        show Steps p.tables e below (T.setTop (mkF m 56 #[.val (.ref a), .val (.int K), .val (.int LO), .val (.int HI), .val (.long pv), .second, .val (.int I), .val (.int J), s8, s9] [(.long (f J.toInt))])) _
        refine XS.lload X.here hx rfl (hb hby d4_56) rfl ?_
        show Steps p.tables e below (T.setTop (mkF m 58 #[.val (.ref a), .val (.int K), .val (.int LO), .val (.int HI), .val (.long pv), .second, .val (.int I), .val (.int J), s8, s9] [(.long pv), (.long (f J.toInt))])) _
        refine XS.lcmp X.here hx rfl (hb hby d4_58) rfl ?_
        show Steps p.tables e below (T.setTop (mkF m 59 #[.val (.ref a), .val (.int K), .val (.int LO), .val (.int HI), .val (.long pv), .second, .val (.int I), .val (.int J), s8, s9] [(.int (XT.cmpL (f J.toInt) pv))])) _
        refine XS.ifYes X.here hx rfl (pc0 := 59) (pc' := 68) rfl (hb hby d4_59) rfl (XT.ll_le_t hlt) (by decide) (by decide) ?_
        show Steps p.tables e below (T.setTop (mkF m 68 #[.val (.ref a), .val (.int K), .val (.int LO), .val (.int HI), .val (.long pv), .second, .val (.int I), .val (.int J), s8, s9] [])) _
        exact k
  have part : ∀ (d : Nat) (T : State) (lc : List Loc) (X : Stand p l e ({ frames := 0, cells := 0, slots := 0, locals := 0 } : Room) s m #[(.ref a), (.int K)] below meth c T lc 0 0) (h : Heap) (eT : T.heap = h) (f : Int → Int64) (A : own_A Z h a .long z (own_fl f)) (NF : Fr n0 lc) (KK : Keep h0 h [a]) (ZN : n0 ≤ h.size) (LO HI I J : Int32) (pv : Int64) (s8 s9 : Slot), (J.toInt - I.toInt + 1).toNat = d → own_2 s8 s9 → 0 ≤ LO.toInt → HI.toInt < z.toInt → own_mode f LO.toInt HI.toInt I.toInt J.toInt pv.toInt → ∃ (T' : State) (lc' : List Loc) (h' : Heap) (f' : Int → Int64) (I' J' : Int32) (s8' s9' : Slot), Stand p l e ({ frames := 0, cells := 0, slots := 0, locals := 0 } : Room) s m #[(.ref a), (.int K)] below meth c T' lc' 0 0 ∧ T'.heap = h' ∧ own_A Z h' a .long z (own_fl f') ∧ Fr n0 lc' ∧ Keep h0 h' [a] ∧ n0 ≤ h'.size ∧ own_2 s8' s9' ∧ own_perm f' f z.toNatClampNeg ∧ own_part f f' LO.toInt HI.toInt I'.toInt J'.toInt pv.toInt ∧ ∀ tg, Steps p.tables e below (T'.setTop (mkF m 104 #[.val (.ref a), .val (.int K), .val (.int LO), .val (.int HI), .val (.long pv), .second, .val (.int I'), .val (.int J'), s8', s9'] [])) tg → Steps p.tables e below (T.setTop (mkF m 29 #[.val (.ref a), .val (.int K), .val (.int LO), .val (.int HI), .val (.long pv), .second, .val (.int I), .val (.int J), s8, s9] [])) tg := by
    intro d
    induction d using Nat.strongRecOn with
    | _ d ih =>
      intro T lc X h eT f A NF KK ZN LO HI I J pv s8 s9 hd hs hlo hhi hm
      by_cases hc : J < I
      · have hc' := hc
        rw [Int32.lt_iff_toInt_lt] at hc'
        refine ⟨T, lc, h, f, I, J, s8, s9, X, eT, A, NF, KK, ZN, hs, fun _ => rfl, own_part_end hm hc', fun tg k => ?_⟩
        show Steps p.tables e below (T.setTop (mkF m 29 #[.val (.ref a), .val (.int K), .val (.int LO), .val (.int HI), .val (.long pv), .second, .val (.int I), .val (.int J), s8, s9] [])) _
        refine XS.iload X.here hx rfl (hb hby d4_29) rfl ?_
        show Steps p.tables e below (T.setTop (mkF m 31 #[.val (.ref a), .val (.int K), .val (.int LO), .val (.int HI), .val (.long pv), .second, .val (.int I), .val (.int J), s8, s9] [(.int I)])) _
        refine XS.iload X.here hx rfl (hb hby d4_31) rfl ?_
        show Steps p.tables e below (T.setTop (mkF m 33 #[.val (.ref a), .val (.int K), .val (.int LO), .val (.int HI), .val (.long pv), .second, .val (.int I), .val (.int J), s8, s9] [(.int J), (.int I)])) _
        refine XS.icmpYes X.here hx rfl (pc0 := 33) (pc' := 104) rfl (hb hby d4_33) rfl (XT.ii_gt_t hc) (by decide) (by decide) ?_
        show Steps p.tables e below (T.setTop (mkF m 104 #[.val (.ref a), .val (.int K), .val (.int LO), .val (.int HI), .val (.long pv), .second, .val (.int I), .val (.int J), s8, s9] [])) _
        exact k
      · have hc' := hc
        rw [Int32.lt_iff_toInt_lt] at hc'
        have hm' := hm
        obtain ⟨a1, a2, a3, a4, a5, a6, a7⟩ := hm'
        obtain ⟨b0, x, y, x1, x2, x3, y1, y2, y3, xy⟩ := a7.resolve_right (fun q => by omega)
        obtain ⟨I', r1, r2, r3, r4, r5⟩ := scan1 _ T lc X h eT f A LO HI I J pv s8 s9 x rfl (by omega) x1 (by omega) x3
        obtain ⟨J', t1, t2, t3, t4, t5⟩ := scan2 _ T lc X h eT f A LO HI I' J pv s8 s9 y rfl (by omega) y2 (by omega) y3
        by_cases hg : J' < I'
        · have hg' := hg
          rw [Int32.lt_iff_toInt_lt] at hg'
          have b1 : (J'.toInt - I'.toInt + 1).toNat < d := by rw [← hd]; omega
          obtain ⟨T', lc', h', f', I2, J2, u8, u9, c1, c2, c3, c4, c5, c6, c7, c8, c9, c10⟩ := ih _ b1 T lc X h eT f A NF KK ZN LO HI I' J' pv s8 s9 rfl hs hlo hhi (own_mode_stop hm r1 t1 hg' r2 x2 t2 y1 xy r3 t3)
          refine ⟨T', lc', h', f', I2, J2, u8, u9, c1, c2, c3, c4, c5, c6, c7, c8, c9, fun tg k => ?_⟩
          show Steps p.tables e below (T.setTop (mkF m 29 #[.val (.ref a), .val (.int K), .val (.int LO), .val (.int HI), .val (.long pv), .second, .val (.int I), .val (.int J), s8, s9] [])) _
          refine XS.iload X.here hx rfl (hb hby d4_29) rfl ?_
          show Steps p.tables e below (T.setTop (mkF m 31 #[.val (.ref a), .val (.int K), .val (.int LO), .val (.int HI), .val (.long pv), .second, .val (.int I), .val (.int J), s8, s9] [(.int I)])) _
          refine XS.iload X.here hx rfl (hb hby d4_31) rfl ?_
          show Steps p.tables e below (T.setTop (mkF m 33 #[.val (.ref a), .val (.int K), .val (.int LO), .val (.int HI), .val (.long pv), .second, .val (.int I), .val (.int J), s8, s9] [(.int J), (.int I)])) _
          refine XS.icmpNo X.here hx rfl (hb hby d4_33) rfl (XT.ii_gt_f hc) ?_
          show Steps p.tables e below (T.setTop (mkF m 36 #[.val (.ref a), .val (.int K), .val (.int LO), .val (.int HI), .val (.long pv), .second, .val (.int I), .val (.int J), s8, s9] [])) _
          refine r5 tg ?_
          show Steps p.tables e below (T.setTop (mkF m 52 #[.val (.ref a), .val (.int K), .val (.int LO), .val (.int HI), .val (.long pv), .second, .val (.int I'), .val (.int J), s8, s9] [])) _
          refine t5 tg ?_
          show Steps p.tables e below (T.setTop (mkF m 68 #[.val (.ref a), .val (.int K), .val (.int LO), .val (.int HI), .val (.long pv), .second, .val (.int I'), .val (.int J'), s8, s9] [])) _
          refine XS.iload X.here hx rfl (hb hby d4_68) rfl ?_
          show Steps p.tables e below (T.setTop (mkF m 70 #[.val (.ref a), .val (.int K), .val (.int LO), .val (.int HI), .val (.long pv), .second, .val (.int I'), .val (.int J'), s8, s9] [(.int I')])) _
          refine XS.iload X.here hx rfl (hb hby d4_70) rfl ?_
          show Steps p.tables e below (T.setTop (mkF m 72 #[.val (.ref a), .val (.int K), .val (.int LO), .val (.int HI), .val (.long pv), .second, .val (.int I'), .val (.int J'), s8, s9] [(.int J'), (.int I')])) _
          refine XS.icmpYes X.here hx rfl (pc0 := 72) (pc' := 29) rfl (hb hby d4_72) rfl (XT.ii_gt_t hg) (by decide) (by decide) ?_
          show Steps p.tables e below (T.setTop (mkF m 29 #[.val (.ref a), .val (.int K), .val (.int LO), .val (.int HI), .val (.long pv), .second, .val (.int I'), .val (.int J'), s8, s9] [])) _
          exact c10 tg k
        · have hg' := hg
          rw [Int32.lt_iff_toInt_lt] at hg'
          have hI0 : 0 ≤ I'.toInt := by omega
          have hJ0 : 0 ≤ J'.toInt := by omega
          have hI1 : I'.toInt < z.toInt := by omega
          have hJ1 : J'.toInt < z.toInt := by omega
          obtain ⟨cl1, Ar1, aS1, aN1, aH1⟩ := A
          have hin1 := inb_of (j := I') aS1 (own_inb hI0 hI1)
          obtain ⟨T1, h1, X1, e1, W1, st1⟩ := stJ X hx hZ eT Ar1 (j := I') hin1 (g := (mkF m 88 #[.val (.ref a), .val (.int K), .val (.int LO), .val (.int HI), .val (.long pv), .second, .val (.int I'), .val (.int J'), .val (.long (f I'.toInt)), .second] [(.long (f J'.toInt)), (.int I'), (.ref a)])) rfl rfl (hb hby d4_88)
          have A1 := (own_A.set (g := own_fl f) ⟨cl1, Ar1, aS1, aN1, aH1⟩ W1).of (fun k _ => own_set f hI0 (f J'.toInt) k)
          have N1 := Fr.snoc X1 NF g_a
          have K1 := Keep.wr KK W1 (Or.inl (by simp))
          have Z1 : n0 ≤ h1.size := by rw [W1.size]; exact ZN
          obtain ⟨cl2, Ar2, aS2, aN2, aH2⟩ := A1
          have hin2 := inb_of (j := J') aS2 (own_inb hJ0 hJ1)
          obtain ⟨T2, h2, X2, e2, W2, st2⟩ := stJ X1 hx hZ e1 Ar2 (j := J') hin2 (g := (mkF m 94 #[.val (.ref a), .val (.int K), .val (.int LO), .val (.int HI), .val (.long pv), .second, .val (.int I'), .val (.int J'), .val (.long (f I'.toInt)), .second] [(.long (f I'.toInt)), (.int J'), (.ref a)])) rfl rfl (hb hby d4_94)
          have A2 : own_A Z h2 a .long z (own_fl (own_swap f I'.toInt J'.toInt)) := (own_A.set (g := own_fl (own_upd f I'.toInt (f J'.toInt))) ⟨cl2, Ar2, aS2, aN2, aH2⟩ W2).of (fun k _ => own_set (own_upd f I'.toInt (f J'.toInt)) hJ0 (f I'.toInt) k)
          have N2 := Fr.snoc X2 N1 g_a
          have K2 := Keep.wr K1 W2 (Or.inl (by simp))
          have Z2 : n0 ≤ h2.size := by rw [W2.size]; exact Z1
          have i1 := own_inc (I := I') (by omega) (by omega)
          have j1 := own_dec (I := J') (by omega) (by omega)
          obtain ⟨I3, eI3⟩ : ∃ I3 : Int32, I3 = I' + (1 : Int32) := ⟨_, rfl⟩
          obtain ⟨J3, eJ3⟩ : ∃ J3 : Int32, J3 = J' + (-1 : Int32) := ⟨_, rfl⟩
          rw [← eI3] at i1
          rw [← eJ3] at j1
          have b1 : (J3.toInt - I3.toInt + 1).toNat < d := own_meas hd i1 j1 r1 t1 (Int.not_lt.mp hg')
          obtain ⟨T', lc', h', f', I2, J2, u8, u9, c1, c2, c3, c4, c5, c6, c7, c8, c9, c10⟩ := ih _ b1 T2 _ X2 h2 e2 (own_swap f I'.toInt J'.toInt) A2 N2 K2 Z2 LO HI I3 J3 pv (.val (.long (f I'.toInt))) .second rfl (Or.inr ⟨_, rfl, rfl⟩) hlo hhi (by rw [i1, j1]; exact own_mode_swap hm r1 t1 (by omega) r3 t3 r4 t4)
          rw [eI3, eJ3] at c10
          have zz : ((z.toNatClampNeg : Nat) : Int) = z.toInt := own_clamp (by omega)
          refine ⟨T', lc', h', f', I2, J2, u8, u9, c1, c2, c3, c4, c5, c6, c7, fun P => (c8 P).trans (own_perm_swap f ⟨hI0, by omega⟩ ⟨hJ0, by omega⟩ P), own_part_swap ⟨by omega, by omega⟩ ⟨by omega, by omega⟩ c9, fun tg k => ?_⟩
          have A := (⟨cl1, Ar1, aS1, aN1, aH1⟩ : own_A Z h a .long z (own_fl f))
          show Steps p.tables e below (T.setTop (mkF m 29 #[.val (.ref a), .val (.int K), .val (.int LO), .val (.int HI), .val (.long pv), .second, .val (.int I), .val (.int J), s8, s9] [])) _
          refine XS.iload X.here hx rfl (hb hby d4_29) rfl ?_
          show Steps p.tables e below (T.setTop (mkF m 31 #[.val (.ref a), .val (.int K), .val (.int LO), .val (.int HI), .val (.long pv), .second, .val (.int I), .val (.int J), s8, s9] [(.int I)])) _
          refine XS.iload X.here hx rfl (hb hby d4_31) rfl ?_
          show Steps p.tables e below (T.setTop (mkF m 33 #[.val (.ref a), .val (.int K), .val (.int LO), .val (.int HI), .val (.long pv), .second, .val (.int I), .val (.int J), s8, s9] [(.int J), (.int I)])) _
          refine XS.icmpNo X.here hx rfl (hb hby d4_33) rfl (XT.ii_gt_f hc) ?_
          show Steps p.tables e below (T.setTop (mkF m 36 #[.val (.ref a), .val (.int K), .val (.int LO), .val (.int HI), .val (.long pv), .second, .val (.int I), .val (.int J), s8, s9] [])) _
          refine r5 tg ?_
          show Steps p.tables e below (T.setTop (mkF m 52 #[.val (.ref a), .val (.int K), .val (.int LO), .val (.int HI), .val (.long pv), .second, .val (.int I'), .val (.int J), s8, s9] [])) _
          refine t5 tg ?_
          show Steps p.tables e below (T.setTop (mkF m 68 #[.val (.ref a), .val (.int K), .val (.int LO), .val (.int HI), .val (.long pv), .second, .val (.int I'), .val (.int J'), s8, s9] [])) _
          refine XS.iload X.here hx rfl (hb hby d4_68) rfl ?_
          show Steps p.tables e below (T.setTop (mkF m 70 #[.val (.ref a), .val (.int K), .val (.int LO), .val (.int HI), .val (.long pv), .second, .val (.int I'), .val (.int J'), s8, s9] [(.int I')])) _
          refine XS.iload X.here hx rfl (hb hby d4_70) rfl ?_
          show Steps p.tables e below (T.setTop (mkF m 72 #[.val (.ref a), .val (.int K), .val (.int LO), .val (.int HI), .val (.long pv), .second, .val (.int I'), .val (.int J'), s8, s9] [(.int J'), (.int I')])) _
          refine XS.icmpNo X.here hx rfl (hb hby d4_72) rfl (XT.ii_gt_f hg) ?_
          show Steps p.tables e below (T.setTop (mkF m 75 #[.val (.ref a), .val (.int K), .val (.int LO), .val (.int HI), .val (.long pv), .second, .val (.int I'), .val (.int J'), s8, s9] [])) _
          refine XS.aloadN X.here hx rfl (hb hby d4_75) rfl rfl ?_
          show Steps p.tables e below (T.setTop (mkF m 76 #[.val (.ref a), .val (.int K), .val (.int LO), .val (.int HI), .val (.long pv), .second, .val (.int I'), .val (.int J'), s8, s9] [(.ref a)])) _
          refine XS.iload X.here hx rfl (hb hby d4_76) rfl ?_
          show Steps p.tables e below (T.setTop (mkF m 78 #[.val (.ref a), .val (.int K), .val (.int LO), .val (.int HI), .val (.long pv), .second, .val (.int I'), .val (.int J'), s8, s9] [(.int I'), (.ref a)])) _
          obtain ⟨cl5, Ar5, aS5, aN5, aH5⟩ := id A
          have hin5 : ¬ (I' < 0 ∨ cl5.slots.size ≤ (I').toNatClampNeg) := inb_of aS5 (own_inb hI0 hI1)
          have hat5 : cl5.slots[(I').toNatClampNeg]? = some (.long (f I'.toInt)) := (aH5 _ (Nat.lt_of_not_le fun y => hin5 (Or.inr y))).trans (congrArg some (own_at f hI0))
          refine X.laload hx (j := I') (v := (.long (f I'.toInt))) (by rw [eT]; exact Ar5.1) (State.isArrayOf_alike hZ.alike Ar5.2.1) Ar5.2.2 hin5 hat5 (g := (mkF m 78 #[.val (.ref a), .val (.int K), .val (.int LO), .val (.int HI), .val (.long pv), .second, .val (.int I'), .val (.int J'), s8, s9] [(.int I'), (.ref a)])) rfl rfl (hb hby d4_78) _ ?_
          show Steps p.tables e below (T.setTop (mkF m 79 #[.val (.ref a), .val (.int K), .val (.int LO), .val (.int HI), .val (.long pv), .second, .val (.int I'), .val (.int J'), s8, s9] [(.long (f I'.toInt))])) _
          refine XS.lstore X.here hx rfl (hb hby d4_79) rfl (l' := #[.val (.ref a), .val (.int K), .val (.int LO), .val (.int HI), .val (.long pv), .second, .val (.int I'), .val (.int J'), .val (.long (f I'.toInt)), .second]) (own_st8 hs) ?_
          show Steps p.tables e below (T.setTop (mkF m 81 #[.val (.ref a), .val (.int K), .val (.int LO), .val (.int HI), .val (.long pv), .second, .val (.int I'), .val (.int J'), .val (.long (f I'.toInt)), .second] [])) _
          refine XS.aloadN X.here hx rfl (hb hby d4_81) rfl rfl ?_
          show Steps p.tables e below (T.setTop (mkF m 82 #[.val (.ref a), .val (.int K), .val (.int LO), .val (.int HI), .val (.long pv), .second, .val (.int I'), .val (.int J'), .val (.long (f I'.toInt)), .second] [(.ref a)])) _
          refine XS.iload X.here hx rfl (hb hby d4_82) rfl ?_
          show Steps p.tables e below (T.setTop (mkF m 84 #[.val (.ref a), .val (.int K), .val (.int LO), .val (.int HI), .val (.long pv), .second, .val (.int I'), .val (.int J'), .val (.long (f I'.toInt)), .second] [(.int I'), (.ref a)])) _
          refine XS.aloadN X.here hx rfl (hb hby d4_84) rfl rfl ?_
          show Steps p.tables e below (T.setTop (mkF m 85 #[.val (.ref a), .val (.int K), .val (.int LO), .val (.int HI), .val (.long pv), .second, .val (.int I'), .val (.int J'), .val (.long (f I'.toInt)), .second] [(.ref a), (.int I'), (.ref a)])) _
          refine XS.iload X.here hx rfl (hb hby d4_85) rfl ?_
          show Steps p.tables e below (T.setTop (mkF m 87 #[.val (.ref a), .val (.int K), .val (.int LO), .val (.int HI), .val (.long pv), .second, .val (.int I'), .val (.int J'), .val (.long (f I'.toInt)), .second] [(.int J'), (.ref a), (.int I'), (.ref a)])) _
          obtain ⟨cl6, Ar6, aS6, aN6, aH6⟩ := id A
          have hin6 : ¬ (J' < 0 ∨ cl6.slots.size ≤ (J').toNatClampNeg) := inb_of aS6 (own_inb hJ0 hJ1)
          have hat6 : cl6.slots[(J').toNatClampNeg]? = some (.long (f J'.toInt)) := (aH6 _ (Nat.lt_of_not_le fun y => hin6 (Or.inr y))).trans (congrArg some (own_at f hJ0))
          refine X.laload hx (j := J') (v := (.long (f J'.toInt))) (by rw [eT]; exact Ar6.1) (State.isArrayOf_alike hZ.alike Ar6.2.1) Ar6.2.2 hin6 hat6 (g := (mkF m 87 #[.val (.ref a), .val (.int K), .val (.int LO), .val (.int HI), .val (.long pv), .second, .val (.int I'), .val (.int J'), .val (.long (f I'.toInt)), .second] [(.int J'), (.ref a), (.int I'), (.ref a)])) rfl rfl (hb hby d4_87) _ ?_
          show Steps p.tables e below (T.setTop (mkF m 88 #[.val (.ref a), .val (.int K), .val (.int LO), .val (.int HI), .val (.long pv), .second, .val (.int I'), .val (.int J'), .val (.long (f I'.toInt)), .second] [(.long (f J'.toInt)), (.int I'), (.ref a)])) _
          refine st1 _ ?_
          show Steps p.tables e below (T1.setTop (mkF m 89 #[.val (.ref a), .val (.int K), .val (.int LO), .val (.int HI), .val (.long pv), .second, .val (.int I'), .val (.int J'), .val (.long (f I'.toInt)), .second] [])) _
          refine XS.aloadN X1.here hx rfl (hb hby d4_89) rfl rfl ?_
          show Steps p.tables e below (T1.setTop (mkF m 90 #[.val (.ref a), .val (.int K), .val (.int LO), .val (.int HI), .val (.long pv), .second, .val (.int I'), .val (.int J'), .val (.long (f I'.toInt)), .second] [(.ref a)])) _
          refine XS.iload X1.here hx rfl (hb hby d4_90) rfl ?_
          show Steps p.tables e below (T1.setTop (mkF m 92 #[.val (.ref a), .val (.int K), .val (.int LO), .val (.int HI), .val (.long pv), .second, .val (.int I'), .val (.int J'), .val (.long (f I'.toInt)), .second] [(.int J'), (.ref a)])) _
          refine XS.lload X1.here hx rfl (hb hby d4_92) rfl ?_
          show Steps p.tables e below (T1.setTop (mkF m 94 #[.val (.ref a), .val (.int K), .val (.int LO), .val (.int HI), .val (.long pv), .second, .val (.int I'), .val (.int J'), .val (.long (f I'.toInt)), .second] [(.long (f I'.toInt)), (.int J'), (.ref a)])) _
          refine st2 _ ?_
          show Steps p.tables e below (T2.setTop (mkF m 95 #[.val (.ref a), .val (.int K), .val (.int LO), .val (.int HI), .val (.long pv), .second, .val (.int I'), .val (.int J'), .val (.long (f I'.toInt)), .second] [])) _
          refine XS.iinc X2.here hx rfl (hb hby d4_95) rfl (l' := #[.val (.ref a), .val (.int K), .val (.int LO), .val (.int HI), .val (.long pv), .second, .val (.int (I' + (1 : Int32))), .val (.int J'), .val (.long (f I'.toInt)), .second]) rfl ?_
          show Steps p.tables e below (T2.setTop (mkF m 98 #[.val (.ref a), .val (.int K), .val (.int LO), .val (.int HI), .val (.long pv), .second, .val (.int (I' + (1 : Int32))), .val (.int J'), .val (.long (f I'.toInt)), .second] [])) _
          refine XS.iinc X2.here hx rfl (hb hby d4_98) rfl (l' := #[.val (.ref a), .val (.int K), .val (.int LO), .val (.int HI), .val (.long pv), .second, .val (.int (I' + (1 : Int32))), .val (.int (J' + (-1 : Int32))), .val (.long (f I'.toInt)), .second]) rfl ?_
          show Steps p.tables e below (T2.setTop (mkF m 101 #[.val (.ref a), .val (.int K), .val (.int LO), .val (.int HI), .val (.long pv), .second, .val (.int (I' + (1 : Int32))), .val (.int (J' + (-1 : Int32))), .val (.long (f I'.toInt)), .second] [])) _
          refine XS.goto X2.here hx rfl (pc0 := 101) (pc' := 29) rfl (hb hby d4_101) (by decide) (by decide) ?_
          show Steps p.tables e below (T2.setTop (mkF m 29 #[.val (.ref a), .val (.int K), .val (.int LO), .val (.int HI), .val (.long pv), .second, .val (.int (I' + (1 : Int32))), .val (.int (J' + (-1 : Int32))), .val (.long (f I'.toInt)), .second] [])) _
          exact c10 tg k
  have outer : ∀ (d : Nat) (T : State) (lc : List Loc) (X : Stand p l e ({ frames := 0, cells := 0, slots := 0, locals := 0 } : Room) s m #[(.ref a), (.int K)] below meth c T lc 0 0) (h : Heap) (eT : T.heap = h) (f : Int → Int64) (A : own_A Z h a .long z (own_fl f)) (NF : Fr n0 lc) (KK : Keep h0 h [a]) (ZN : n0 ≤ h.size) (LO HI : Int32) (s4 s5 s6 s7 s8 s9 : Slot), (HI.toInt - LO.toInt).toNat = d → own_2 s4 s5 → own_1 s6 → own_1 s7 → own_2 s8 s9 → own_out f LO.toInt HI.toInt K.toInt z.toInt → ∃ (T' : State) (lc' : List Loc) (h' : Heap) (f' : Int → Int64) (LO' HI' : Int32) (s4' s5' s6' s7' s8' s9' : Slot), Stand p l e ({ frames := 0, cells := 0, slots := 0, locals := 0 } : Room) s m #[(.ref a), (.int K)] below meth c T' lc' 0 0 ∧ T'.heap = h' ∧ own_A Z h' a .long z (own_fl f') ∧ Fr n0 lc' ∧ Keep h0 h' [a] ∧ own_perm f' f z.toNatClampNeg ∧ own_sel f' K.toInt z.toInt ∧ ∀ tg, Steps p.tables e below (T'.setTop (mkF m 128 #[.val (.ref a), .val (.int K), .val (.int LO'), .val (.int HI'), s4', s5', s6', s7', s8', s9'] [])) tg → Steps p.tables e below (T.setTop (mkF m 7 #[.val (.ref a), .val (.int K), .val (.int LO), .val (.int HI), s4, s5, s6, s7, s8, s9] [])) tg := by
    intro d
    induction d using Nat.strongRecOn with
    | _ d ih =>
      intro T lc X h eT f A NF KK ZN LO HI s4 s5 s6 s7 s8 s9 hd hs4 hs6 hs7 hs8 ho
      by_cases hc : LO < HI
      · have hc' := hc
        rw [Int32.lt_iff_toInt_lt] at hc'
        have ho' := ho
        obtain ⟨a1, a2, a3, a4, -, -⟩ := ho'
        have em := own_mid (L := LO) (H := HI) a1 (by omega) (by omega)
        obtain ⟨M, eM⟩ : ∃ M, M = (LO + ((HI - LO) / (2 : Int32))) := ⟨_, rfl⟩
        rw [← eM] at em
        have hM0 : 0 ≤ M.toInt := by omega
        have hM1 : M.toInt < z.toInt := by omega
        obtain ⟨T', lc', h', f', I', J', u8, u9, c1, c2, c3, c4, c5, c6, c7, c8, c9, c10⟩ := part _ T lc X h eT f A NF KK ZN LO HI LO HI (f M.toInt) s8 s9 rfl hs8 a1 a4 ⟨Int.le_refl _, by omega, Int.le_refl _, by omega, fun t q1 q2 => by omega, fun t q1 q2 => by omega, Or.inl ⟨by omega, M.toInt, M.toInt, by omega, by omega, Int.le_refl _, by omega, by omega, Int.le_refl _, Or.inl (Int.le_refl _)⟩⟩
        have c9' := c9
        obtain ⟨d1, d2, d3, d4, d5, -, -, -, -⟩ := c9'
        by_cases q1 : J' < K
        · have q1' := q1
          rw [Int32.lt_iff_toInt_lt] at q1'
          by_cases q2 : K < I'
          · have q2' := q2
            rw [Int32.lt_iff_toInt_lt] at q2'
            refine ⟨T', lc', h', f', LO, HI, .val (.long (f M.toInt)), .second, .val (.int I'), .val (.int J'), u8, u9, c1, c2, c3, c4, c5, c8, own_sel_mid ho c9 q1' q2', fun tg k => ?_⟩
            show Steps p.tables e below (T.setTop (mkF m 7 #[.val (.ref a), .val (.int K), .val (.int LO), .val (.int HI), s4, s5, s6, s7, s8, s9] [])) _
            refine XS.iloadN X.here hx rfl (hb hby d4_7) rfl ?_
            show Steps p.tables e below (T.setTop (mkF m 8 #[.val (.ref a), .val (.int K), .val (.int LO), .val (.int HI), s4, s5, s6, s7, s8, s9] [(.int LO)])) _
            refine XS.iloadN X.here hx rfl (hb hby d4_8) rfl ?_
            show Steps p.tables e below (T.setTop (mkF m 9 #[.val (.ref a), .val (.int K), .val (.int LO), .val (.int HI), s4, s5, s6, s7, s8, s9] [(.int HI), (.int LO)])) _
            refine XS.icmpNo X.here hx rfl (hb hby d4_9) rfl (XT.ii_ge_f hc) ?_
            show Steps p.tables e below (T.setTop (mkF m 12 #[.val (.ref a), .val (.int K), .val (.int LO), .val (.int HI), s4, s5, s6, s7, s8, s9] [])) _
            refine XS.aloadN X.here hx rfl (hb hby d4_12) rfl rfl ?_
            show Steps p.tables e below (T.setTop (mkF m 13 #[.val (.ref a), .val (.int K), .val (.int LO), .val (.int HI), s4, s5, s6, s7, s8, s9] [(.ref a)])) _
            refine XS.iloadN X.here hx rfl (hb hby d4_13) rfl ?_
            show Steps p.tables e below (T.setTop (mkF m 14 #[.val (.ref a), .val (.int K), .val (.int LO), .val (.int HI), s4, s5, s6, s7, s8, s9] [(.int LO), (.ref a)])) _
            refine XS.iloadN X.here hx rfl (hb hby d4_14) rfl ?_
            show Steps p.tables e below (T.setTop (mkF m 15 #[.val (.ref a), .val (.int K), .val (.int LO), .val (.int HI), s4, s5, s6, s7, s8, s9] [(.int HI), (.int LO), (.ref a)])) _
            refine XS.iloadN X.here hx rfl (hb hby d4_15) rfl ?_
            show Steps p.tables e below (T.setTop (mkF m 16 #[.val (.ref a), .val (.int K), .val (.int LO), .val (.int HI), s4, s5, s6, s7, s8, s9] [(.int LO), (.int HI), (.int LO), (.ref a)])) _
            refine XS.isub X.here hx rfl (hb hby d4_16) rfl ?_
            show Steps p.tables e below (T.setTop (mkF m 17 #[.val (.ref a), .val (.int K), .val (.int LO), .val (.int HI), s4, s5, s6, s7, s8, s9] [(.int (HI - LO)), (.int LO), (.ref a)])) _
            refine XS.iconst X.here hx rfl (hb hby d4_17) ?_
            show Steps p.tables e below (T.setTop (mkF m 18 #[.val (.ref a), .val (.int K), .val (.int LO), .val (.int HI), s4, s5, s6, s7, s8, s9] [(.int (2 : Int32)), (.int (HI - LO)), (.int LO), (.ref a)])) _
            refine XS.idiv X.here hx rfl (hb hby d4_18) rfl (by decide) ?_
            show Steps p.tables e below (T.setTop (mkF m 19 #[.val (.ref a), .val (.int K), .val (.int LO), .val (.int HI), s4, s5, s6, s7, s8, s9] [(.int ((HI - LO) / (2 : Int32))), (.int LO), (.ref a)])) _
            refine XS.iadd X.here hx rfl (hb hby d4_19) rfl ?_
            show Steps p.tables e below (T.setTop (mkF m 20 #[.val (.ref a), .val (.int K), .val (.int LO), .val (.int HI), s4, s5, s6, s7, s8, s9] [(.int (LO + ((HI - LO) / (2 : Int32)))), (.ref a)])) _
            rw [← eM]
            show Steps p.tables e below (T.setTop (mkF m 20 #[.val (.ref a), .val (.int K), .val (.int LO), .val (.int HI), s4, s5, s6, s7, s8, s9] [(.int M), (.ref a)])) _
            obtain ⟨cl7, Ar7, aS7, aN7, aH7⟩ := id A
            have hin7 : ¬ (M < 0 ∨ cl7.slots.size ≤ (M).toNatClampNeg) := inb_of aS7 (own_inb hM0 hM1)
            have hat7 : cl7.slots[(M).toNatClampNeg]? = some (.long (f M.toInt)) := (aH7 _ (Nat.lt_of_not_le fun y => hin7 (Or.inr y))).trans (congrArg some (own_at f hM0))
            refine X.laload hx (j := M) (v := (.long (f M.toInt))) (by rw [eT]; exact Ar7.1) (State.isArrayOf_alike hZ.alike Ar7.2.1) Ar7.2.2 hin7 hat7 (g := (mkF m 20 #[.val (.ref a), .val (.int K), .val (.int LO), .val (.int HI), s4, s5, s6, s7, s8, s9] [(.int M), (.ref a)])) rfl rfl (hb hby d4_20) _ ?_
            show Steps p.tables e below (T.setTop (mkF m 21 #[.val (.ref a), .val (.int K), .val (.int LO), .val (.int HI), s4, s5, s6, s7, s8, s9] [(.long (f M.toInt))])) _
            refine XS.lstore X.here hx rfl (hb hby d4_21) rfl (l' := #[.val (.ref a), .val (.int K), .val (.int LO), .val (.int HI), .val (.long (f M.toInt)), .second, s6, s7, s8, s9]) (own_st4 hs4) ?_
            show Steps p.tables e below (T.setTop (mkF m 23 #[.val (.ref a), .val (.int K), .val (.int LO), .val (.int HI), .val (.long (f M.toInt)), .second, s6, s7, s8, s9] [])) _
            refine XS.iloadN X.here hx rfl (hb hby d4_23) rfl ?_
            show Steps p.tables e below (T.setTop (mkF m 24 #[.val (.ref a), .val (.int K), .val (.int LO), .val (.int HI), .val (.long (f M.toInt)), .second, s6, s7, s8, s9] [(.int LO)])) _
            refine XS.istore X.here hx rfl (hb hby d4_24) rfl (l' := #[.val (.ref a), .val (.int K), .val (.int LO), .val (.int HI), .val (.long (f M.toInt)), .second, .val (.int LO), s7, s8, s9]) (own_st6 hs6) ?_
            show Steps p.tables e below (T.setTop (mkF m 26 #[.val (.ref a), .val (.int K), .val (.int LO), .val (.int HI), .val (.long (f M.toInt)), .second, .val (.int LO), s7, s8, s9] [])) _
            refine XS.iloadN X.here hx rfl (hb hby d4_26) rfl ?_
            show Steps p.tables e below (T.setTop (mkF m 27 #[.val (.ref a), .val (.int K), .val (.int LO), .val (.int HI), .val (.long (f M.toInt)), .second, .val (.int LO), s7, s8, s9] [(.int HI)])) _
            refine XS.istore X.here hx rfl (hb hby d4_27) rfl (l' := #[.val (.ref a), .val (.int K), .val (.int LO), .val (.int HI), .val (.long (f M.toInt)), .second, .val (.int LO), .val (.int HI), s8, s9]) (own_st7 hs7) ?_
            show Steps p.tables e below (T.setTop (mkF m 29 #[.val (.ref a), .val (.int K), .val (.int LO), .val (.int HI), .val (.long (f M.toInt)), .second, .val (.int LO), .val (.int HI), s8, s9] [])) _
            refine c10 tg ?_
            show Steps p.tables e below (T'.setTop (mkF m 104 #[.val (.ref a), .val (.int K), .val (.int LO), .val (.int HI), .val (.long (f M.toInt)), .second, .val (.int I'), .val (.int J'), u8, u9] [])) _
            refine XS.iloadN c1.here hx rfl (hb hby d4_104) rfl ?_
            show Steps p.tables e below (T'.setTop (mkF m 105 #[.val (.ref a), .val (.int K), .val (.int LO), .val (.int HI), .val (.long (f M.toInt)), .second, .val (.int I'), .val (.int J'), u8, u9] [(.int K)])) _
            refine XS.iload c1.here hx rfl (hb hby d4_105) rfl ?_
            show Steps p.tables e below (T'.setTop (mkF m 107 #[.val (.ref a), .val (.int K), .val (.int LO), .val (.int HI), .val (.long (f M.toInt)), .second, .val (.int I'), .val (.int J'), u8, u9] [(.int J'), (.int K)])) _
            refine XS.icmpYes c1.here hx rfl (pc0 := 107) (pc' := 116) rfl (hb hby d4_107) rfl (XT.ii_gt_t q1) (by decide) (by decide) ?_
            show Steps p.tables e below (T'.setTop (mkF m 116 #[.val (.ref a), .val (.int K), .val (.int LO), .val (.int HI), .val (.long (f M.toInt)), .second, .val (.int I'), .val (.int J'), u8, u9] [])) _
            refine XS.iloadN c1.here hx rfl (hb hby d4_116) rfl ?_
            show Steps p.tables e below (T'.setTop (mkF m 117 #[.val (.ref a), .val (.int K), .val (.int LO), .val (.int HI), .val (.long (f M.toInt)), .second, .val (.int I'), .val (.int J'), u8, u9] [(.int K)])) _
            refine XS.iload c1.here hx rfl (hb hby d4_117) rfl ?_
            show Steps p.tables e below (T'.setTop (mkF m 119 #[.val (.ref a), .val (.int K), .val (.int LO), .val (.int HI), .val (.long (f M.toInt)), .second, .val (.int I'), .val (.int J'), u8, u9] [(.int I'), (.int K)])) _
            refine XS.icmpYes c1.here hx rfl (pc0 := 119) (pc' := 128) rfl (hb hby d4_119) rfl (XT.ii_lt_t q2) (by decide) (by decide) ?_
            show Steps p.tables e below (T'.setTop (mkF m 128 #[.val (.ref a), .val (.int K), .val (.int LO), .val (.int HI), .val (.long (f M.toInt)), .second, .val (.int I'), .val (.int J'), u8, u9] [])) _
            exact k
          · have q2' := q2
            rw [Int32.lt_iff_toInt_lt] at q2'
            have b1 : (HI.toInt - I'.toInt).toNat < d := by rw [← hd]; omega
            obtain ⟨T2, lc2, h2, f2, LO2, HI2, v4, v5, v6, v7, v8, v9, g1, g2, g3, g4, g5, g6, g7, g8⟩ := ih _ b1 T' lc' c1 h' c2 f' c3 c4 c5 c6 I' HI (.val (.long (f M.toInt))) .second (.val (.int I')) (.val (.int J')) u8 u9 rfl (Or.inr ⟨_, rfl, rfl⟩) (Or.inr ⟨_, rfl⟩) (Or.inr ⟨_, rfl⟩) c7 (own_out_lo ho c9 (by omega))
            refine ⟨T2, lc2, h2, f2, LO2, HI2, v4, v5, v6, v7, v8, v9, g1, g2, g3, g4, g5, fun P => (g6 P).trans (c8 P), g7, fun tg k => ?_⟩
            show Steps p.tables e below (T.setTop (mkF m 7 #[.val (.ref a), .val (.int K), .val (.int LO), .val (.int HI), s4, s5, s6, s7, s8, s9] [])) _
            refine XS.iloadN X.here hx rfl (hb hby d4_7) rfl ?_
            show Steps p.tables e below (T.setTop (mkF m 8 #[.val (.ref a), .val (.int K), .val (.int LO), .val (.int HI), s4, s5, s6, s7, s8, s9] [(.int LO)])) _
            refine XS.iloadN X.here hx rfl (hb hby d4_8) rfl ?_
            show Steps p.tables e below (T.setTop (mkF m 9 #[.val (.ref a), .val (.int K), .val (.int LO), .val (.int HI), s4, s5, s6, s7, s8, s9] [(.int HI), (.int LO)])) _
            refine XS.icmpNo X.here hx rfl (hb hby d4_9) rfl (XT.ii_ge_f hc) ?_
            show Steps p.tables e below (T.setTop (mkF m 12 #[.val (.ref a), .val (.int K), .val (.int LO), .val (.int HI), s4, s5, s6, s7, s8, s9] [])) _
            refine XS.aloadN X.here hx rfl (hb hby d4_12) rfl rfl ?_
            show Steps p.tables e below (T.setTop (mkF m 13 #[.val (.ref a), .val (.int K), .val (.int LO), .val (.int HI), s4, s5, s6, s7, s8, s9] [(.ref a)])) _
            refine XS.iloadN X.here hx rfl (hb hby d4_13) rfl ?_
            show Steps p.tables e below (T.setTop (mkF m 14 #[.val (.ref a), .val (.int K), .val (.int LO), .val (.int HI), s4, s5, s6, s7, s8, s9] [(.int LO), (.ref a)])) _
            refine XS.iloadN X.here hx rfl (hb hby d4_14) rfl ?_
            show Steps p.tables e below (T.setTop (mkF m 15 #[.val (.ref a), .val (.int K), .val (.int LO), .val (.int HI), s4, s5, s6, s7, s8, s9] [(.int HI), (.int LO), (.ref a)])) _
            refine XS.iloadN X.here hx rfl (hb hby d4_15) rfl ?_
            show Steps p.tables e below (T.setTop (mkF m 16 #[.val (.ref a), .val (.int K), .val (.int LO), .val (.int HI), s4, s5, s6, s7, s8, s9] [(.int LO), (.int HI), (.int LO), (.ref a)])) _
            refine XS.isub X.here hx rfl (hb hby d4_16) rfl ?_
            show Steps p.tables e below (T.setTop (mkF m 17 #[.val (.ref a), .val (.int K), .val (.int LO), .val (.int HI), s4, s5, s6, s7, s8, s9] [(.int (HI - LO)), (.int LO), (.ref a)])) _
            refine XS.iconst X.here hx rfl (hb hby d4_17) ?_
            show Steps p.tables e below (T.setTop (mkF m 18 #[.val (.ref a), .val (.int K), .val (.int LO), .val (.int HI), s4, s5, s6, s7, s8, s9] [(.int (2 : Int32)), (.int (HI - LO)), (.int LO), (.ref a)])) _
            refine XS.idiv X.here hx rfl (hb hby d4_18) rfl (by decide) ?_
            show Steps p.tables e below (T.setTop (mkF m 19 #[.val (.ref a), .val (.int K), .val (.int LO), .val (.int HI), s4, s5, s6, s7, s8, s9] [(.int ((HI - LO) / (2 : Int32))), (.int LO), (.ref a)])) _
            refine XS.iadd X.here hx rfl (hb hby d4_19) rfl ?_
            show Steps p.tables e below (T.setTop (mkF m 20 #[.val (.ref a), .val (.int K), .val (.int LO), .val (.int HI), s4, s5, s6, s7, s8, s9] [(.int (LO + ((HI - LO) / (2 : Int32)))), (.ref a)])) _
            rw [← eM]
            show Steps p.tables e below (T.setTop (mkF m 20 #[.val (.ref a), .val (.int K), .val (.int LO), .val (.int HI), s4, s5, s6, s7, s8, s9] [(.int M), (.ref a)])) _
            obtain ⟨cl8, Ar8, aS8, aN8, aH8⟩ := id A
            have hin8 : ¬ (M < 0 ∨ cl8.slots.size ≤ (M).toNatClampNeg) := inb_of aS8 (own_inb hM0 hM1)
            have hat8 : cl8.slots[(M).toNatClampNeg]? = some (.long (f M.toInt)) := (aH8 _ (Nat.lt_of_not_le fun y => hin8 (Or.inr y))).trans (congrArg some (own_at f hM0))
            refine X.laload hx (j := M) (v := (.long (f M.toInt))) (by rw [eT]; exact Ar8.1) (State.isArrayOf_alike hZ.alike Ar8.2.1) Ar8.2.2 hin8 hat8 (g := (mkF m 20 #[.val (.ref a), .val (.int K), .val (.int LO), .val (.int HI), s4, s5, s6, s7, s8, s9] [(.int M), (.ref a)])) rfl rfl (hb hby d4_20) _ ?_
            show Steps p.tables e below (T.setTop (mkF m 21 #[.val (.ref a), .val (.int K), .val (.int LO), .val (.int HI), s4, s5, s6, s7, s8, s9] [(.long (f M.toInt))])) _
            refine XS.lstore X.here hx rfl (hb hby d4_21) rfl (l' := #[.val (.ref a), .val (.int K), .val (.int LO), .val (.int HI), .val (.long (f M.toInt)), .second, s6, s7, s8, s9]) (own_st4 hs4) ?_
            show Steps p.tables e below (T.setTop (mkF m 23 #[.val (.ref a), .val (.int K), .val (.int LO), .val (.int HI), .val (.long (f M.toInt)), .second, s6, s7, s8, s9] [])) _
            refine XS.iloadN X.here hx rfl (hb hby d4_23) rfl ?_
            show Steps p.tables e below (T.setTop (mkF m 24 #[.val (.ref a), .val (.int K), .val (.int LO), .val (.int HI), .val (.long (f M.toInt)), .second, s6, s7, s8, s9] [(.int LO)])) _
            refine XS.istore X.here hx rfl (hb hby d4_24) rfl (l' := #[.val (.ref a), .val (.int K), .val (.int LO), .val (.int HI), .val (.long (f M.toInt)), .second, .val (.int LO), s7, s8, s9]) (own_st6 hs6) ?_
            show Steps p.tables e below (T.setTop (mkF m 26 #[.val (.ref a), .val (.int K), .val (.int LO), .val (.int HI), .val (.long (f M.toInt)), .second, .val (.int LO), s7, s8, s9] [])) _
            refine XS.iloadN X.here hx rfl (hb hby d4_26) rfl ?_
            show Steps p.tables e below (T.setTop (mkF m 27 #[.val (.ref a), .val (.int K), .val (.int LO), .val (.int HI), .val (.long (f M.toInt)), .second, .val (.int LO), s7, s8, s9] [(.int HI)])) _
            refine XS.istore X.here hx rfl (hb hby d4_27) rfl (l' := #[.val (.ref a), .val (.int K), .val (.int LO), .val (.int HI), .val (.long (f M.toInt)), .second, .val (.int LO), .val (.int HI), s8, s9]) (own_st7 hs7) ?_
            show Steps p.tables e below (T.setTop (mkF m 29 #[.val (.ref a), .val (.int K), .val (.int LO), .val (.int HI), .val (.long (f M.toInt)), .second, .val (.int LO), .val (.int HI), s8, s9] [])) _
            refine c10 tg ?_
            show Steps p.tables e below (T'.setTop (mkF m 104 #[.val (.ref a), .val (.int K), .val (.int LO), .val (.int HI), .val (.long (f M.toInt)), .second, .val (.int I'), .val (.int J'), u8, u9] [])) _
            refine XS.iloadN c1.here hx rfl (hb hby d4_104) rfl ?_
            show Steps p.tables e below (T'.setTop (mkF m 105 #[.val (.ref a), .val (.int K), .val (.int LO), .val (.int HI), .val (.long (f M.toInt)), .second, .val (.int I'), .val (.int J'), u8, u9] [(.int K)])) _
            refine XS.iload c1.here hx rfl (hb hby d4_105) rfl ?_
            show Steps p.tables e below (T'.setTop (mkF m 107 #[.val (.ref a), .val (.int K), .val (.int LO), .val (.int HI), .val (.long (f M.toInt)), .second, .val (.int I'), .val (.int J'), u8, u9] [(.int J'), (.int K)])) _
            refine XS.icmpYes c1.here hx rfl (pc0 := 107) (pc' := 116) rfl (hb hby d4_107) rfl (XT.ii_gt_t q1) (by decide) (by decide) ?_
            show Steps p.tables e below (T'.setTop (mkF m 116 #[.val (.ref a), .val (.int K), .val (.int LO), .val (.int HI), .val (.long (f M.toInt)), .second, .val (.int I'), .val (.int J'), u8, u9] [])) _
            refine XS.iloadN c1.here hx rfl (hb hby d4_116) rfl ?_
            show Steps p.tables e below (T'.setTop (mkF m 117 #[.val (.ref a), .val (.int K), .val (.int LO), .val (.int HI), .val (.long (f M.toInt)), .second, .val (.int I'), .val (.int J'), u8, u9] [(.int K)])) _
            refine XS.iload c1.here hx rfl (hb hby d4_117) rfl ?_
            show Steps p.tables e below (T'.setTop (mkF m 119 #[.val (.ref a), .val (.int K), .val (.int LO), .val (.int HI), .val (.long (f M.toInt)), .second, .val (.int I'), .val (.int J'), u8, u9] [(.int I'), (.int K)])) _
            refine XS.icmpNo c1.here hx rfl (hb hby d4_119) rfl (XT.ii_lt_f q2) ?_
            show Steps p.tables e below (T'.setTop (mkF m 122 #[.val (.ref a), .val (.int K), .val (.int LO), .val (.int HI), .val (.long (f M.toInt)), .second, .val (.int I'), .val (.int J'), u8, u9] [])) _
            refine XS.iload c1.here hx rfl (hb hby d4_122) rfl ?_
            show Steps p.tables e below (T'.setTop (mkF m 124 #[.val (.ref a), .val (.int K), .val (.int LO), .val (.int HI), .val (.long (f M.toInt)), .second, .val (.int I'), .val (.int J'), u8, u9] [(.int I')])) _
            refine XS.istoreN c1.here hx rfl (hb hby d4_124) rfl (l' := #[.val (.ref a), .val (.int K), .val (.int I'), .val (.int HI), .val (.long (f M.toInt)), .second, .val (.int I'), .val (.int J'), u8, u9]) rfl ?_
            show Steps p.tables e below (T'.setTop (mkF m 125 #[.val (.ref a), .val (.int K), .val (.int I'), .val (.int HI), .val (.long (f M.toInt)), .second, .val (.int I'), .val (.int J'), u8, u9] [])) _
            refine XS.goto c1.here hx rfl (pc0 := 125) (pc' := 7) rfl (hb hby d4_125) (by decide) (by decide) ?_
            show Steps p.tables e below (T'.setTop (mkF m 7 #[.val (.ref a), .val (.int K), .val (.int I'), .val (.int HI), .val (.long (f M.toInt)), .second, .val (.int I'), .val (.int J'), u8, u9] [])) _
            exact g8 tg k
        · have q1' := q1
          rw [Int32.lt_iff_toInt_lt] at q1'
          have b1 : (J'.toInt - LO.toInt).toNat < d := by rw [← hd]; omega
          obtain ⟨T2, lc2, h2, f2, LO2, HI2, v4, v5, v6, v7, v8, v9, g1, g2, g3, g4, g5, g6, g7, g8⟩ := ih _ b1 T' lc' c1 h' c2 f' c3 c4 c5 c6 LO J' (.val (.long (f M.toInt))) .second (.val (.int I')) (.val (.int J')) u8 u9 rfl (Or.inr ⟨_, rfl, rfl⟩) (Or.inr ⟨_, rfl⟩) (Or.inr ⟨_, rfl⟩) c7 (own_out_hi ho c9 (by omega))
          refine ⟨T2, lc2, h2, f2, LO2, HI2, v4, v5, v6, v7, v8, v9, g1, g2, g3, g4, g5, fun P => (g6 P).trans (c8 P), g7, fun tg k => ?_⟩
          show Steps p.tables e below (T.setTop (mkF m 7 #[.val (.ref a), .val (.int K), .val (.int LO), .val (.int HI), s4, s5, s6, s7, s8, s9] [])) _
          refine XS.iloadN X.here hx rfl (hb hby d4_7) rfl ?_
          show Steps p.tables e below (T.setTop (mkF m 8 #[.val (.ref a), .val (.int K), .val (.int LO), .val (.int HI), s4, s5, s6, s7, s8, s9] [(.int LO)])) _
          refine XS.iloadN X.here hx rfl (hb hby d4_8) rfl ?_
          show Steps p.tables e below (T.setTop (mkF m 9 #[.val (.ref a), .val (.int K), .val (.int LO), .val (.int HI), s4, s5, s6, s7, s8, s9] [(.int HI), (.int LO)])) _
          refine XS.icmpNo X.here hx rfl (hb hby d4_9) rfl (XT.ii_ge_f hc) ?_
          show Steps p.tables e below (T.setTop (mkF m 12 #[.val (.ref a), .val (.int K), .val (.int LO), .val (.int HI), s4, s5, s6, s7, s8, s9] [])) _
          refine XS.aloadN X.here hx rfl (hb hby d4_12) rfl rfl ?_
          show Steps p.tables e below (T.setTop (mkF m 13 #[.val (.ref a), .val (.int K), .val (.int LO), .val (.int HI), s4, s5, s6, s7, s8, s9] [(.ref a)])) _
          refine XS.iloadN X.here hx rfl (hb hby d4_13) rfl ?_
          show Steps p.tables e below (T.setTop (mkF m 14 #[.val (.ref a), .val (.int K), .val (.int LO), .val (.int HI), s4, s5, s6, s7, s8, s9] [(.int LO), (.ref a)])) _
          refine XS.iloadN X.here hx rfl (hb hby d4_14) rfl ?_
          show Steps p.tables e below (T.setTop (mkF m 15 #[.val (.ref a), .val (.int K), .val (.int LO), .val (.int HI), s4, s5, s6, s7, s8, s9] [(.int HI), (.int LO), (.ref a)])) _
          refine XS.iloadN X.here hx rfl (hb hby d4_15) rfl ?_
          show Steps p.tables e below (T.setTop (mkF m 16 #[.val (.ref a), .val (.int K), .val (.int LO), .val (.int HI), s4, s5, s6, s7, s8, s9] [(.int LO), (.int HI), (.int LO), (.ref a)])) _
          refine XS.isub X.here hx rfl (hb hby d4_16) rfl ?_
          show Steps p.tables e below (T.setTop (mkF m 17 #[.val (.ref a), .val (.int K), .val (.int LO), .val (.int HI), s4, s5, s6, s7, s8, s9] [(.int (HI - LO)), (.int LO), (.ref a)])) _
          refine XS.iconst X.here hx rfl (hb hby d4_17) ?_
          show Steps p.tables e below (T.setTop (mkF m 18 #[.val (.ref a), .val (.int K), .val (.int LO), .val (.int HI), s4, s5, s6, s7, s8, s9] [(.int (2 : Int32)), (.int (HI - LO)), (.int LO), (.ref a)])) _
          refine XS.idiv X.here hx rfl (hb hby d4_18) rfl (by decide) ?_
          show Steps p.tables e below (T.setTop (mkF m 19 #[.val (.ref a), .val (.int K), .val (.int LO), .val (.int HI), s4, s5, s6, s7, s8, s9] [(.int ((HI - LO) / (2 : Int32))), (.int LO), (.ref a)])) _
          refine XS.iadd X.here hx rfl (hb hby d4_19) rfl ?_
          show Steps p.tables e below (T.setTop (mkF m 20 #[.val (.ref a), .val (.int K), .val (.int LO), .val (.int HI), s4, s5, s6, s7, s8, s9] [(.int (LO + ((HI - LO) / (2 : Int32)))), (.ref a)])) _
          rw [← eM]
          show Steps p.tables e below (T.setTop (mkF m 20 #[.val (.ref a), .val (.int K), .val (.int LO), .val (.int HI), s4, s5, s6, s7, s8, s9] [(.int M), (.ref a)])) _
          obtain ⟨cl9, Ar9, aS9, aN9, aH9⟩ := id A
          have hin9 : ¬ (M < 0 ∨ cl9.slots.size ≤ (M).toNatClampNeg) := inb_of aS9 (own_inb hM0 hM1)
          have hat9 : cl9.slots[(M).toNatClampNeg]? = some (.long (f M.toInt)) := (aH9 _ (Nat.lt_of_not_le fun y => hin9 (Or.inr y))).trans (congrArg some (own_at f hM0))
          refine X.laload hx (j := M) (v := (.long (f M.toInt))) (by rw [eT]; exact Ar9.1) (State.isArrayOf_alike hZ.alike Ar9.2.1) Ar9.2.2 hin9 hat9 (g := (mkF m 20 #[.val (.ref a), .val (.int K), .val (.int LO), .val (.int HI), s4, s5, s6, s7, s8, s9] [(.int M), (.ref a)])) rfl rfl (hb hby d4_20) _ ?_
          show Steps p.tables e below (T.setTop (mkF m 21 #[.val (.ref a), .val (.int K), .val (.int LO), .val (.int HI), s4, s5, s6, s7, s8, s9] [(.long (f M.toInt))])) _
          refine XS.lstore X.here hx rfl (hb hby d4_21) rfl (l' := #[.val (.ref a), .val (.int K), .val (.int LO), .val (.int HI), .val (.long (f M.toInt)), .second, s6, s7, s8, s9]) (own_st4 hs4) ?_
          show Steps p.tables e below (T.setTop (mkF m 23 #[.val (.ref a), .val (.int K), .val (.int LO), .val (.int HI), .val (.long (f M.toInt)), .second, s6, s7, s8, s9] [])) _
          refine XS.iloadN X.here hx rfl (hb hby d4_23) rfl ?_
          show Steps p.tables e below (T.setTop (mkF m 24 #[.val (.ref a), .val (.int K), .val (.int LO), .val (.int HI), .val (.long (f M.toInt)), .second, s6, s7, s8, s9] [(.int LO)])) _
          refine XS.istore X.here hx rfl (hb hby d4_24) rfl (l' := #[.val (.ref a), .val (.int K), .val (.int LO), .val (.int HI), .val (.long (f M.toInt)), .second, .val (.int LO), s7, s8, s9]) (own_st6 hs6) ?_
          show Steps p.tables e below (T.setTop (mkF m 26 #[.val (.ref a), .val (.int K), .val (.int LO), .val (.int HI), .val (.long (f M.toInt)), .second, .val (.int LO), s7, s8, s9] [])) _
          refine XS.iloadN X.here hx rfl (hb hby d4_26) rfl ?_
          show Steps p.tables e below (T.setTop (mkF m 27 #[.val (.ref a), .val (.int K), .val (.int LO), .val (.int HI), .val (.long (f M.toInt)), .second, .val (.int LO), s7, s8, s9] [(.int HI)])) _
          refine XS.istore X.here hx rfl (hb hby d4_27) rfl (l' := #[.val (.ref a), .val (.int K), .val (.int LO), .val (.int HI), .val (.long (f M.toInt)), .second, .val (.int LO), .val (.int HI), s8, s9]) (own_st7 hs7) ?_
          show Steps p.tables e below (T.setTop (mkF m 29 #[.val (.ref a), .val (.int K), .val (.int LO), .val (.int HI), .val (.long (f M.toInt)), .second, .val (.int LO), .val (.int HI), s8, s9] [])) _
          refine c10 tg ?_
          show Steps p.tables e below (T'.setTop (mkF m 104 #[.val (.ref a), .val (.int K), .val (.int LO), .val (.int HI), .val (.long (f M.toInt)), .second, .val (.int I'), .val (.int J'), u8, u9] [])) _
          refine XS.iloadN c1.here hx rfl (hb hby d4_104) rfl ?_
          show Steps p.tables e below (T'.setTop (mkF m 105 #[.val (.ref a), .val (.int K), .val (.int LO), .val (.int HI), .val (.long (f M.toInt)), .second, .val (.int I'), .val (.int J'), u8, u9] [(.int K)])) _
          refine XS.iload c1.here hx rfl (hb hby d4_105) rfl ?_
          show Steps p.tables e below (T'.setTop (mkF m 107 #[.val (.ref a), .val (.int K), .val (.int LO), .val (.int HI), .val (.long (f M.toInt)), .second, .val (.int I'), .val (.int J'), u8, u9] [(.int J'), (.int K)])) _
          refine XS.icmpNo c1.here hx rfl (hb hby d4_107) rfl (XT.ii_gt_f q1) ?_
          show Steps p.tables e below (T'.setTop (mkF m 110 #[.val (.ref a), .val (.int K), .val (.int LO), .val (.int HI), .val (.long (f M.toInt)), .second, .val (.int I'), .val (.int J'), u8, u9] [])) _
          refine XS.iload c1.here hx rfl (hb hby d4_110) rfl ?_
          show Steps p.tables e below (T'.setTop (mkF m 112 #[.val (.ref a), .val (.int K), .val (.int LO), .val (.int HI), .val (.long (f M.toInt)), .second, .val (.int I'), .val (.int J'), u8, u9] [(.int J')])) _
          refine XS.istoreN c1.here hx rfl (hb hby d4_112) rfl (l' := #[.val (.ref a), .val (.int K), .val (.int LO), .val (.int J'), .val (.long (f M.toInt)), .second, .val (.int I'), .val (.int J'), u8, u9]) rfl ?_
          show Steps p.tables e below (T'.setTop (mkF m 113 #[.val (.ref a), .val (.int K), .val (.int LO), .val (.int J'), .val (.long (f M.toInt)), .second, .val (.int I'), .val (.int J'), u8, u9] [])) _
          refine XS.goto c1.here hx rfl (pc0 := 113) (pc' := 125) rfl (hb hby d4_113) (by decide) (by decide) ?_
          show Steps p.tables e below (T'.setTop (mkF m 125 #[.val (.ref a), .val (.int K), .val (.int LO), .val (.int J'), .val (.long (f M.toInt)), .second, .val (.int I'), .val (.int J'), u8, u9] [])) _
          refine XS.goto c1.here hx rfl (pc0 := 125) (pc' := 7) rfl (hb hby d4_125) (by decide) (by decide) ?_
          show Steps p.tables e below (T'.setTop (mkF m 7 #[.val (.ref a), .val (.int K), .val (.int LO), .val (.int J'), .val (.long (f M.toInt)), .second, .val (.int I'), .val (.int J'), u8, u9] [])) _
          exact g8 tg k
      · have hc' := hc
        rw [Int32.lt_iff_toInt_lt] at hc'
        refine ⟨T, lc, h, f, LO, HI, s4, s5, s6, s7, s8, s9, X, eT, A, NF, KK, fun _ => rfl, own_sel_end ho (by omega), fun tg k => ?_⟩
        show Steps p.tables e below (T.setTop (mkF m 7 #[.val (.ref a), .val (.int K), .val (.int LO), .val (.int HI), s4, s5, s6, s7, s8, s9] [])) _
        refine XS.iloadN X.here hx rfl (hb hby d4_7) rfl ?_
        show Steps p.tables e below (T.setTop (mkF m 8 #[.val (.ref a), .val (.int K), .val (.int LO), .val (.int HI), s4, s5, s6, s7, s8, s9] [(.int LO)])) _
        refine XS.iloadN X.here hx rfl (hb hby d4_8) rfl ?_
        show Steps p.tables e below (T.setTop (mkF m 9 #[.val (.ref a), .val (.int K), .val (.int LO), .val (.int HI), s4, s5, s6, s7, s8, s9] [(.int HI), (.int LO)])) _
        refine XS.icmpYes X.here hx rfl (pc0 := 9) (pc' := 128) rfl (hb hby d4_9) rfl (XT.ii_ge_t hc) (by decide) (by decide) ?_
        show Steps p.tables e below (T.setTop (mkF m 128 #[.val (.ref a), .val (.int K), .val (.int LO), .val (.int HI), s4, s5, s6, s7, s8, s9] [])) _
        exact k
  show own_Gl p.tables e below F (s₁.setTop (mkF m 0 #[.val (.ref a), .val (.int K), .unset, .unset, .unset, .unset, .unset, .unset, .unset, .unset] []))
  refine own_go (fun _ k => XS.iconst X0.here hx rfl (hb hby d4_0) k) ?_
  show own_Gl p.tables e below F (s₁.setTop (mkF m 1 #[.val (.ref a), .val (.int K), .unset, .unset, .unset, .unset, .unset, .unset, .unset, .unset] [(.int (0 : Int32))]))
  refine own_go (fun _ k => XS.istoreN X0.here hx rfl (hb hby d4_1) rfl (l' := #[.val (.ref a), .val (.int K), .val (.int (0 : Int32)), .unset, .unset, .unset, .unset, .unset, .unset, .unset]) rfl k) ?_
  show own_Gl p.tables e below F (s₁.setTop (mkF m 2 #[.val (.ref a), .val (.int K), .val (.int (0 : Int32)), .unset, .unset, .unset, .unset, .unset, .unset, .unset] []))
  refine own_go (fun _ k => XS.aloadN X0.here hx rfl (hb hby d4_2) rfl rfl k) ?_
  show own_Gl p.tables e below F (s₁.setTop (mkF m 3 #[.val (.ref a), .val (.int K), .val (.int (0 : Int32)), .unset, .unset, .unset, .unset, .unset, .unset, .unset] [(.ref a)]))
  obtain ⟨cl10, Ar10, aS10, aN10, aH10⟩ := id A0
  refine own_go (fun _ k => X0.arraylength hx (by rw [e0]; exact Ar10.1) (State.isArrayOf_alike hZ.alike Ar10.2.1) (g := (mkF m 3 #[.val (.ref a), .val (.int K), .val (.int (0 : Int32)), .unset, .unset, .unset, .unset, .unset, .unset, .unset] [(.ref a)])) rfl rfl (hb hby d4_3) _ k) ?_
  rw [len_of aS10 aN10]
  show own_Gl p.tables e below F (s₁.setTop (mkF m 4 #[.val (.ref a), .val (.int K), .val (.int (0 : Int32)), .unset, .unset, .unset, .unset, .unset, .unset, .unset] [(.int z)]))
  refine own_go (fun _ k => XS.iconst X0.here hx rfl (hb hby d4_4) k) ?_
  show own_Gl p.tables e below F (s₁.setTop (mkF m 5 #[.val (.ref a), .val (.int K), .val (.int (0 : Int32)), .unset, .unset, .unset, .unset, .unset, .unset, .unset] [(.int (1 : Int32)), (.int z)]))
  refine own_go (fun _ k => XS.isub X0.here hx rfl (hb hby d4_5) rfl k) ?_
  show own_Gl p.tables e below F (s₁.setTop (mkF m 6 #[.val (.ref a), .val (.int K), .val (.int (0 : Int32)), .unset, .unset, .unset, .unset, .unset, .unset, .unset] [(.int (z - (1 : Int32)))]))
  refine own_go (fun _ k => XS.istoreN X0.here hx rfl (hb hby d4_6) rfl (l' := #[.val (.ref a), .val (.int K), .val (.int (0 : Int32)), .val (.int (z - (1 : Int32))), .unset, .unset, .unset, .unset, .unset, .unset]) rfl k) ?_
  show own_Gl p.tables e below F (s₁.setTop (mkF m 7 #[.val (.ref a), .val (.int K), .val (.int (0 : Int32)), .val (.int (z - (1 : Int32))), .unset, .unset, .unset, .unset, .unset, .unset] []))
  have ep := own_pred hz.1 hz.2
  obtain ⟨T1, lc1, h1, f1, LO1, HI1, s4, s5, s6, s7, s8, s9, X1, e1, A1, N1, K1, p1, S1, st1⟩ := outer _ s₁ _ X0 h0 e0 f0 A0 N0 (Keep.refl _ _) Z0 (0 : Int32) (z - (1 : Int32)) .unset .unset .unset .unset .unset .unset rfl (Or.inl ⟨rfl, rfl⟩) (Or.inl rfl) (Or.inl rfl) (Or.inl ⟨rfl, rfl⟩) (by rw [ep]; exact ⟨Int.le_refl _, hk.1, by omega, by omega, fun x y q1 q2 => by have e0 : (0 : Int32).toInt = 0 := rfl; omega, fun x y q1 q2 q3 q4 => by omega⟩)
  refine own_go st1 ?_
  show own_Gl p.tables e below F (T1.setTop (mkF m 128 #[.val (.ref a), .val (.int K), .val (.int LO1), .val (.int HI1), s4, s5, s6, s7, s8, s9] []))
  refine own_go (fun _ k => XS.aloadN X1.here hx rfl (hb hby d4_128) rfl rfl k) ?_
  show own_Gl p.tables e below F (T1.setTop (mkF m 129 #[.val (.ref a), .val (.int K), .val (.int LO1), .val (.int HI1), s4, s5, s6, s7, s8, s9] [(.ref a)]))
  refine own_go (fun _ k => XS.iloadN X1.here hx rfl (hb hby d4_129) rfl k) ?_
  show own_Gl p.tables e below F (T1.setTop (mkF m 130 #[.val (.ref a), .val (.int K), .val (.int LO1), .val (.int HI1), s4, s5, s6, s7, s8, s9] [(.int K), (.ref a)]))
  obtain ⟨cl51, Ar51, aS51, aN51, aH51⟩ := id A1
  have hin51 : ¬ (K < 0 ∨ cl51.slots.size ≤ (K).toNatClampNeg) := inb_of aS51 (own_inb hk.1 hk.2)
  have hat51 : cl51.slots[(K).toNatClampNeg]? = some (.long (f1 K.toInt)) := (aH51 _ (Nat.lt_of_not_le fun y => hin51 (Or.inr y))).trans (congrArg some (own_at f1 hk.1))
  refine own_go (fun _ k => X1.laload hx (j := K) (v := (.long (f1 K.toInt))) (by rw [e1]; exact Ar51.1) (State.isArrayOf_alike hZ.alike Ar51.2.1) Ar51.2.2 hin51 hat51 (g := (mkF m 130 #[.val (.ref a), .val (.int K), .val (.int LO1), .val (.int HI1), s4, s5, s6, s7, s8, s9] [(.int K), (.ref a)])) rfl rfl (hb hby d4_130) _ k) ?_
  show own_Gl p.tables e below F (T1.setTop (mkF m 131 #[.val (.ref a), .val (.int K), .val (.int LO1), .val (.int HI1), s4, s5, s6, s7, s8, s9] [(.long (f1 K.toInt))]))
  obtain ⟨fs, hr, hrun, hended, hW, hsame⟩ := X1.leave (v := some (.long (f1 K.toInt))) (fun h => by rw [Bd.returns] at h; cases h)
  subst hF
  refine own_fin ?_ ⟨hrun, hended, _, _, rfl, ?_, ⟨_, rfl⟩, hW, hsame.mono (by first | decide | exact Nat.le_of_ble_eq_true rfl) (by first | decide | exact Nat.le_of_ble_eq_true rfl)⟩
  · exact own_retJ X1 hx Bd.returns (hb hby d4_131) hr
  · show Q_rm4 Z _ _ _ _ h0 n0 _ T1.heap _
    rw [e1]
    exact ⟨f1, rfl, N1, K1, A1, p1, S1⟩
theorem ef_rmed1 (m : MethodId) (x0 : Addr) : entryFrame m #[(.ref x0)] 7 = mkF m 0 #[.val (.ref x0), .unset, .unset, .unset, .unset, .unset, .unset] [] := by first | (simp [entryFrame, mkF, argsToLocals, Value.category]; done) | rfl
theorem d3_0 : decode prog_1_method_12_code 0 = .ok (.aload_n 0, 1) := by decide +kernel
theorem d3_1 : decode prog_1_method_12_code 1 = .ok (.arraylength, 1) := by decide +kernel
theorem d3_2 : decode prog_1_method_12_code 2 = .ok (.iconst 2, 1) := by decide +kernel
theorem d3_3 : decode prog_1_method_12_code 3 = .ok (.idiv, 1) := by decide +kernel
theorem d3_4 : decode prog_1_method_12_code 4 = .ok (.istore_n 1, 1) := by decide +kernel
theorem d3_5 : decode prog_1_method_12_code 5 = .ok (.aload_n 0, 1) := by decide +kernel
theorem d3_6 : decode prog_1_method_12_code 6 = .ok (.iload_n 1, 1) := by decide +kernel
theorem d3_7 : decode prog_1_method_12_code 7 = .ok (.invokestatic 355, 3) := by decide +kernel
theorem pd_1 : parseMethodDescriptor "([JI)J" = some ⟨[(.array .long), .int], some .long⟩ := by decide +kernel
theorem d3_10 : decode prog_1_method_12_code 10 = .ok (.lstore_n 2, 1) := by decide +kernel
theorem d3_11 : decode prog_1_method_12_code 11 = .ok (.aload_n 0, 1) := by decide +kernel
theorem d3_12 : decode prog_1_method_12_code 12 = .ok (.arraylength, 1) := by decide +kernel
theorem d3_13 : decode prog_1_method_12_code 13 = .ok (.iconst 2, 1) := by decide +kernel
theorem d3_14 : decode prog_1_method_12_code 14 = .ok (.irem, 1) := by decide +kernel
theorem d3_15 : decode prog_1_method_12_code 15 = .ok (.ifCond .ne 46, 3) := by decide +kernel
theorem d3_61 : decode prog_1_method_12_code 61 = .ok (.lload_n 2, 1) := by decide +kernel
theorem d3_62 : decode prog_1_method_12_code 62 = .ok (.ldc2_w 364, 3) := by decide +kernel
theorem d3_65 : decode prog_1_method_12_code 65 = .ok (.ldiv, 1) := by decide +kernel
theorem d3_66 : decode prog_1_method_12_code 66 = .ok (.lreturn, 1) := by decide +kernel
def Q_rmed1 (Z : State) (a : Addr) (f0 : Int → Int64) (h0 : Heap) (n0 : Nat) (v : Option Value) (h : Heap) (L : List Loc) : Prop := ∃ m : Int64, own_rank m f0 0 1 ∧ v = some (.long (m / (1000 : Int64))) ∧ Fr n0 L
set_option maxRecDepth 65536 in
set_option maxHeartbeats 40000000 in
theorem rmed1 (l : Launch) (Z : State) (a0 : Array Value) (hw : ∀ d ∈ tables_1, d.before a0 Z = true) (ws : List Jvm.Cond) (a : Addr) (f0 : Int → Int64) (h0 : Heap) (n0 : Nat) (Z0 : n0 ≤ h0.size) (A0 : own_A Z h0 a .long (1 : Int32) (own_fl f0)) (g_a : n0 ≤ a) :
    MetFree l (⟨"com/example/cores_from_twigs/coresfromtwigs/Main", "medianMicros", "([J)J"⟩ : MethodName) (head1 (Jvm.Cond.code (⟨"com/example/cores_from_twigs/coresfromtwigs/Main", "medianMicros", "([J)J"⟩ : MethodName) prog_1_method_12_code 7 (some .long) :: ws) ({ frames := 1, cells := 0, slots := 0, locals := 21 } : Room)) (fun ag U => ag = #[(.ref a)] ∧ Z.Warmed39 U.vm ∧ U.heap = h0) (fun _ _ _ _ _ => True) (fun _ U o U' => ∃ v L, o = .returned v ∧ Q_rmed1 Z a f0 h0 n0 v U'.heap L ∧ FrameEnd U o U' L ({ frames := 1, cells := 0, slots := 0, locals := 21 } : Room).cells ({ frames := 1, cells := 0, slots := 0, locals := 21 } : Room).slots) := by
  refine MetFree.of_bodySF (plainFor_of_name pn_1) hisR ?_
  intro p e s m args below meth c s₁ Bd hml0 hP hK
  obtain ⟨rfl, hZ, hh⟩ := hP
  have hx := Bd.exec
  have hby := Bd.bytes
  have hml : c.maxLocals = 7 := hml0
  have hown : s.vm.findClass "com/example/cores_from_twigs/coresfromtwigs/Main" = some m.cls := findClass_of_methodNamed Bd.named
  have hnm := (name_of_methodNamed Bd.named Bd.method).1
  have X0 : Stand p l e ({ frames := 1, cells := 0, slots := 0, locals := 21 } : Room) s m #[(.ref a)] below meth c s₁ [] 0 0 := Stand.of_body Bd
  have e0 : s₁.heap = h0 := by rw [← hh, Bd.state]; rfl
  have N0 := Fr.nil n0
  refine own_start (ef_rmed1 m a) ?_
  intro F hF
  show own_Gl p.tables e below F (s₁.setTop (mkF m 0 #[.val (.ref a), .unset, .unset, .unset, .unset, .unset, .unset] []))
  refine own_go (fun _ k => XS.aloadN X0.here hx rfl (hb hby d3_0) rfl rfl k) ?_
  show own_Gl p.tables e below F (s₁.setTop (mkF m 1 #[.val (.ref a), .unset, .unset, .unset, .unset, .unset, .unset] [(.ref a)]))
  obtain ⟨cl1, Ar1, aS1, aN1, aH1⟩ := id A0
  refine own_go (fun _ k => X0.arraylength hx (by rw [e0]; exact Ar1.1) (State.isArrayOf_alike hZ.alike Ar1.2.1) (g := (mkF m 1 #[.val (.ref a), .unset, .unset, .unset, .unset, .unset, .unset] [(.ref a)])) rfl rfl (hb hby d3_1) _ k) ?_
  rw [len_of aS1 aN1]
  show own_Gl p.tables e below F (s₁.setTop (mkF m 2 #[.val (.ref a), .unset, .unset, .unset, .unset, .unset, .unset] [(.int (1 : Int32))]))
  refine own_go (fun _ k => XS.iconst X0.here hx rfl (hb hby d3_2) k) ?_
  show own_Gl p.tables e below F (s₁.setTop (mkF m 3 #[.val (.ref a), .unset, .unset, .unset, .unset, .unset, .unset] [(.int (2 : Int32)), (.int (1 : Int32))]))
  refine own_go (fun _ k => XS.idiv X0.here hx rfl (hb hby d3_3) rfl (by decide) k) ?_
  show own_Gl p.tables e below F (s₁.setTop (mkF m 4 #[.val (.ref a), .unset, .unset, .unset, .unset, .unset, .unset] [(.int ((1 : Int32) / (2 : Int32)))]))
  rw [(by decide : (1 : Int32) / (2 : Int32) = (0 : Int32))]
  show own_Gl p.tables e below F (s₁.setTop (mkF m 4 #[.val (.ref a), .unset, .unset, .unset, .unset, .unset, .unset] [(.int (0 : Int32))]))
  refine own_go (fun _ k => XS.istoreN X0.here hx rfl (hb hby d3_4) rfl (l' := #[.val (.ref a), .val (.int (0 : Int32)), .unset, .unset, .unset, .unset, .unset]) rfl k) ?_
  show own_Gl p.tables e below F (s₁.setTop (mkF m 5 #[.val (.ref a), .val (.int (0 : Int32)), .unset, .unset, .unset, .unset, .unset] []))
  refine own_go (fun _ k => XS.aloadN X0.here hx rfl (hb hby d3_5) rfl rfl k) ?_
  show own_Gl p.tables e below F (s₁.setTop (mkF m 6 #[.val (.ref a), .val (.int (0 : Int32)), .unset, .unset, .unset, .unset, .unset] [(.ref a)]))
  refine own_go (fun _ k => XS.iloadN X0.here hx rfl (hb hby d3_6) rfl k) ?_
  show own_Gl p.tables e below F (s₁.setTop (mkF m 7 #[.val (.ref a), .val (.int (0 : Int32)), .unset, .unset, .unset, .unset, .unset] [(.int (0 : Int32)), (.ref a)]))
  obtain ⟨_, _, ⟨T2, L2, k2, n2⟩, -, X2, ⟨Lc2, hQ2, ll2, y2, z2⟩, st2⟩ := Jvm.LawKit.callS X0 hx (y := (⟨"com/example/cores_from_twigs/coresfromtwigs/Main", "selectInPlace", "([JI)J"⟩ : MethodName)) hown (mvT hZ (hw _ (List.mem_of_getElem? (i := 14) rfl))) (mvT hZ (hw _ (List.mem_of_getElem? (i := 15) rfl))) (mvT hZ (hw _ (List.mem_of_getElem? (i := 12) rfl))) (mvT hZ (hw _ (List.mem_of_getElem? (i := 16) rfl))) (by decide) (backOf (W := 0) (rm4 l Z a0 hw [] a (0 : Int32) (1 : Int32) f0 h0 n0 Z0 A0 (by decide) (by decide) g_a) hZ (hw _ (List.mem_of_getElem? (i := 16) rfl)) (hw _ (List.mem_of_getElem? (i := 12) rfl)) (by decide) (by decide)) (g := (mkF m 7 #[.val (.ref a), .val (.int (0 : Int32)), .unset, .unset, .unset, .unset, .unset] [(.int (0 : Int32)), (.ref a)])) rfl (by rw [hml]; rfl) (argsL := [(.ref a), (.int (0 : Int32))]) (rest := []) (lenOf pd_1 rfl) rfl (by show 2 * 0 + _ ≤ _; exact Nat.le_of_eq rfl) (hb hby d3_7) (fun _ _ => ⟨rfl, e0, (by first | decide | exact Nat.le_of_ble_eq_true rfl), (by first | decide | exact Nat.le_of_ble_eq_true rfl)⟩)
  dsimp only [Pt.U, Pt.locs, Pt.cells, Pt.slots] at X2 ll2 y2 z2 st2 hQ2
  have X2 := own_sn X2 (k' := 0) (n' := 0) y2 z2
  obtain ⟨f2, hv2, N2, K2, A2, p2, S2⟩ := hQ2
  rw [hv2] at st2
  have NF2 := own_fr ll2 N0 N2
  have Z2 : n0 ≤ T2.heap.size := Nat.le_trans Z0 K2.1
  have KK2 := Keep.trans (Keep.refl h0 [a]) K2 (by intro z hz; simp at hz; rcases hz with rfl; all_goals first | (left; simp; done) | (right; assumption))
  refine own_go st2 ?_
  show own_Gl p.tables e below F (T2.setTop (mkF m 10 #[.val (.ref a), .val (.int (0 : Int32)), .unset, .unset, .unset, .unset, .unset] [(.long (f2 (0 : Int32).toInt))]))
  have S2' : own_sel f2 ((0 : Nat) : Int) ((1 : Nat) : Int) := S2
  have p2' : own_perm f2 f0 1 := p2
  refine own_go (fun _ k => XS.lstoreN X2.here hx rfl (hb hby d3_10) rfl (l' := #[.val (.ref a), .val (.int (0 : Int32)), .val (.long (f2 (0 : Int32).toInt)), .second, .unset, .unset, .unset]) rfl k) ?_
  show own_Gl p.tables e below F (T2.setTop (mkF m 11 #[.val (.ref a), .val (.int (0 : Int32)), .val (.long (f2 (0 : Int32).toInt)), .second, .unset, .unset, .unset] []))
  refine own_go (fun _ k => XS.aloadN X2.here hx rfl (hb hby d3_11) rfl rfl k) ?_
  show own_Gl p.tables e below F (T2.setTop (mkF m 12 #[.val (.ref a), .val (.int (0 : Int32)), .val (.long (f2 (0 : Int32).toInt)), .second, .unset, .unset, .unset] [(.ref a)]))
  obtain ⟨cl3, Ar3, aS3, aN3, aH3⟩ := id A2
  refine own_go (fun _ k => X2.arraylength hx (by exact Ar3.1) (State.isArrayOf_alike hZ.alike Ar3.2.1) (g := (mkF m 12 #[.val (.ref a), .val (.int (0 : Int32)), .val (.long (f2 (0 : Int32).toInt)), .second, .unset, .unset, .unset] [(.ref a)])) rfl rfl (hb hby d3_12) _ k) ?_
  rw [len_of aS3 aN3]
  show own_Gl p.tables e below F (T2.setTop (mkF m 13 #[.val (.ref a), .val (.int (0 : Int32)), .val (.long (f2 (0 : Int32).toInt)), .second, .unset, .unset, .unset] [(.int (1 : Int32))]))
  refine own_go (fun _ k => XS.iconst X2.here hx rfl (hb hby d3_13) k) ?_
  show own_Gl p.tables e below F (T2.setTop (mkF m 14 #[.val (.ref a), .val (.int (0 : Int32)), .val (.long (f2 (0 : Int32).toInt)), .second, .unset, .unset, .unset] [(.int (2 : Int32)), (.int (1 : Int32))]))
  refine own_go (fun _ k => iremM X2 hx rfl (hb hby d3_14) rfl (by decide) k) ?_
  show own_Gl p.tables e below F (T2.setTop (mkF m 15 #[.val (.ref a), .val (.int (0 : Int32)), .val (.long (f2 (0 : Int32).toInt)), .second, .unset, .unset, .unset] [(.int ((1 : Int32) % (2 : Int32)))]))
  rw [(by decide : (1 : Int32) % (2 : Int32) = (1 : Int32))]
  show own_Gl p.tables e below F (T2.setTop (mkF m 15 #[.val (.ref a), .val (.int (0 : Int32)), .val (.long (f2 (0 : Int32).toInt)), .second, .unset, .unset, .unset] [(.int (1 : Int32))]))
  refine own_go (fun _ k => XS.ifYes X2.here hx rfl (pc0 := 15) (pc' := 61) rfl (hb hby d3_15) rfl (XT.i0_ne_t (by decide)) (by decide) (by decide) k) ?_
  show own_Gl p.tables e below F (T2.setTop (mkF m 61 #[.val (.ref a), .val (.int (0 : Int32)), .val (.long (f2 (0 : Int32).toInt)), .second, .unset, .unset, .unset] []))
  refine own_go (fun _ k => XS.lloadN X2.here hx rfl (hb hby d3_61) rfl k) ?_
  show own_Gl p.tables e below F (T2.setTop (mkF m 62 #[.val (.ref a), .val (.int (0 : Int32)), .val (.long (f2 (0 : Int32).toInt)), .second, .unset, .unset, .unset] [(.long (f2 (0 : Int32).toInt))]))
  refine own_go (fun _ k => X2.ldc2J hx hown (mvT hZ (hw _ (List.mem_of_getElem? (i := 17) rfl))) rfl (hb hby d3_62) k) ?_
  show own_Gl p.tables e below F (T2.setTop (mkF m 65 #[.val (.ref a), .val (.int (0 : Int32)), .val (.long (f2 (0 : Int32).toInt)), .second, .unset, .unset, .unset] [(.long (1000 : Int64)), (.long (f2 (0 : Int32).toInt))]))
  refine own_go (fun _ k => XS.ldiv X2.here hx rfl (hb hby d3_65) rfl (by decide) k) ?_
  show own_Gl p.tables e below F (T2.setTop (mkF m 66 #[.val (.ref a), .val (.int (0 : Int32)), .val (.long (f2 (0 : Int32).toInt)), .second, .unset, .unset, .unset] [(.long ((f2 (0 : Int32).toInt) / (1000 : Int64)))]))
  obtain ⟨fs, hr, hrun, hended, hW, hsame⟩ := X2.leave (v := some (.long ((f2 (0 : Int32).toInt) / (1000 : Int64)))) (fun h => by rw [Bd.returns] at h; cases h)
  subst hF
  refine own_fin ?_ ⟨hrun, hended, _, _, rfl, ?_, ⟨_, rfl⟩, hW, hsame.mono (by first | decide | exact Nat.le_of_ble_eq_true rfl) (by first | decide | exact Nat.le_of_ble_eq_true rfl)⟩
  · exact own_retJ X2 hx Bd.returns (hb hby d3_66) hr
  · show Q_rmed1 Z _ _ h0 n0 _ T2.heap _
    exact ⟨f2 (0 : Int32).toInt, own_rank_perm p2' (own_sel_rank (by decide) S2'), rfl, NF2⟩
theorem ef_rmed2 (m : MethodId) (x0 : Addr) : entryFrame m #[(.ref x0)] 7 = mkF m 0 #[.val (.ref x0), .unset, .unset, .unset, .unset, .unset, .unset] [] := by first | (simp [entryFrame, mkF, argsToLocals, Value.category]; done) | rfl
theorem d3_18 : decode prog_1_method_12_code 18 = .ok (.aload_n 0, 1) := by decide +kernel
theorem d3_19 : decode prog_1_method_12_code 19 = .ok (.iconst 0, 1) := by decide +kernel
theorem d3_20 : decode prog_1_method_12_code 20 = .ok (.laload, 1) := by decide +kernel
theorem d3_21 : decode prog_1_method_12_code 21 = .ok (.lstore 4, 2) := by decide +kernel
theorem d3_23 : decode prog_1_method_12_code 23 = .ok (.iconst 1, 1) := by decide +kernel
theorem d3_24 : decode prog_1_method_12_code 24 = .ok (.istore 6, 2) := by decide +kernel
theorem d3_26 : decode prog_1_method_12_code 26 = .ok (.iload 6, 2) := by decide +kernel
theorem d3_28 : decode prog_1_method_12_code 28 = .ok (.iload_n 1, 1) := by decide +kernel
theorem d3_29 : decode prog_1_method_12_code 29 = .ok (.if_icmp .ge 20, 3) := by decide +kernel
theorem d3_49 : decode prog_1_method_12_code 49 = .ok (.lload 4, 2) := by decide +kernel
theorem d3_51 : decode prog_1_method_12_code 51 = .ok (.lload_n 2, 1) := by decide +kernel
theorem d3_52 : decode prog_1_method_12_code 52 = .ok (.lload 4, 2) := by decide +kernel
theorem d3_54 : decode prog_1_method_12_code 54 = .ok (.lsub, 1) := by decide +kernel
theorem d3_55 : decode prog_1_method_12_code 55 = .ok (.ldc2_w 362, 3) := by decide +kernel
theorem d3_58 : decode prog_1_method_12_code 58 = .ok (.ldiv, 1) := by decide +kernel
theorem d3_59 : decode prog_1_method_12_code 59 = .ok (.ladd, 1) := by decide +kernel
theorem d3_60 : decode prog_1_method_12_code 60 = .ok (.lstore_n 2, 1) := by decide +kernel
def Q_rmed2 (Z : State) (a : Addr) (f0 : Int → Int64) (h0 : Heap) (n0 : Nat) (v : Option Value) (h : Heap) (L : List Loc) : Prop := ∃ m l : Int64, own_rank m f0 1 2 ∧ own_rank l f0 0 2 ∧ v = some (.long ((l + ((m - l) / (2 : Int64))) / (1000 : Int64))) ∧ Fr n0 L
set_option maxRecDepth 65536 in
set_option maxHeartbeats 40000000 in
theorem rmed2 (l : Launch) (Z : State) (a0 : Array Value) (hw : ∀ d ∈ tables_1, d.before a0 Z = true) (ws : List Jvm.Cond) (a : Addr) (f0 : Int → Int64) (h0 : Heap) (n0 : Nat) (Z0 : n0 ≤ h0.size) (A0 : own_A Z h0 a .long (2 : Int32) (own_fl f0)) (g_a : n0 ≤ a) :
    MetFree l (⟨"com/example/cores_from_twigs/coresfromtwigs/Main", "medianMicros", "([J)J"⟩ : MethodName) (head1 (Jvm.Cond.code (⟨"com/example/cores_from_twigs/coresfromtwigs/Main", "medianMicros", "([J)J"⟩ : MethodName) prog_1_method_12_code 7 (some .long) :: ws) ({ frames := 1, cells := 0, slots := 0, locals := 21 } : Room)) (fun ag U => ag = #[(.ref a)] ∧ Z.Warmed39 U.vm ∧ U.heap = h0) (fun _ _ _ _ _ => True) (fun _ U o U' => ∃ v L, o = .returned v ∧ Q_rmed2 Z a f0 h0 n0 v U'.heap L ∧ FrameEnd U o U' L ({ frames := 1, cells := 0, slots := 0, locals := 21 } : Room).cells ({ frames := 1, cells := 0, slots := 0, locals := 21 } : Room).slots) := by
  refine MetFree.of_bodySF (plainFor_of_name pn_1) hisR ?_
  intro p e s m args below meth c s₁ Bd hml0 hP hK
  obtain ⟨rfl, hZ, hh⟩ := hP
  have hx := Bd.exec
  have hby := Bd.bytes
  have hml : c.maxLocals = 7 := hml0
  have hown : s.vm.findClass "com/example/cores_from_twigs/coresfromtwigs/Main" = some m.cls := findClass_of_methodNamed Bd.named
  have hnm := (name_of_methodNamed Bd.named Bd.method).1
  have X0 : Stand p l e ({ frames := 1, cells := 0, slots := 0, locals := 21 } : Room) s m #[(.ref a)] below meth c s₁ [] 0 0 := Stand.of_body Bd
  have e0 : s₁.heap = h0 := by rw [← hh, Bd.state]; rfl
  have N0 := Fr.nil n0
  refine own_start (ef_rmed2 m a) ?_
  intro F hF
  show own_Gl p.tables e below F (s₁.setTop (mkF m 0 #[.val (.ref a), .unset, .unset, .unset, .unset, .unset, .unset] []))
  refine own_go (fun _ k => XS.aloadN X0.here hx rfl (hb hby d3_0) rfl rfl k) ?_
  show own_Gl p.tables e below F (s₁.setTop (mkF m 1 #[.val (.ref a), .unset, .unset, .unset, .unset, .unset, .unset] [(.ref a)]))
  obtain ⟨cl1, Ar1, aS1, aN1, aH1⟩ := id A0
  refine own_go (fun _ k => X0.arraylength hx (by rw [e0]; exact Ar1.1) (State.isArrayOf_alike hZ.alike Ar1.2.1) (g := (mkF m 1 #[.val (.ref a), .unset, .unset, .unset, .unset, .unset, .unset] [(.ref a)])) rfl rfl (hb hby d3_1) _ k) ?_
  rw [len_of aS1 aN1]
  show own_Gl p.tables e below F (s₁.setTop (mkF m 2 #[.val (.ref a), .unset, .unset, .unset, .unset, .unset, .unset] [(.int (2 : Int32))]))
  refine own_go (fun _ k => XS.iconst X0.here hx rfl (hb hby d3_2) k) ?_
  show own_Gl p.tables e below F (s₁.setTop (mkF m 3 #[.val (.ref a), .unset, .unset, .unset, .unset, .unset, .unset] [(.int (2 : Int32)), (.int (2 : Int32))]))
  refine own_go (fun _ k => XS.idiv X0.here hx rfl (hb hby d3_3) rfl (by decide) k) ?_
  show own_Gl p.tables e below F (s₁.setTop (mkF m 4 #[.val (.ref a), .unset, .unset, .unset, .unset, .unset, .unset] [(.int ((2 : Int32) / (2 : Int32)))]))
  rw [(by decide : (2 : Int32) / (2 : Int32) = (1 : Int32))]
  show own_Gl p.tables e below F (s₁.setTop (mkF m 4 #[.val (.ref a), .unset, .unset, .unset, .unset, .unset, .unset] [(.int (1 : Int32))]))
  refine own_go (fun _ k => XS.istoreN X0.here hx rfl (hb hby d3_4) rfl (l' := #[.val (.ref a), .val (.int (1 : Int32)), .unset, .unset, .unset, .unset, .unset]) rfl k) ?_
  show own_Gl p.tables e below F (s₁.setTop (mkF m 5 #[.val (.ref a), .val (.int (1 : Int32)), .unset, .unset, .unset, .unset, .unset] []))
  refine own_go (fun _ k => XS.aloadN X0.here hx rfl (hb hby d3_5) rfl rfl k) ?_
  show own_Gl p.tables e below F (s₁.setTop (mkF m 6 #[.val (.ref a), .val (.int (1 : Int32)), .unset, .unset, .unset, .unset, .unset] [(.ref a)]))
  refine own_go (fun _ k => XS.iloadN X0.here hx rfl (hb hby d3_6) rfl k) ?_
  show own_Gl p.tables e below F (s₁.setTop (mkF m 7 #[.val (.ref a), .val (.int (1 : Int32)), .unset, .unset, .unset, .unset, .unset] [(.int (1 : Int32)), (.ref a)]))
  obtain ⟨_, _, ⟨T2, L2, k2, n2⟩, -, X2, ⟨Lc2, hQ2, ll2, y2, z2⟩, st2⟩ := Jvm.LawKit.callS X0 hx (y := (⟨"com/example/cores_from_twigs/coresfromtwigs/Main", "selectInPlace", "([JI)J"⟩ : MethodName)) hown (mvT hZ (hw _ (List.mem_of_getElem? (i := 14) rfl))) (mvT hZ (hw _ (List.mem_of_getElem? (i := 15) rfl))) (mvT hZ (hw _ (List.mem_of_getElem? (i := 12) rfl))) (mvT hZ (hw _ (List.mem_of_getElem? (i := 16) rfl))) (by decide) (backOf (W := 0) (rm4 l Z a0 hw [] a (1 : Int32) (2 : Int32) f0 h0 n0 Z0 A0 (by decide) (by decide) g_a) hZ (hw _ (List.mem_of_getElem? (i := 16) rfl)) (hw _ (List.mem_of_getElem? (i := 12) rfl)) (by decide) (by decide)) (g := (mkF m 7 #[.val (.ref a), .val (.int (1 : Int32)), .unset, .unset, .unset, .unset, .unset] [(.int (1 : Int32)), (.ref a)])) rfl (by rw [hml]; rfl) (argsL := [(.ref a), (.int (1 : Int32))]) (rest := []) (lenOf pd_1 rfl) rfl (by show 2 * 0 + _ ≤ _; exact Nat.le_of_eq rfl) (hb hby d3_7) (fun _ _ => ⟨rfl, e0, (by first | decide | exact Nat.le_of_ble_eq_true rfl), (by first | decide | exact Nat.le_of_ble_eq_true rfl)⟩)
  dsimp only [Pt.U, Pt.locs, Pt.cells, Pt.slots] at X2 ll2 y2 z2 st2 hQ2
  have X2 := own_sn X2 (k' := 0) (n' := 0) y2 z2
  obtain ⟨f2, hv2, N2, K2, A2, p2, S2⟩ := hQ2
  rw [hv2] at st2
  have NF2 := own_fr ll2 N0 N2
  have Z2 : n0 ≤ T2.heap.size := Nat.le_trans Z0 K2.1
  have KK2 := Keep.trans (Keep.refl h0 [a]) K2 (by intro z hz; simp at hz; rcases hz with rfl; all_goals first | (left; simp; done) | (right; assumption))
  refine own_go st2 ?_
  show own_Gl p.tables e below F (T2.setTop (mkF m 10 #[.val (.ref a), .val (.int (1 : Int32)), .unset, .unset, .unset, .unset, .unset] [(.long (f2 (1 : Int32).toInt))]))
  have S2' : own_sel f2 ((1 : Nat) : Int) ((2 : Nat) : Int) := S2
  have p2' : own_perm f2 f0 2 := p2
  refine own_go (fun _ k => XS.lstoreN X2.here hx rfl (hb hby d3_10) rfl (l' := #[.val (.ref a), .val (.int (1 : Int32)), .val (.long (f2 (1 : Int32).toInt)), .second, .unset, .unset, .unset]) rfl k) ?_
  show own_Gl p.tables e below F (T2.setTop (mkF m 11 #[.val (.ref a), .val (.int (1 : Int32)), .val (.long (f2 (1 : Int32).toInt)), .second, .unset, .unset, .unset] []))
  refine own_go (fun _ k => XS.aloadN X2.here hx rfl (hb hby d3_11) rfl rfl k) ?_
  show own_Gl p.tables e below F (T2.setTop (mkF m 12 #[.val (.ref a), .val (.int (1 : Int32)), .val (.long (f2 (1 : Int32).toInt)), .second, .unset, .unset, .unset] [(.ref a)]))
  obtain ⟨cl3, Ar3, aS3, aN3, aH3⟩ := id A2
  refine own_go (fun _ k => X2.arraylength hx (by exact Ar3.1) (State.isArrayOf_alike hZ.alike Ar3.2.1) (g := (mkF m 12 #[.val (.ref a), .val (.int (1 : Int32)), .val (.long (f2 (1 : Int32).toInt)), .second, .unset, .unset, .unset] [(.ref a)])) rfl rfl (hb hby d3_12) _ k) ?_
  rw [len_of aS3 aN3]
  show own_Gl p.tables e below F (T2.setTop (mkF m 13 #[.val (.ref a), .val (.int (1 : Int32)), .val (.long (f2 (1 : Int32).toInt)), .second, .unset, .unset, .unset] [(.int (2 : Int32))]))
  refine own_go (fun _ k => XS.iconst X2.here hx rfl (hb hby d3_13) k) ?_
  show own_Gl p.tables e below F (T2.setTop (mkF m 14 #[.val (.ref a), .val (.int (1 : Int32)), .val (.long (f2 (1 : Int32).toInt)), .second, .unset, .unset, .unset] [(.int (2 : Int32)), (.int (2 : Int32))]))
  refine own_go (fun _ k => iremM X2 hx rfl (hb hby d3_14) rfl (by decide) k) ?_
  show own_Gl p.tables e below F (T2.setTop (mkF m 15 #[.val (.ref a), .val (.int (1 : Int32)), .val (.long (f2 (1 : Int32).toInt)), .second, .unset, .unset, .unset] [(.int ((2 : Int32) % (2 : Int32)))]))
  rw [(by decide : (2 : Int32) % (2 : Int32) = (0 : Int32))]
  show own_Gl p.tables e below F (T2.setTop (mkF m 15 #[.val (.ref a), .val (.int (1 : Int32)), .val (.long (f2 (1 : Int32).toInt)), .second, .unset, .unset, .unset] [(.int (0 : Int32))]))
  refine own_go (fun _ k => XS.ifNo X2.here hx rfl (hb hby d3_15) rfl (XT.i0_ne_f rfl) k) ?_
  show own_Gl p.tables e below F (T2.setTop (mkF m 18 #[.val (.ref a), .val (.int (1 : Int32)), .val (.long (f2 (1 : Int32).toInt)), .second, .unset, .unset, .unset] []))
  refine own_go (fun _ k => XS.aloadN X2.here hx rfl (hb hby d3_18) rfl rfl k) ?_
  show own_Gl p.tables e below F (T2.setTop (mkF m 19 #[.val (.ref a), .val (.int (1 : Int32)), .val (.long (f2 (1 : Int32).toInt)), .second, .unset, .unset, .unset] [(.ref a)]))
  refine own_go (fun _ k => XS.iconst X2.here hx rfl (hb hby d3_19) k) ?_
  show own_Gl p.tables e below F (T2.setTop (mkF m 20 #[.val (.ref a), .val (.int (1 : Int32)), .val (.long (f2 (1 : Int32).toInt)), .second, .unset, .unset, .unset] [(.int (0 : Int32)), (.ref a)]))
  obtain ⟨cl4, Ar4, aS4, aN4, aH4⟩ := id A2
  have hin4 : ¬ ((0 : Int32) < 0 ∨ cl4.slots.size ≤ ((0 : Int32)).toNatClampNeg) := inb_of aS4 ⟨by decide, by decide⟩
  have hat4 : cl4.slots[((0 : Int32)).toNatClampNeg]? = some (.long (f2 0)) := (aH4 _ (Nat.lt_of_not_le fun y => hin4 (Or.inr y))).trans (congrArg some rfl)
  refine own_go (fun _ k => X2.laload hx (j := (0 : Int32)) (v := (.long (f2 0))) (by exact Ar4.1) (State.isArrayOf_alike hZ.alike Ar4.2.1) Ar4.2.2 hin4 hat4 (g := (mkF m 20 #[.val (.ref a), .val (.int (1 : Int32)), .val (.long (f2 (1 : Int32).toInt)), .second, .unset, .unset, .unset] [(.int (0 : Int32)), (.ref a)])) rfl rfl (hb hby d3_20) _ k) ?_
  show own_Gl p.tables e below F (T2.setTop (mkF m 21 #[.val (.ref a), .val (.int (1 : Int32)), .val (.long (f2 (1 : Int32).toInt)), .second, .unset, .unset, .unset] [(.long (f2 0))]))
  refine own_go (fun _ k => XS.lstore X2.here hx rfl (hb hby d3_21) rfl (l' := #[.val (.ref a), .val (.int (1 : Int32)), .val (.long (f2 (1 : Int32).toInt)), .second, .val (.long (f2 0)), .second, .unset]) rfl k) ?_
  show own_Gl p.tables e below F (T2.setTop (mkF m 23 #[.val (.ref a), .val (.int (1 : Int32)), .val (.long (f2 (1 : Int32).toInt)), .second, .val (.long (f2 0)), .second, .unset] []))
  refine own_go (fun _ k => XS.iconst X2.here hx rfl (hb hby d3_23) k) ?_
  show own_Gl p.tables e below F (T2.setTop (mkF m 24 #[.val (.ref a), .val (.int (1 : Int32)), .val (.long (f2 (1 : Int32).toInt)), .second, .val (.long (f2 0)), .second, .unset] [(.int (1 : Int32))]))
  refine own_go (fun _ k => XS.istore X2.here hx rfl (hb hby d3_24) rfl (l' := #[.val (.ref a), .val (.int (1 : Int32)), .val (.long (f2 (1 : Int32).toInt)), .second, .val (.long (f2 0)), .second, .val (.int (1 : Int32))]) rfl k) ?_
  show own_Gl p.tables e below F (T2.setTop (mkF m 26 #[.val (.ref a), .val (.int (1 : Int32)), .val (.long (f2 (1 : Int32).toInt)), .second, .val (.long (f2 0)), .second, .val (.int (1 : Int32))] []))
  refine own_go (fun _ k => XS.iload X2.here hx rfl (hb hby d3_26) rfl k) ?_
  show own_Gl p.tables e below F (T2.setTop (mkF m 28 #[.val (.ref a), .val (.int (1 : Int32)), .val (.long (f2 (1 : Int32).toInt)), .second, .val (.long (f2 0)), .second, .val (.int (1 : Int32))] [(.int (1 : Int32))]))
  refine own_go (fun _ k => XS.iloadN X2.here hx rfl (hb hby d3_28) rfl k) ?_
  show own_Gl p.tables e below F (T2.setTop (mkF m 29 #[.val (.ref a), .val (.int (1 : Int32)), .val (.long (f2 (1 : Int32).toInt)), .second, .val (.long (f2 0)), .second, .val (.int (1 : Int32))] [(.int (1 : Int32)), (.int (1 : Int32))]))
  refine own_go (fun _ k => XS.icmpYes X2.here hx rfl (pc0 := 29) (pc' := 49) rfl (hb hby d3_29) rfl (XT.ii_ge_t (by decide)) (by decide) (by decide) k) ?_
  show own_Gl p.tables e below F (T2.setTop (mkF m 49 #[.val (.ref a), .val (.int (1 : Int32)), .val (.long (f2 (1 : Int32).toInt)), .second, .val (.long (f2 0)), .second, .val (.int (1 : Int32))] []))
  refine own_go (fun _ k => XS.lload X2.here hx rfl (hb hby d3_49) rfl k) ?_
  show own_Gl p.tables e below F (T2.setTop (mkF m 51 #[.val (.ref a), .val (.int (1 : Int32)), .val (.long (f2 (1 : Int32).toInt)), .second, .val (.long (f2 0)), .second, .val (.int (1 : Int32))] [(.long (f2 0))]))
  refine own_go (fun _ k => XS.lloadN X2.here hx rfl (hb hby d3_51) rfl k) ?_
  show own_Gl p.tables e below F (T2.setTop (mkF m 52 #[.val (.ref a), .val (.int (1 : Int32)), .val (.long (f2 (1 : Int32).toInt)), .second, .val (.long (f2 0)), .second, .val (.int (1 : Int32))] [(.long (f2 (1 : Int32).toInt)), (.long (f2 0))]))
  refine own_go (fun _ k => XS.lload X2.here hx rfl (hb hby d3_52) rfl k) ?_
  show own_Gl p.tables e below F (T2.setTop (mkF m 54 #[.val (.ref a), .val (.int (1 : Int32)), .val (.long (f2 (1 : Int32).toInt)), .second, .val (.long (f2 0)), .second, .val (.int (1 : Int32))] [(.long (f2 0)), (.long (f2 (1 : Int32).toInt)), (.long (f2 0))]))
  refine own_go (fun _ k => XS.lsub X2.here hx rfl (hb hby d3_54) rfl k) ?_
  show own_Gl p.tables e below F (T2.setTop (mkF m 55 #[.val (.ref a), .val (.int (1 : Int32)), .val (.long (f2 (1 : Int32).toInt)), .second, .val (.long (f2 0)), .second, .val (.int (1 : Int32))] [(.long ((f2 (1 : Int32).toInt) - (f2 0))), (.long (f2 0))]))
  refine own_go (fun _ k => X2.ldc2J hx hown (mvT hZ (hw _ (List.mem_of_getElem? (i := 23) rfl))) rfl (hb hby d3_55) k) ?_
  show own_Gl p.tables e below F (T2.setTop (mkF m 58 #[.val (.ref a), .val (.int (1 : Int32)), .val (.long (f2 (1 : Int32).toInt)), .second, .val (.long (f2 0)), .second, .val (.int (1 : Int32))] [(.long (2 : Int64)), (.long ((f2 (1 : Int32).toInt) - (f2 0))), (.long (f2 0))]))
  refine own_go (fun _ k => XS.ldiv X2.here hx rfl (hb hby d3_58) rfl (by decide) k) ?_
  show own_Gl p.tables e below F (T2.setTop (mkF m 59 #[.val (.ref a), .val (.int (1 : Int32)), .val (.long (f2 (1 : Int32).toInt)), .second, .val (.long (f2 0)), .second, .val (.int (1 : Int32))] [(.long (((f2 (1 : Int32).toInt) - (f2 0)) / (2 : Int64))), (.long (f2 0))]))
  refine own_go (fun _ k => XS.ladd X2.here hx rfl (hb hby d3_59) rfl k) ?_
  show own_Gl p.tables e below F (T2.setTop (mkF m 60 #[.val (.ref a), .val (.int (1 : Int32)), .val (.long (f2 (1 : Int32).toInt)), .second, .val (.long (f2 0)), .second, .val (.int (1 : Int32))] [(.long ((f2 0) + (((f2 (1 : Int32).toInt) - (f2 0)) / (2 : Int64))))]))
  refine own_go (fun _ k => XS.lstoreN X2.here hx rfl (hb hby d3_60) rfl (l' := #[.val (.ref a), .val (.int (1 : Int32)), .val (.long ((f2 0) + (((f2 (1 : Int32).toInt) - (f2 0)) / (2 : Int64)))), .second, .val (.long (f2 0)), .second, .val (.int (1 : Int32))]) rfl k) ?_
  show own_Gl p.tables e below F (T2.setTop (mkF m 61 #[.val (.ref a), .val (.int (1 : Int32)), .val (.long ((f2 0) + (((f2 (1 : Int32).toInt) - (f2 0)) / (2 : Int64)))), .second, .val (.long (f2 0)), .second, .val (.int (1 : Int32))] []))
  refine own_go (fun _ k => XS.lloadN X2.here hx rfl (hb hby d3_61) rfl k) ?_
  show own_Gl p.tables e below F (T2.setTop (mkF m 62 #[.val (.ref a), .val (.int (1 : Int32)), .val (.long ((f2 0) + (((f2 (1 : Int32).toInt) - (f2 0)) / (2 : Int64)))), .second, .val (.long (f2 0)), .second, .val (.int (1 : Int32))] [(.long ((f2 0) + (((f2 (1 : Int32).toInt) - (f2 0)) / (2 : Int64))))]))
  refine own_go (fun _ k => X2.ldc2J hx hown (mvT hZ (hw _ (List.mem_of_getElem? (i := 17) rfl))) rfl (hb hby d3_62) k) ?_
  show own_Gl p.tables e below F (T2.setTop (mkF m 65 #[.val (.ref a), .val (.int (1 : Int32)), .val (.long ((f2 0) + (((f2 (1 : Int32).toInt) - (f2 0)) / (2 : Int64)))), .second, .val (.long (f2 0)), .second, .val (.int (1 : Int32))] [(.long (1000 : Int64)), (.long ((f2 0) + (((f2 (1 : Int32).toInt) - (f2 0)) / (2 : Int64))))]))
  refine own_go (fun _ k => XS.ldiv X2.here hx rfl (hb hby d3_65) rfl (by decide) k) ?_
  show own_Gl p.tables e below F (T2.setTop (mkF m 66 #[.val (.ref a), .val (.int (1 : Int32)), .val (.long ((f2 0) + (((f2 (1 : Int32).toInt) - (f2 0)) / (2 : Int64)))), .second, .val (.long (f2 0)), .second, .val (.int (1 : Int32))] [(.long (((f2 0) + (((f2 (1 : Int32).toInt) - (f2 0)) / (2 : Int64))) / (1000 : Int64)))]))
  have hlr := own_low_rank (c := 0) (by decide) S2' (fun y hy => by rw [(by omega : y = 0)]; exact Int.le_refl _) (j := 0) (by decide) rfl
  obtain ⟨fs, hr, hrun, hended, hW, hsame⟩ := X2.leave (v := some (.long (((f2 0) + (((f2 (1 : Int32).toInt) - (f2 0)) / (2 : Int64))) / (1000 : Int64)))) (fun h => by rw [Bd.returns] at h; cases h)
  subst hF
  refine own_fin ?_ ⟨hrun, hended, _, _, rfl, ?_, ⟨_, rfl⟩, hW, hsame.mono (by first | decide | exact Nat.le_of_ble_eq_true rfl) (by first | decide | exact Nat.le_of_ble_eq_true rfl)⟩
  · exact own_retJ X2 hx Bd.returns (hb hby d3_66) hr
  · show Q_rmed2 Z _ _ h0 n0 _ T2.heap _
    exact ⟨f2 (1 : Int32).toInt, (f2 0), own_rank_perm p2' (own_sel_rank (by decide) S2'), own_rank_perm p2' hlr, rfl, NF2⟩
theorem ef_rmed3 (m : MethodId) (x0 : Addr) : entryFrame m #[(.ref x0)] 7 = mkF m 0 #[.val (.ref x0), .unset, .unset, .unset, .unset, .unset, .unset] [] := by first | (simp [entryFrame, mkF, argsToLocals, Value.category]; done) | rfl
def Q_rmed3 (Z : State) (a : Addr) (f0 : Int → Int64) (h0 : Heap) (n0 : Nat) (v : Option Value) (h : Heap) (L : List Loc) : Prop := ∃ m : Int64, own_rank m f0 1 3 ∧ v = some (.long (m / (1000 : Int64))) ∧ Fr n0 L
set_option maxRecDepth 65536 in
set_option maxHeartbeats 40000000 in
theorem rmed3 (l : Launch) (Z : State) (a0 : Array Value) (hw : ∀ d ∈ tables_1, d.before a0 Z = true) (ws : List Jvm.Cond) (a : Addr) (f0 : Int → Int64) (h0 : Heap) (n0 : Nat) (Z0 : n0 ≤ h0.size) (A0 : own_A Z h0 a .long (3 : Int32) (own_fl f0)) (g_a : n0 ≤ a) :
    MetFree l (⟨"com/example/cores_from_twigs/coresfromtwigs/Main", "medianMicros", "([J)J"⟩ : MethodName) (head1 (Jvm.Cond.code (⟨"com/example/cores_from_twigs/coresfromtwigs/Main", "medianMicros", "([J)J"⟩ : MethodName) prog_1_method_12_code 7 (some .long) :: ws) ({ frames := 1, cells := 0, slots := 0, locals := 21 } : Room)) (fun ag U => ag = #[(.ref a)] ∧ Z.Warmed39 U.vm ∧ U.heap = h0) (fun _ _ _ _ _ => True) (fun _ U o U' => ∃ v L, o = .returned v ∧ Q_rmed3 Z a f0 h0 n0 v U'.heap L ∧ FrameEnd U o U' L ({ frames := 1, cells := 0, slots := 0, locals := 21 } : Room).cells ({ frames := 1, cells := 0, slots := 0, locals := 21 } : Room).slots) := by
  refine MetFree.of_bodySF (plainFor_of_name pn_1) hisR ?_
  intro p e s m args below meth c s₁ Bd hml0 hP hK
  obtain ⟨rfl, hZ, hh⟩ := hP
  have hx := Bd.exec
  have hby := Bd.bytes
  have hml : c.maxLocals = 7 := hml0
  have hown : s.vm.findClass "com/example/cores_from_twigs/coresfromtwigs/Main" = some m.cls := findClass_of_methodNamed Bd.named
  have hnm := (name_of_methodNamed Bd.named Bd.method).1
  have X0 : Stand p l e ({ frames := 1, cells := 0, slots := 0, locals := 21 } : Room) s m #[(.ref a)] below meth c s₁ [] 0 0 := Stand.of_body Bd
  have e0 : s₁.heap = h0 := by rw [← hh, Bd.state]; rfl
  have N0 := Fr.nil n0
  refine own_start (ef_rmed3 m a) ?_
  intro F hF
  show own_Gl p.tables e below F (s₁.setTop (mkF m 0 #[.val (.ref a), .unset, .unset, .unset, .unset, .unset, .unset] []))
  refine own_go (fun _ k => XS.aloadN X0.here hx rfl (hb hby d3_0) rfl rfl k) ?_
  show own_Gl p.tables e below F (s₁.setTop (mkF m 1 #[.val (.ref a), .unset, .unset, .unset, .unset, .unset, .unset] [(.ref a)]))
  obtain ⟨cl1, Ar1, aS1, aN1, aH1⟩ := id A0
  refine own_go (fun _ k => X0.arraylength hx (by rw [e0]; exact Ar1.1) (State.isArrayOf_alike hZ.alike Ar1.2.1) (g := (mkF m 1 #[.val (.ref a), .unset, .unset, .unset, .unset, .unset, .unset] [(.ref a)])) rfl rfl (hb hby d3_1) _ k) ?_
  rw [len_of aS1 aN1]
  show own_Gl p.tables e below F (s₁.setTop (mkF m 2 #[.val (.ref a), .unset, .unset, .unset, .unset, .unset, .unset] [(.int (3 : Int32))]))
  refine own_go (fun _ k => XS.iconst X0.here hx rfl (hb hby d3_2) k) ?_
  show own_Gl p.tables e below F (s₁.setTop (mkF m 3 #[.val (.ref a), .unset, .unset, .unset, .unset, .unset, .unset] [(.int (2 : Int32)), (.int (3 : Int32))]))
  refine own_go (fun _ k => XS.idiv X0.here hx rfl (hb hby d3_3) rfl (by decide) k) ?_
  show own_Gl p.tables e below F (s₁.setTop (mkF m 4 #[.val (.ref a), .unset, .unset, .unset, .unset, .unset, .unset] [(.int ((3 : Int32) / (2 : Int32)))]))
  rw [(by decide : (3 : Int32) / (2 : Int32) = (1 : Int32))]
  show own_Gl p.tables e below F (s₁.setTop (mkF m 4 #[.val (.ref a), .unset, .unset, .unset, .unset, .unset, .unset] [(.int (1 : Int32))]))
  refine own_go (fun _ k => XS.istoreN X0.here hx rfl (hb hby d3_4) rfl (l' := #[.val (.ref a), .val (.int (1 : Int32)), .unset, .unset, .unset, .unset, .unset]) rfl k) ?_
  show own_Gl p.tables e below F (s₁.setTop (mkF m 5 #[.val (.ref a), .val (.int (1 : Int32)), .unset, .unset, .unset, .unset, .unset] []))
  refine own_go (fun _ k => XS.aloadN X0.here hx rfl (hb hby d3_5) rfl rfl k) ?_
  show own_Gl p.tables e below F (s₁.setTop (mkF m 6 #[.val (.ref a), .val (.int (1 : Int32)), .unset, .unset, .unset, .unset, .unset] [(.ref a)]))
  refine own_go (fun _ k => XS.iloadN X0.here hx rfl (hb hby d3_6) rfl k) ?_
  show own_Gl p.tables e below F (s₁.setTop (mkF m 7 #[.val (.ref a), .val (.int (1 : Int32)), .unset, .unset, .unset, .unset, .unset] [(.int (1 : Int32)), (.ref a)]))
  obtain ⟨_, _, ⟨T2, L2, k2, n2⟩, -, X2, ⟨Lc2, hQ2, ll2, y2, z2⟩, st2⟩ := Jvm.LawKit.callS X0 hx (y := (⟨"com/example/cores_from_twigs/coresfromtwigs/Main", "selectInPlace", "([JI)J"⟩ : MethodName)) hown (mvT hZ (hw _ (List.mem_of_getElem? (i := 14) rfl))) (mvT hZ (hw _ (List.mem_of_getElem? (i := 15) rfl))) (mvT hZ (hw _ (List.mem_of_getElem? (i := 12) rfl))) (mvT hZ (hw _ (List.mem_of_getElem? (i := 16) rfl))) (by decide) (backOf (W := 0) (rm4 l Z a0 hw [] a (1 : Int32) (3 : Int32) f0 h0 n0 Z0 A0 (by decide) (by decide) g_a) hZ (hw _ (List.mem_of_getElem? (i := 16) rfl)) (hw _ (List.mem_of_getElem? (i := 12) rfl)) (by decide) (by decide)) (g := (mkF m 7 #[.val (.ref a), .val (.int (1 : Int32)), .unset, .unset, .unset, .unset, .unset] [(.int (1 : Int32)), (.ref a)])) rfl (by rw [hml]; rfl) (argsL := [(.ref a), (.int (1 : Int32))]) (rest := []) (lenOf pd_1 rfl) rfl (by show 2 * 0 + _ ≤ _; exact Nat.le_of_eq rfl) (hb hby d3_7) (fun _ _ => ⟨rfl, e0, (by first | decide | exact Nat.le_of_ble_eq_true rfl), (by first | decide | exact Nat.le_of_ble_eq_true rfl)⟩)
  dsimp only [Pt.U, Pt.locs, Pt.cells, Pt.slots] at X2 ll2 y2 z2 st2 hQ2
  have X2 := own_sn X2 (k' := 0) (n' := 0) y2 z2
  obtain ⟨f2, hv2, N2, K2, A2, p2, S2⟩ := hQ2
  rw [hv2] at st2
  have NF2 := own_fr ll2 N0 N2
  have Z2 : n0 ≤ T2.heap.size := Nat.le_trans Z0 K2.1
  have KK2 := Keep.trans (Keep.refl h0 [a]) K2 (by intro z hz; simp at hz; rcases hz with rfl; all_goals first | (left; simp; done) | (right; assumption))
  refine own_go st2 ?_
  show own_Gl p.tables e below F (T2.setTop (mkF m 10 #[.val (.ref a), .val (.int (1 : Int32)), .unset, .unset, .unset, .unset, .unset] [(.long (f2 (1 : Int32).toInt))]))
  have S2' : own_sel f2 ((1 : Nat) : Int) ((3 : Nat) : Int) := S2
  have p2' : own_perm f2 f0 3 := p2
  refine own_go (fun _ k => XS.lstoreN X2.here hx rfl (hb hby d3_10) rfl (l' := #[.val (.ref a), .val (.int (1 : Int32)), .val (.long (f2 (1 : Int32).toInt)), .second, .unset, .unset, .unset]) rfl k) ?_
  show own_Gl p.tables e below F (T2.setTop (mkF m 11 #[.val (.ref a), .val (.int (1 : Int32)), .val (.long (f2 (1 : Int32).toInt)), .second, .unset, .unset, .unset] []))
  refine own_go (fun _ k => XS.aloadN X2.here hx rfl (hb hby d3_11) rfl rfl k) ?_
  show own_Gl p.tables e below F (T2.setTop (mkF m 12 #[.val (.ref a), .val (.int (1 : Int32)), .val (.long (f2 (1 : Int32).toInt)), .second, .unset, .unset, .unset] [(.ref a)]))
  obtain ⟨cl3, Ar3, aS3, aN3, aH3⟩ := id A2
  refine own_go (fun _ k => X2.arraylength hx (by exact Ar3.1) (State.isArrayOf_alike hZ.alike Ar3.2.1) (g := (mkF m 12 #[.val (.ref a), .val (.int (1 : Int32)), .val (.long (f2 (1 : Int32).toInt)), .second, .unset, .unset, .unset] [(.ref a)])) rfl rfl (hb hby d3_12) _ k) ?_
  rw [len_of aS3 aN3]
  show own_Gl p.tables e below F (T2.setTop (mkF m 13 #[.val (.ref a), .val (.int (1 : Int32)), .val (.long (f2 (1 : Int32).toInt)), .second, .unset, .unset, .unset] [(.int (3 : Int32))]))
  refine own_go (fun _ k => XS.iconst X2.here hx rfl (hb hby d3_13) k) ?_
  show own_Gl p.tables e below F (T2.setTop (mkF m 14 #[.val (.ref a), .val (.int (1 : Int32)), .val (.long (f2 (1 : Int32).toInt)), .second, .unset, .unset, .unset] [(.int (2 : Int32)), (.int (3 : Int32))]))
  refine own_go (fun _ k => iremM X2 hx rfl (hb hby d3_14) rfl (by decide) k) ?_
  show own_Gl p.tables e below F (T2.setTop (mkF m 15 #[.val (.ref a), .val (.int (1 : Int32)), .val (.long (f2 (1 : Int32).toInt)), .second, .unset, .unset, .unset] [(.int ((3 : Int32) % (2 : Int32)))]))
  rw [(by decide : (3 : Int32) % (2 : Int32) = (1 : Int32))]
  show own_Gl p.tables e below F (T2.setTop (mkF m 15 #[.val (.ref a), .val (.int (1 : Int32)), .val (.long (f2 (1 : Int32).toInt)), .second, .unset, .unset, .unset] [(.int (1 : Int32))]))
  refine own_go (fun _ k => XS.ifYes X2.here hx rfl (pc0 := 15) (pc' := 61) rfl (hb hby d3_15) rfl (XT.i0_ne_t (by decide)) (by decide) (by decide) k) ?_
  show own_Gl p.tables e below F (T2.setTop (mkF m 61 #[.val (.ref a), .val (.int (1 : Int32)), .val (.long (f2 (1 : Int32).toInt)), .second, .unset, .unset, .unset] []))
  refine own_go (fun _ k => XS.lloadN X2.here hx rfl (hb hby d3_61) rfl k) ?_
  show own_Gl p.tables e below F (T2.setTop (mkF m 62 #[.val (.ref a), .val (.int (1 : Int32)), .val (.long (f2 (1 : Int32).toInt)), .second, .unset, .unset, .unset] [(.long (f2 (1 : Int32).toInt))]))
  refine own_go (fun _ k => X2.ldc2J hx hown (mvT hZ (hw _ (List.mem_of_getElem? (i := 17) rfl))) rfl (hb hby d3_62) k) ?_
  show own_Gl p.tables e below F (T2.setTop (mkF m 65 #[.val (.ref a), .val (.int (1 : Int32)), .val (.long (f2 (1 : Int32).toInt)), .second, .unset, .unset, .unset] [(.long (1000 : Int64)), (.long (f2 (1 : Int32).toInt))]))
  refine own_go (fun _ k => XS.ldiv X2.here hx rfl (hb hby d3_65) rfl (by decide) k) ?_
  show own_Gl p.tables e below F (T2.setTop (mkF m 66 #[.val (.ref a), .val (.int (1 : Int32)), .val (.long (f2 (1 : Int32).toInt)), .second, .unset, .unset, .unset] [(.long ((f2 (1 : Int32).toInt) / (1000 : Int64)))]))
  obtain ⟨fs, hr, hrun, hended, hW, hsame⟩ := X2.leave (v := some (.long ((f2 (1 : Int32).toInt) / (1000 : Int64)))) (fun h => by rw [Bd.returns] at h; cases h)
  subst hF
  refine own_fin ?_ ⟨hrun, hended, _, _, rfl, ?_, ⟨_, rfl⟩, hW, hsame.mono (by first | decide | exact Nat.le_of_ble_eq_true rfl) (by first | decide | exact Nat.le_of_ble_eq_true rfl)⟩
  · exact own_retJ X2 hx Bd.returns (hb hby d3_66) hr
  · show Q_rmed3 Z _ _ h0 n0 _ T2.heap _
    exact ⟨f2 (1 : Int32).toInt, own_rank_perm p2' (own_sel_rank (by decide) S2'), rfl, NF2⟩
theorem ef_rmed4 (m : MethodId) (x0 : Addr) : entryFrame m #[(.ref x0)] 7 = mkF m 0 #[.val (.ref x0), .unset, .unset, .unset, .unset, .unset, .unset] [] := by first | (simp [entryFrame, mkF, argsToLocals, Value.category]; done) | rfl
theorem d3_32 : decode prog_1_method_12_code 32 = .ok (.lload 4, 2) := by decide +kernel
theorem d3_34 : decode prog_1_method_12_code 34 = .ok (.aload_n 0, 1) := by decide +kernel
theorem d3_35 : decode prog_1_method_12_code 35 = .ok (.iload 6, 2) := by decide +kernel
theorem d3_37 : decode prog_1_method_12_code 37 = .ok (.laload, 1) := by decide +kernel
theorem d3_38 : decode prog_1_method_12_code 38 = .ok (.invokestatic 359, 3) := by decide +kernel
theorem d3_41 : decode prog_1_method_12_code 41 = .ok (.lstore 4, 2) := by decide +kernel
theorem d3_43 : decode prog_1_method_12_code 43 = .ok (.iinc 6 1, 3) := by decide +kernel
theorem d3_46 : decode prog_1_method_12_code 46 = .ok (.goto (-20), 3) := by decide +kernel
def Q_rmed4 (Z : State) (a : Addr) (f0 : Int → Int64) (h0 : Heap) (n0 : Nat) (v : Option Value) (h : Heap) (L : List Loc) : Prop := ∃ m l : Int64, own_rank m f0 2 4 ∧ own_rank l f0 1 4 ∧ v = some (.long ((l + ((m - l) / (2 : Int64))) / (1000 : Int64))) ∧ Fr n0 L
set_option maxRecDepth 65536 in
set_option maxHeartbeats 40000000 in
theorem rmed4 (l : Launch) (Z : State) (a0 : Array Value) (hw : ∀ d ∈ tables_1, d.before a0 Z = true) (ws : List Jvm.Cond) (a : Addr) (f0 : Int → Int64) (h0 : Heap) (n0 : Nat) (Z0 : n0 ≤ h0.size) (A0 : own_A Z h0 a .long (4 : Int32) (own_fl f0)) (g_a : n0 ≤ a) :
    MetFree l (⟨"com/example/cores_from_twigs/coresfromtwigs/Main", "medianMicros", "([J)J"⟩ : MethodName) (head1 (Jvm.Cond.code (⟨"com/example/cores_from_twigs/coresfromtwigs/Main", "medianMicros", "([J)J"⟩ : MethodName) prog_1_method_12_code 7 (some .long) :: ws) ({ frames := 1, cells := 0, slots := 0, locals := 21 } : Room)) (fun ag U => ag = #[(.ref a)] ∧ Z.Warmed39 U.vm ∧ U.heap = h0) (fun _ _ _ _ _ => True) (fun _ U o U' => ∃ v L, o = .returned v ∧ Q_rmed4 Z a f0 h0 n0 v U'.heap L ∧ FrameEnd U o U' L ({ frames := 1, cells := 0, slots := 0, locals := 21 } : Room).cells ({ frames := 1, cells := 0, slots := 0, locals := 21 } : Room).slots) := by
  refine MetFree.of_bodySF (plainFor_of_name pn_1) hisR ?_
  intro p e s m args below meth c s₁ Bd hml0 hP hK
  obtain ⟨rfl, hZ, hh⟩ := hP
  have hx := Bd.exec
  have hby := Bd.bytes
  have hml : c.maxLocals = 7 := hml0
  have hown : s.vm.findClass "com/example/cores_from_twigs/coresfromtwigs/Main" = some m.cls := findClass_of_methodNamed Bd.named
  have hnm := (name_of_methodNamed Bd.named Bd.method).1
  have X0 : Stand p l e ({ frames := 1, cells := 0, slots := 0, locals := 21 } : Room) s m #[(.ref a)] below meth c s₁ [] 0 0 := Stand.of_body Bd
  have e0 : s₁.heap = h0 := by rw [← hh, Bd.state]; rfl
  have N0 := Fr.nil n0
  refine own_start (ef_rmed4 m a) ?_
  intro F hF
  show own_Gl p.tables e below F (s₁.setTop (mkF m 0 #[.val (.ref a), .unset, .unset, .unset, .unset, .unset, .unset] []))
  refine own_go (fun _ k => XS.aloadN X0.here hx rfl (hb hby d3_0) rfl rfl k) ?_
  show own_Gl p.tables e below F (s₁.setTop (mkF m 1 #[.val (.ref a), .unset, .unset, .unset, .unset, .unset, .unset] [(.ref a)]))
  obtain ⟨cl1, Ar1, aS1, aN1, aH1⟩ := id A0
  refine own_go (fun _ k => X0.arraylength hx (by rw [e0]; exact Ar1.1) (State.isArrayOf_alike hZ.alike Ar1.2.1) (g := (mkF m 1 #[.val (.ref a), .unset, .unset, .unset, .unset, .unset, .unset] [(.ref a)])) rfl rfl (hb hby d3_1) _ k) ?_
  rw [len_of aS1 aN1]
  show own_Gl p.tables e below F (s₁.setTop (mkF m 2 #[.val (.ref a), .unset, .unset, .unset, .unset, .unset, .unset] [(.int (4 : Int32))]))
  refine own_go (fun _ k => XS.iconst X0.here hx rfl (hb hby d3_2) k) ?_
  show own_Gl p.tables e below F (s₁.setTop (mkF m 3 #[.val (.ref a), .unset, .unset, .unset, .unset, .unset, .unset] [(.int (2 : Int32)), (.int (4 : Int32))]))
  refine own_go (fun _ k => XS.idiv X0.here hx rfl (hb hby d3_3) rfl (by decide) k) ?_
  show own_Gl p.tables e below F (s₁.setTop (mkF m 4 #[.val (.ref a), .unset, .unset, .unset, .unset, .unset, .unset] [(.int ((4 : Int32) / (2 : Int32)))]))
  rw [(by decide : (4 : Int32) / (2 : Int32) = (2 : Int32))]
  show own_Gl p.tables e below F (s₁.setTop (mkF m 4 #[.val (.ref a), .unset, .unset, .unset, .unset, .unset, .unset] [(.int (2 : Int32))]))
  refine own_go (fun _ k => XS.istoreN X0.here hx rfl (hb hby d3_4) rfl (l' := #[.val (.ref a), .val (.int (2 : Int32)), .unset, .unset, .unset, .unset, .unset]) rfl k) ?_
  show own_Gl p.tables e below F (s₁.setTop (mkF m 5 #[.val (.ref a), .val (.int (2 : Int32)), .unset, .unset, .unset, .unset, .unset] []))
  refine own_go (fun _ k => XS.aloadN X0.here hx rfl (hb hby d3_5) rfl rfl k) ?_
  show own_Gl p.tables e below F (s₁.setTop (mkF m 6 #[.val (.ref a), .val (.int (2 : Int32)), .unset, .unset, .unset, .unset, .unset] [(.ref a)]))
  refine own_go (fun _ k => XS.iloadN X0.here hx rfl (hb hby d3_6) rfl k) ?_
  show own_Gl p.tables e below F (s₁.setTop (mkF m 7 #[.val (.ref a), .val (.int (2 : Int32)), .unset, .unset, .unset, .unset, .unset] [(.int (2 : Int32)), (.ref a)]))
  obtain ⟨_, _, ⟨T2, L2, k2, n2⟩, -, X2, ⟨Lc2, hQ2, ll2, y2, z2⟩, st2⟩ := Jvm.LawKit.callS X0 hx (y := (⟨"com/example/cores_from_twigs/coresfromtwigs/Main", "selectInPlace", "([JI)J"⟩ : MethodName)) hown (mvT hZ (hw _ (List.mem_of_getElem? (i := 14) rfl))) (mvT hZ (hw _ (List.mem_of_getElem? (i := 15) rfl))) (mvT hZ (hw _ (List.mem_of_getElem? (i := 12) rfl))) (mvT hZ (hw _ (List.mem_of_getElem? (i := 16) rfl))) (by decide) (backOf (W := 0) (rm4 l Z a0 hw [] a (2 : Int32) (4 : Int32) f0 h0 n0 Z0 A0 (by decide) (by decide) g_a) hZ (hw _ (List.mem_of_getElem? (i := 16) rfl)) (hw _ (List.mem_of_getElem? (i := 12) rfl)) (by decide) (by decide)) (g := (mkF m 7 #[.val (.ref a), .val (.int (2 : Int32)), .unset, .unset, .unset, .unset, .unset] [(.int (2 : Int32)), (.ref a)])) rfl (by rw [hml]; rfl) (argsL := [(.ref a), (.int (2 : Int32))]) (rest := []) (lenOf pd_1 rfl) rfl (by show 2 * 0 + _ ≤ _; exact Nat.le_of_eq rfl) (hb hby d3_7) (fun _ _ => ⟨rfl, e0, (by first | decide | exact Nat.le_of_ble_eq_true rfl), (by first | decide | exact Nat.le_of_ble_eq_true rfl)⟩)
  dsimp only [Pt.U, Pt.locs, Pt.cells, Pt.slots] at X2 ll2 y2 z2 st2 hQ2
  have X2 := own_sn X2 (k' := 0) (n' := 0) y2 z2
  obtain ⟨f2, hv2, N2, K2, A2, p2, S2⟩ := hQ2
  rw [hv2] at st2
  have NF2 := own_fr ll2 N0 N2
  have Z2 : n0 ≤ T2.heap.size := Nat.le_trans Z0 K2.1
  have KK2 := Keep.trans (Keep.refl h0 [a]) K2 (by intro z hz; simp at hz; rcases hz with rfl; all_goals first | (left; simp; done) | (right; assumption))
  refine own_go st2 ?_
  show own_Gl p.tables e below F (T2.setTop (mkF m 10 #[.val (.ref a), .val (.int (2 : Int32)), .unset, .unset, .unset, .unset, .unset] [(.long (f2 (2 : Int32).toInt))]))
  have S2' : own_sel f2 ((2 : Nat) : Int) ((4 : Nat) : Int) := S2
  have p2' : own_perm f2 f0 4 := p2
  refine own_go (fun _ k => XS.lstoreN X2.here hx rfl (hb hby d3_10) rfl (l' := #[.val (.ref a), .val (.int (2 : Int32)), .val (.long (f2 (2 : Int32).toInt)), .second, .unset, .unset, .unset]) rfl k) ?_
  show own_Gl p.tables e below F (T2.setTop (mkF m 11 #[.val (.ref a), .val (.int (2 : Int32)), .val (.long (f2 (2 : Int32).toInt)), .second, .unset, .unset, .unset] []))
  refine own_go (fun _ k => XS.aloadN X2.here hx rfl (hb hby d3_11) rfl rfl k) ?_
  show own_Gl p.tables e below F (T2.setTop (mkF m 12 #[.val (.ref a), .val (.int (2 : Int32)), .val (.long (f2 (2 : Int32).toInt)), .second, .unset, .unset, .unset] [(.ref a)]))
  obtain ⟨cl3, Ar3, aS3, aN3, aH3⟩ := id A2
  refine own_go (fun _ k => X2.arraylength hx (by exact Ar3.1) (State.isArrayOf_alike hZ.alike Ar3.2.1) (g := (mkF m 12 #[.val (.ref a), .val (.int (2 : Int32)), .val (.long (f2 (2 : Int32).toInt)), .second, .unset, .unset, .unset] [(.ref a)])) rfl rfl (hb hby d3_12) _ k) ?_
  rw [len_of aS3 aN3]
  show own_Gl p.tables e below F (T2.setTop (mkF m 13 #[.val (.ref a), .val (.int (2 : Int32)), .val (.long (f2 (2 : Int32).toInt)), .second, .unset, .unset, .unset] [(.int (4 : Int32))]))
  refine own_go (fun _ k => XS.iconst X2.here hx rfl (hb hby d3_13) k) ?_
  show own_Gl p.tables e below F (T2.setTop (mkF m 14 #[.val (.ref a), .val (.int (2 : Int32)), .val (.long (f2 (2 : Int32).toInt)), .second, .unset, .unset, .unset] [(.int (2 : Int32)), (.int (4 : Int32))]))
  refine own_go (fun _ k => iremM X2 hx rfl (hb hby d3_14) rfl (by decide) k) ?_
  show own_Gl p.tables e below F (T2.setTop (mkF m 15 #[.val (.ref a), .val (.int (2 : Int32)), .val (.long (f2 (2 : Int32).toInt)), .second, .unset, .unset, .unset] [(.int ((4 : Int32) % (2 : Int32)))]))
  rw [(by decide : (4 : Int32) % (2 : Int32) = (0 : Int32))]
  show own_Gl p.tables e below F (T2.setTop (mkF m 15 #[.val (.ref a), .val (.int (2 : Int32)), .val (.long (f2 (2 : Int32).toInt)), .second, .unset, .unset, .unset] [(.int (0 : Int32))]))
  refine own_go (fun _ k => XS.ifNo X2.here hx rfl (hb hby d3_15) rfl (XT.i0_ne_f rfl) k) ?_
  show own_Gl p.tables e below F (T2.setTop (mkF m 18 #[.val (.ref a), .val (.int (2 : Int32)), .val (.long (f2 (2 : Int32).toInt)), .second, .unset, .unset, .unset] []))
  refine own_go (fun _ k => XS.aloadN X2.here hx rfl (hb hby d3_18) rfl rfl k) ?_
  show own_Gl p.tables e below F (T2.setTop (mkF m 19 #[.val (.ref a), .val (.int (2 : Int32)), .val (.long (f2 (2 : Int32).toInt)), .second, .unset, .unset, .unset] [(.ref a)]))
  refine own_go (fun _ k => XS.iconst X2.here hx rfl (hb hby d3_19) k) ?_
  show own_Gl p.tables e below F (T2.setTop (mkF m 20 #[.val (.ref a), .val (.int (2 : Int32)), .val (.long (f2 (2 : Int32).toInt)), .second, .unset, .unset, .unset] [(.int (0 : Int32)), (.ref a)]))
  obtain ⟨cl4, Ar4, aS4, aN4, aH4⟩ := id A2
  have hin4 : ¬ ((0 : Int32) < 0 ∨ cl4.slots.size ≤ ((0 : Int32)).toNatClampNeg) := inb_of aS4 ⟨by decide, by decide⟩
  have hat4 : cl4.slots[((0 : Int32)).toNatClampNeg]? = some (.long (f2 0)) := (aH4 _ (Nat.lt_of_not_le fun y => hin4 (Or.inr y))).trans (congrArg some rfl)
  refine own_go (fun _ k => X2.laload hx (j := (0 : Int32)) (v := (.long (f2 0))) (by exact Ar4.1) (State.isArrayOf_alike hZ.alike Ar4.2.1) Ar4.2.2 hin4 hat4 (g := (mkF m 20 #[.val (.ref a), .val (.int (2 : Int32)), .val (.long (f2 (2 : Int32).toInt)), .second, .unset, .unset, .unset] [(.int (0 : Int32)), (.ref a)])) rfl rfl (hb hby d3_20) _ k) ?_
  show own_Gl p.tables e below F (T2.setTop (mkF m 21 #[.val (.ref a), .val (.int (2 : Int32)), .val (.long (f2 (2 : Int32).toInt)), .second, .unset, .unset, .unset] [(.long (f2 0))]))
  refine own_go (fun _ k => XS.lstore X2.here hx rfl (hb hby d3_21) rfl (l' := #[.val (.ref a), .val (.int (2 : Int32)), .val (.long (f2 (2 : Int32).toInt)), .second, .val (.long (f2 0)), .second, .unset]) rfl k) ?_
  show own_Gl p.tables e below F (T2.setTop (mkF m 23 #[.val (.ref a), .val (.int (2 : Int32)), .val (.long (f2 (2 : Int32).toInt)), .second, .val (.long (f2 0)), .second, .unset] []))
  refine own_go (fun _ k => XS.iconst X2.here hx rfl (hb hby d3_23) k) ?_
  show own_Gl p.tables e below F (T2.setTop (mkF m 24 #[.val (.ref a), .val (.int (2 : Int32)), .val (.long (f2 (2 : Int32).toInt)), .second, .val (.long (f2 0)), .second, .unset] [(.int (1 : Int32))]))
  refine own_go (fun _ k => XS.istore X2.here hx rfl (hb hby d3_24) rfl (l' := #[.val (.ref a), .val (.int (2 : Int32)), .val (.long (f2 (2 : Int32).toInt)), .second, .val (.long (f2 0)), .second, .val (.int (1 : Int32))]) rfl k) ?_
  show own_Gl p.tables e below F (T2.setTop (mkF m 26 #[.val (.ref a), .val (.int (2 : Int32)), .val (.long (f2 (2 : Int32).toInt)), .second, .val (.long (f2 0)), .second, .val (.int (1 : Int32))] []))
  refine own_go (fun _ k => XS.iload X2.here hx rfl (hb hby d3_26) rfl k) ?_
  show own_Gl p.tables e below F (T2.setTop (mkF m 28 #[.val (.ref a), .val (.int (2 : Int32)), .val (.long (f2 (2 : Int32).toInt)), .second, .val (.long (f2 0)), .second, .val (.int (1 : Int32))] [(.int (1 : Int32))]))
  refine own_go (fun _ k => XS.iloadN X2.here hx rfl (hb hby d3_28) rfl k) ?_
  show own_Gl p.tables e below F (T2.setTop (mkF m 29 #[.val (.ref a), .val (.int (2 : Int32)), .val (.long (f2 (2 : Int32).toInt)), .second, .val (.long (f2 0)), .second, .val (.int (1 : Int32))] [(.int (2 : Int32)), (.int (1 : Int32))]))
  refine own_go (fun _ k => XS.icmpNo X2.here hx rfl (hb hby d3_29) rfl (XT.ii_ge_f (by decide)) k) ?_
  show own_Gl p.tables e below F (T2.setTop (mkF m 32 #[.val (.ref a), .val (.int (2 : Int32)), .val (.long (f2 (2 : Int32).toInt)), .second, .val (.long (f2 0)), .second, .val (.int (1 : Int32))] []))
  refine own_go (fun _ k => XS.lload X2.here hx rfl (hb hby d3_32) rfl k) ?_
  show own_Gl p.tables e below F (T2.setTop (mkF m 34 #[.val (.ref a), .val (.int (2 : Int32)), .val (.long (f2 (2 : Int32).toInt)), .second, .val (.long (f2 0)), .second, .val (.int (1 : Int32))] [(.long (f2 0))]))
  refine own_go (fun _ k => XS.aloadN X2.here hx rfl (hb hby d3_34) rfl rfl k) ?_
  show own_Gl p.tables e below F (T2.setTop (mkF m 35 #[.val (.ref a), .val (.int (2 : Int32)), .val (.long (f2 (2 : Int32).toInt)), .second, .val (.long (f2 0)), .second, .val (.int (1 : Int32))] [(.ref a), (.long (f2 0))]))
  refine own_go (fun _ k => XS.iload X2.here hx rfl (hb hby d3_35) rfl k) ?_
  show own_Gl p.tables e below F (T2.setTop (mkF m 37 #[.val (.ref a), .val (.int (2 : Int32)), .val (.long (f2 (2 : Int32).toInt)), .second, .val (.long (f2 0)), .second, .val (.int (1 : Int32))] [(.int (1 : Int32)), (.ref a), (.long (f2 0))]))
  obtain ⟨cl5, Ar5, aS5, aN5, aH5⟩ := id A2
  have hin5 : ¬ ((1 : Int32) < 0 ∨ cl5.slots.size ≤ ((1 : Int32)).toNatClampNeg) := inb_of aS5 ⟨by decide, by decide⟩
  have hat5 : cl5.slots[((1 : Int32)).toNatClampNeg]? = some (.long (f2 1)) := (aH5 _ (Nat.lt_of_not_le fun y => hin5 (Or.inr y))).trans (congrArg some rfl)
  refine own_go (fun _ k => X2.laload hx (j := (1 : Int32)) (v := (.long (f2 1))) (by exact Ar5.1) (State.isArrayOf_alike hZ.alike Ar5.2.1) Ar5.2.2 hin5 hat5 (g := (mkF m 37 #[.val (.ref a), .val (.int (2 : Int32)), .val (.long (f2 (2 : Int32).toInt)), .second, .val (.long (f2 0)), .second, .val (.int (1 : Int32))] [(.int (1 : Int32)), (.ref a), (.long (f2 0))])) rfl rfl (hb hby d3_37) _ k) ?_
  show own_Gl p.tables e below F (T2.setTop (mkF m 38 #[.val (.ref a), .val (.int (2 : Int32)), .val (.long (f2 (2 : Int32).toInt)), .second, .val (.long (f2 0)), .second, .val (.int (1 : Int32))] [(.long (f2 1)), (.long (f2 0))]))
  obtain ⟨_, _, ⟨T6, L6, k6, n6⟩, -, X6, ⟨Lc6, hQ6, ll6, y6, z6⟩, st6⟩ := Jvm.LawKit.callS X2 hx (y := (⟨"java/lang/Math", "max", "(JJ)J"⟩ : MethodName)) hown (mvT hZ (hw _ (List.mem_of_getElem? (i := 27) rfl))) (mvT hZ (hw _ (List.mem_of_getElem? (i := 7) rfl))) (mvT hZ (hw _ (List.mem_of_getElem? (i := 4) rfl))) (mvT hZ (hw _ (List.mem_of_getElem? (i := 8) rfl))) (by decide) (backOf (W := 0) (rm2 l Z a0 hw [] (f2 0) (f2 1)  T2.heap n0 Z2 ) hZ (hw _ (List.mem_of_getElem? (i := 8) rfl)) (hw _ (List.mem_of_getElem? (i := 4) rfl)) (by decide) (by decide)) (g := (mkF m 38 #[.val (.ref a), .val (.int (2 : Int32)), .val (.long (f2 (2 : Int32).toInt)), .second, .val (.long (f2 0)), .second, .val (.int (1 : Int32))] [(.long (f2 1)), (.long (f2 0))])) rfl (by rw [hml]; rfl) (argsL := [(.long (f2 0)), (.long (f2 1))]) (rest := []) (lenOf pd_0 rfl) rfl (by show 2 * 0 + _ ≤ _; exact Nat.le_of_eq rfl) (hb hby d3_38) (fun _ _ => ⟨rfl, rfl, (by first | decide | exact Nat.le_of_ble_eq_true rfl), (by first | decide | exact Nat.le_of_ble_eq_true rfl)⟩)
  dsimp only [Pt.U, Pt.locs, Pt.cells, Pt.slots] at X6 ll6 y6 z6 st6 hQ6
  have X6 := own_sn X6 (k' := 0) (n' := 0) y6 z6
  obtain ⟨hv6, N6, e6⟩ := hQ6
  rw [hv6] at st6
  have NF6 := own_fr ll6 NF2 N6
  refine own_go st6 ?_
  show own_Gl p.tables e below F (T6.setTop (mkF m 41 #[.val (.ref a), .val (.int (2 : Int32)), .val (.long (f2 (2 : Int32).toInt)), .second, .val (.long (f2 0)), .second, .val (.int (1 : Int32))] [(.long (own_max (f2 0) (f2 1)))]))
  refine own_go (fun _ k => XS.lstore X6.here hx rfl (hb hby d3_41) rfl (l' := #[.val (.ref a), .val (.int (2 : Int32)), .val (.long (f2 (2 : Int32).toInt)), .second, .val (.long (own_max (f2 0) (f2 1))), .second, .val (.int (1 : Int32))]) rfl k) ?_
  show own_Gl p.tables e below F (T6.setTop (mkF m 43 #[.val (.ref a), .val (.int (2 : Int32)), .val (.long (f2 (2 : Int32).toInt)), .second, .val (.long (own_max (f2 0) (f2 1))), .second, .val (.int (1 : Int32))] []))
  refine own_go (fun _ k => XS.iinc X6.here hx rfl (hb hby d3_43) rfl (l' := #[.val (.ref a), .val (.int (2 : Int32)), .val (.long (f2 (2 : Int32).toInt)), .second, .val (.long (own_max (f2 0) (f2 1))), .second, .val (.int ((1 : Int32) + (1 : Int32)))]) rfl k) ?_
  show own_Gl p.tables e below F (T6.setTop (mkF m 46 #[.val (.ref a), .val (.int (2 : Int32)), .val (.long (f2 (2 : Int32).toInt)), .second, .val (.long (own_max (f2 0) (f2 1))), .second, .val (.int ((1 : Int32) + (1 : Int32)))] []))
  rw [(by decide : (1 : Int32) + (1 : Int32) = (2 : Int32))]
  show own_Gl p.tables e below F (T6.setTop (mkF m 46 #[.val (.ref a), .val (.int (2 : Int32)), .val (.long (f2 (2 : Int32).toInt)), .second, .val (.long (own_max (f2 0) (f2 1))), .second, .val (.int (2 : Int32))] []))
  refine own_go (fun _ k => XS.goto X6.here hx rfl (pc0 := 46) (pc' := 26) rfl (hb hby d3_46) (by decide) (by decide) k) ?_
  show own_Gl p.tables e below F (T6.setTop (mkF m 26 #[.val (.ref a), .val (.int (2 : Int32)), .val (.long (f2 (2 : Int32).toInt)), .second, .val (.long (own_max (f2 0) (f2 1))), .second, .val (.int (2 : Int32))] []))
  refine own_go (fun _ k => XS.iload X6.here hx rfl (hb hby d3_26) rfl k) ?_
  show own_Gl p.tables e below F (T6.setTop (mkF m 28 #[.val (.ref a), .val (.int (2 : Int32)), .val (.long (f2 (2 : Int32).toInt)), .second, .val (.long (own_max (f2 0) (f2 1))), .second, .val (.int (2 : Int32))] [(.int (2 : Int32))]))
  refine own_go (fun _ k => XS.iloadN X6.here hx rfl (hb hby d3_28) rfl k) ?_
  show own_Gl p.tables e below F (T6.setTop (mkF m 29 #[.val (.ref a), .val (.int (2 : Int32)), .val (.long (f2 (2 : Int32).toInt)), .second, .val (.long (own_max (f2 0) (f2 1))), .second, .val (.int (2 : Int32))] [(.int (2 : Int32)), (.int (2 : Int32))]))
  refine own_go (fun _ k => XS.icmpYes X6.here hx rfl (pc0 := 29) (pc' := 49) rfl (hb hby d3_29) rfl (XT.ii_ge_t (by decide)) (by decide) (by decide) k) ?_
  show own_Gl p.tables e below F (T6.setTop (mkF m 49 #[.val (.ref a), .val (.int (2 : Int32)), .val (.long (f2 (2 : Int32).toInt)), .second, .val (.long (own_max (f2 0) (f2 1))), .second, .val (.int (2 : Int32))] []))
  refine own_go (fun _ k => XS.lload X6.here hx rfl (hb hby d3_49) rfl k) ?_
  show own_Gl p.tables e below F (T6.setTop (mkF m 51 #[.val (.ref a), .val (.int (2 : Int32)), .val (.long (f2 (2 : Int32).toInt)), .second, .val (.long (own_max (f2 0) (f2 1))), .second, .val (.int (2 : Int32))] [(.long (own_max (f2 0) (f2 1)))]))
  refine own_go (fun _ k => XS.lloadN X6.here hx rfl (hb hby d3_51) rfl k) ?_
  show own_Gl p.tables e below F (T6.setTop (mkF m 52 #[.val (.ref a), .val (.int (2 : Int32)), .val (.long (f2 (2 : Int32).toInt)), .second, .val (.long (own_max (f2 0) (f2 1))), .second, .val (.int (2 : Int32))] [(.long (f2 (2 : Int32).toInt)), (.long (own_max (f2 0) (f2 1)))]))
  refine own_go (fun _ k => XS.lload X6.here hx rfl (hb hby d3_52) rfl k) ?_
  show own_Gl p.tables e below F (T6.setTop (mkF m 54 #[.val (.ref a), .val (.int (2 : Int32)), .val (.long (f2 (2 : Int32).toInt)), .second, .val (.long (own_max (f2 0) (f2 1))), .second, .val (.int (2 : Int32))] [(.long (own_max (f2 0) (f2 1))), (.long (f2 (2 : Int32).toInt)), (.long (own_max (f2 0) (f2 1)))]))
  refine own_go (fun _ k => XS.lsub X6.here hx rfl (hb hby d3_54) rfl k) ?_
  show own_Gl p.tables e below F (T6.setTop (mkF m 55 #[.val (.ref a), .val (.int (2 : Int32)), .val (.long (f2 (2 : Int32).toInt)), .second, .val (.long (own_max (f2 0) (f2 1))), .second, .val (.int (2 : Int32))] [(.long ((f2 (2 : Int32).toInt) - (own_max (f2 0) (f2 1)))), (.long (own_max (f2 0) (f2 1)))]))
  refine own_go (fun _ k => X6.ldc2J hx hown (mvT hZ (hw _ (List.mem_of_getElem? (i := 23) rfl))) rfl (hb hby d3_55) k) ?_
  show own_Gl p.tables e below F (T6.setTop (mkF m 58 #[.val (.ref a), .val (.int (2 : Int32)), .val (.long (f2 (2 : Int32).toInt)), .second, .val (.long (own_max (f2 0) (f2 1))), .second, .val (.int (2 : Int32))] [(.long (2 : Int64)), (.long ((f2 (2 : Int32).toInt) - (own_max (f2 0) (f2 1)))), (.long (own_max (f2 0) (f2 1)))]))
  refine own_go (fun _ k => XS.ldiv X6.here hx rfl (hb hby d3_58) rfl (by decide) k) ?_
  show own_Gl p.tables e below F (T6.setTop (mkF m 59 #[.val (.ref a), .val (.int (2 : Int32)), .val (.long (f2 (2 : Int32).toInt)), .second, .val (.long (own_max (f2 0) (f2 1))), .second, .val (.int (2 : Int32))] [(.long (((f2 (2 : Int32).toInt) - (own_max (f2 0) (f2 1))) / (2 : Int64))), (.long (own_max (f2 0) (f2 1)))]))
  refine own_go (fun _ k => XS.ladd X6.here hx rfl (hb hby d3_59) rfl k) ?_
  show own_Gl p.tables e below F (T6.setTop (mkF m 60 #[.val (.ref a), .val (.int (2 : Int32)), .val (.long (f2 (2 : Int32).toInt)), .second, .val (.long (own_max (f2 0) (f2 1))), .second, .val (.int (2 : Int32))] [(.long ((own_max (f2 0) (f2 1)) + (((f2 (2 : Int32).toInt) - (own_max (f2 0) (f2 1))) / (2 : Int64))))]))
  refine own_go (fun _ k => XS.lstoreN X6.here hx rfl (hb hby d3_60) rfl (l' := #[.val (.ref a), .val (.int (2 : Int32)), .val (.long ((own_max (f2 0) (f2 1)) + (((f2 (2 : Int32).toInt) - (own_max (f2 0) (f2 1))) / (2 : Int64)))), .second, .val (.long (own_max (f2 0) (f2 1))), .second, .val (.int (2 : Int32))]) rfl k) ?_
  show own_Gl p.tables e below F (T6.setTop (mkF m 61 #[.val (.ref a), .val (.int (2 : Int32)), .val (.long ((own_max (f2 0) (f2 1)) + (((f2 (2 : Int32).toInt) - (own_max (f2 0) (f2 1))) / (2 : Int64)))), .second, .val (.long (own_max (f2 0) (f2 1))), .second, .val (.int (2 : Int32))] []))
  refine own_go (fun _ k => XS.lloadN X6.here hx rfl (hb hby d3_61) rfl k) ?_
  show own_Gl p.tables e below F (T6.setTop (mkF m 62 #[.val (.ref a), .val (.int (2 : Int32)), .val (.long ((own_max (f2 0) (f2 1)) + (((f2 (2 : Int32).toInt) - (own_max (f2 0) (f2 1))) / (2 : Int64)))), .second, .val (.long (own_max (f2 0) (f2 1))), .second, .val (.int (2 : Int32))] [(.long ((own_max (f2 0) (f2 1)) + (((f2 (2 : Int32).toInt) - (own_max (f2 0) (f2 1))) / (2 : Int64))))]))
  refine own_go (fun _ k => X6.ldc2J hx hown (mvT hZ (hw _ (List.mem_of_getElem? (i := 17) rfl))) rfl (hb hby d3_62) k) ?_
  show own_Gl p.tables e below F (T6.setTop (mkF m 65 #[.val (.ref a), .val (.int (2 : Int32)), .val (.long ((own_max (f2 0) (f2 1)) + (((f2 (2 : Int32).toInt) - (own_max (f2 0) (f2 1))) / (2 : Int64)))), .second, .val (.long (own_max (f2 0) (f2 1))), .second, .val (.int (2 : Int32))] [(.long (1000 : Int64)), (.long ((own_max (f2 0) (f2 1)) + (((f2 (2 : Int32).toInt) - (own_max (f2 0) (f2 1))) / (2 : Int64))))]))
  refine own_go (fun _ k => XS.ldiv X6.here hx rfl (hb hby d3_65) rfl (by decide) k) ?_
  show own_Gl p.tables e below F (T6.setTop (mkF m 66 #[.val (.ref a), .val (.int (2 : Int32)), .val (.long ((own_max (f2 0) (f2 1)) + (((f2 (2 : Int32).toInt) - (own_max (f2 0) (f2 1))) / (2 : Int64)))), .second, .val (.long (own_max (f2 0) (f2 1))), .second, .val (.int (2 : Int32))] [(.long (((own_max (f2 0) (f2 1)) + (((f2 (2 : Int32).toInt) - (own_max (f2 0) (f2 1))) / (2 : Int64))) / (1000 : Int64)))]))
  have hmx : ∃ j : Nat, j < 2 ∧ own_max (f2 0) (f2 1) = f2 (j : Int) := by
    unfold own_max; by_cases q : f2 0 < f2 1
    · rw [if_pos q]; exact ⟨1, by decide, rfl⟩
    · rw [if_neg q]; exact ⟨0, by decide, rfl⟩
  obtain ⟨jx, jx1, jx2⟩ := hmx
  have hle : ∀ y : Nat, y < 1 + 1 → (f2 (y : Int)).toInt ≤ (own_max (f2 0) (f2 1)).toInt := by
    intro y hy; rw [own_max_i]
    rcases (by omega : y = 0 ∨ y = 1) with rfl | rfl
    · show (f2 0).toInt ≤ _; omega
    · show (f2 1).toInt ≤ _; omega
  have hlr := own_low_rank (c := 1) (by decide) S2' hle (j := jx) jx1 jx2
  obtain ⟨fs, hr, hrun, hended, hW, hsame⟩ := X6.leave (v := some (.long (((own_max (f2 0) (f2 1)) + (((f2 (2 : Int32).toInt) - (own_max (f2 0) (f2 1))) / (2 : Int64))) / (1000 : Int64)))) (fun h => by rw [Bd.returns] at h; cases h)
  subst hF
  refine own_fin ?_ ⟨hrun, hended, _, _, rfl, ?_, ⟨_, rfl⟩, hW, hsame.mono (by first | decide | exact Nat.le_of_ble_eq_true rfl) (by first | decide | exact Nat.le_of_ble_eq_true rfl)⟩
  · exact own_retJ X6 hx Bd.returns (hb hby d3_66) hr
  · show Q_rmed4 Z _ _ h0 n0 _ T6.heap _
    rw [e6]
    exact ⟨f2 (2 : Int32).toInt, (own_max (f2 0) (f2 1)), own_rank_perm p2' (own_sel_rank (by decide) S2'), own_rank_perm p2' hlr, rfl, NF6⟩
theorem ef_rmed5 (m : MethodId) (x0 : Addr) : entryFrame m #[(.ref x0)] 7 = mkF m 0 #[.val (.ref x0), .unset, .unset, .unset, .unset, .unset, .unset] [] := by first | (simp [entryFrame, mkF, argsToLocals, Value.category]; done) | rfl
def Q_rmed5 (Z : State) (a : Addr) (f0 : Int → Int64) (h0 : Heap) (n0 : Nat) (v : Option Value) (h : Heap) (L : List Loc) : Prop := ∃ m : Int64, own_rank m f0 2 5 ∧ v = some (.long (m / (1000 : Int64))) ∧ Fr n0 L
set_option maxRecDepth 65536 in
set_option maxHeartbeats 40000000 in
theorem rmed5 (l : Launch) (Z : State) (a0 : Array Value) (hw : ∀ d ∈ tables_1, d.before a0 Z = true) (ws : List Jvm.Cond) (a : Addr) (f0 : Int → Int64) (h0 : Heap) (n0 : Nat) (Z0 : n0 ≤ h0.size) (A0 : own_A Z h0 a .long (5 : Int32) (own_fl f0)) (g_a : n0 ≤ a) :
    MetFree l (⟨"com/example/cores_from_twigs/coresfromtwigs/Main", "medianMicros", "([J)J"⟩ : MethodName) (head1 (Jvm.Cond.code (⟨"com/example/cores_from_twigs/coresfromtwigs/Main", "medianMicros", "([J)J"⟩ : MethodName) prog_1_method_12_code 7 (some .long) :: ws) ({ frames := 1, cells := 0, slots := 0, locals := 21 } : Room)) (fun ag U => ag = #[(.ref a)] ∧ Z.Warmed39 U.vm ∧ U.heap = h0) (fun _ _ _ _ _ => True) (fun _ U o U' => ∃ v L, o = .returned v ∧ Q_rmed5 Z a f0 h0 n0 v U'.heap L ∧ FrameEnd U o U' L ({ frames := 1, cells := 0, slots := 0, locals := 21 } : Room).cells ({ frames := 1, cells := 0, slots := 0, locals := 21 } : Room).slots) := by
  refine MetFree.of_bodySF (plainFor_of_name pn_1) hisR ?_
  intro p e s m args below meth c s₁ Bd hml0 hP hK
  obtain ⟨rfl, hZ, hh⟩ := hP
  have hx := Bd.exec
  have hby := Bd.bytes
  have hml : c.maxLocals = 7 := hml0
  have hown : s.vm.findClass "com/example/cores_from_twigs/coresfromtwigs/Main" = some m.cls := findClass_of_methodNamed Bd.named
  have hnm := (name_of_methodNamed Bd.named Bd.method).1
  have X0 : Stand p l e ({ frames := 1, cells := 0, slots := 0, locals := 21 } : Room) s m #[(.ref a)] below meth c s₁ [] 0 0 := Stand.of_body Bd
  have e0 : s₁.heap = h0 := by rw [← hh, Bd.state]; rfl
  have N0 := Fr.nil n0
  refine own_start (ef_rmed5 m a) ?_
  intro F hF
  show own_Gl p.tables e below F (s₁.setTop (mkF m 0 #[.val (.ref a), .unset, .unset, .unset, .unset, .unset, .unset] []))
  refine own_go (fun _ k => XS.aloadN X0.here hx rfl (hb hby d3_0) rfl rfl k) ?_
  show own_Gl p.tables e below F (s₁.setTop (mkF m 1 #[.val (.ref a), .unset, .unset, .unset, .unset, .unset, .unset] [(.ref a)]))
  obtain ⟨cl1, Ar1, aS1, aN1, aH1⟩ := id A0
  refine own_go (fun _ k => X0.arraylength hx (by rw [e0]; exact Ar1.1) (State.isArrayOf_alike hZ.alike Ar1.2.1) (g := (mkF m 1 #[.val (.ref a), .unset, .unset, .unset, .unset, .unset, .unset] [(.ref a)])) rfl rfl (hb hby d3_1) _ k) ?_
  rw [len_of aS1 aN1]
  show own_Gl p.tables e below F (s₁.setTop (mkF m 2 #[.val (.ref a), .unset, .unset, .unset, .unset, .unset, .unset] [(.int (5 : Int32))]))
  refine own_go (fun _ k => XS.iconst X0.here hx rfl (hb hby d3_2) k) ?_
  show own_Gl p.tables e below F (s₁.setTop (mkF m 3 #[.val (.ref a), .unset, .unset, .unset, .unset, .unset, .unset] [(.int (2 : Int32)), (.int (5 : Int32))]))
  refine own_go (fun _ k => XS.idiv X0.here hx rfl (hb hby d3_3) rfl (by decide) k) ?_
  show own_Gl p.tables e below F (s₁.setTop (mkF m 4 #[.val (.ref a), .unset, .unset, .unset, .unset, .unset, .unset] [(.int ((5 : Int32) / (2 : Int32)))]))
  rw [(by decide : (5 : Int32) / (2 : Int32) = (2 : Int32))]
  show own_Gl p.tables e below F (s₁.setTop (mkF m 4 #[.val (.ref a), .unset, .unset, .unset, .unset, .unset, .unset] [(.int (2 : Int32))]))
  refine own_go (fun _ k => XS.istoreN X0.here hx rfl (hb hby d3_4) rfl (l' := #[.val (.ref a), .val (.int (2 : Int32)), .unset, .unset, .unset, .unset, .unset]) rfl k) ?_
  show own_Gl p.tables e below F (s₁.setTop (mkF m 5 #[.val (.ref a), .val (.int (2 : Int32)), .unset, .unset, .unset, .unset, .unset] []))
  refine own_go (fun _ k => XS.aloadN X0.here hx rfl (hb hby d3_5) rfl rfl k) ?_
  show own_Gl p.tables e below F (s₁.setTop (mkF m 6 #[.val (.ref a), .val (.int (2 : Int32)), .unset, .unset, .unset, .unset, .unset] [(.ref a)]))
  refine own_go (fun _ k => XS.iloadN X0.here hx rfl (hb hby d3_6) rfl k) ?_
  show own_Gl p.tables e below F (s₁.setTop (mkF m 7 #[.val (.ref a), .val (.int (2 : Int32)), .unset, .unset, .unset, .unset, .unset] [(.int (2 : Int32)), (.ref a)]))
  obtain ⟨_, _, ⟨T2, L2, k2, n2⟩, -, X2, ⟨Lc2, hQ2, ll2, y2, z2⟩, st2⟩ := Jvm.LawKit.callS X0 hx (y := (⟨"com/example/cores_from_twigs/coresfromtwigs/Main", "selectInPlace", "([JI)J"⟩ : MethodName)) hown (mvT hZ (hw _ (List.mem_of_getElem? (i := 14) rfl))) (mvT hZ (hw _ (List.mem_of_getElem? (i := 15) rfl))) (mvT hZ (hw _ (List.mem_of_getElem? (i := 12) rfl))) (mvT hZ (hw _ (List.mem_of_getElem? (i := 16) rfl))) (by decide) (backOf (W := 0) (rm4 l Z a0 hw [] a (2 : Int32) (5 : Int32) f0 h0 n0 Z0 A0 (by decide) (by decide) g_a) hZ (hw _ (List.mem_of_getElem? (i := 16) rfl)) (hw _ (List.mem_of_getElem? (i := 12) rfl)) (by decide) (by decide)) (g := (mkF m 7 #[.val (.ref a), .val (.int (2 : Int32)), .unset, .unset, .unset, .unset, .unset] [(.int (2 : Int32)), (.ref a)])) rfl (by rw [hml]; rfl) (argsL := [(.ref a), (.int (2 : Int32))]) (rest := []) (lenOf pd_1 rfl) rfl (by show 2 * 0 + _ ≤ _; exact Nat.le_of_eq rfl) (hb hby d3_7) (fun _ _ => ⟨rfl, e0, (by first | decide | exact Nat.le_of_ble_eq_true rfl), (by first | decide | exact Nat.le_of_ble_eq_true rfl)⟩)
  dsimp only [Pt.U, Pt.locs, Pt.cells, Pt.slots] at X2 ll2 y2 z2 st2 hQ2
  have X2 := own_sn X2 (k' := 0) (n' := 0) y2 z2
  obtain ⟨f2, hv2, N2, K2, A2, p2, S2⟩ := hQ2
  rw [hv2] at st2
  have NF2 := own_fr ll2 N0 N2
  have Z2 : n0 ≤ T2.heap.size := Nat.le_trans Z0 K2.1
  have KK2 := Keep.trans (Keep.refl h0 [a]) K2 (by intro z hz; simp at hz; rcases hz with rfl; all_goals first | (left; simp; done) | (right; assumption))
  refine own_go st2 ?_
  show own_Gl p.tables e below F (T2.setTop (mkF m 10 #[.val (.ref a), .val (.int (2 : Int32)), .unset, .unset, .unset, .unset, .unset] [(.long (f2 (2 : Int32).toInt))]))
  have S2' : own_sel f2 ((2 : Nat) : Int) ((5 : Nat) : Int) := S2
  have p2' : own_perm f2 f0 5 := p2
  refine own_go (fun _ k => XS.lstoreN X2.here hx rfl (hb hby d3_10) rfl (l' := #[.val (.ref a), .val (.int (2 : Int32)), .val (.long (f2 (2 : Int32).toInt)), .second, .unset, .unset, .unset]) rfl k) ?_
  show own_Gl p.tables e below F (T2.setTop (mkF m 11 #[.val (.ref a), .val (.int (2 : Int32)), .val (.long (f2 (2 : Int32).toInt)), .second, .unset, .unset, .unset] []))
  refine own_go (fun _ k => XS.aloadN X2.here hx rfl (hb hby d3_11) rfl rfl k) ?_
  show own_Gl p.tables e below F (T2.setTop (mkF m 12 #[.val (.ref a), .val (.int (2 : Int32)), .val (.long (f2 (2 : Int32).toInt)), .second, .unset, .unset, .unset] [(.ref a)]))
  obtain ⟨cl3, Ar3, aS3, aN3, aH3⟩ := id A2
  refine own_go (fun _ k => X2.arraylength hx (by exact Ar3.1) (State.isArrayOf_alike hZ.alike Ar3.2.1) (g := (mkF m 12 #[.val (.ref a), .val (.int (2 : Int32)), .val (.long (f2 (2 : Int32).toInt)), .second, .unset, .unset, .unset] [(.ref a)])) rfl rfl (hb hby d3_12) _ k) ?_
  rw [len_of aS3 aN3]
  show own_Gl p.tables e below F (T2.setTop (mkF m 13 #[.val (.ref a), .val (.int (2 : Int32)), .val (.long (f2 (2 : Int32).toInt)), .second, .unset, .unset, .unset] [(.int (5 : Int32))]))
  refine own_go (fun _ k => XS.iconst X2.here hx rfl (hb hby d3_13) k) ?_
  show own_Gl p.tables e below F (T2.setTop (mkF m 14 #[.val (.ref a), .val (.int (2 : Int32)), .val (.long (f2 (2 : Int32).toInt)), .second, .unset, .unset, .unset] [(.int (2 : Int32)), (.int (5 : Int32))]))
  refine own_go (fun _ k => iremM X2 hx rfl (hb hby d3_14) rfl (by decide) k) ?_
  show own_Gl p.tables e below F (T2.setTop (mkF m 15 #[.val (.ref a), .val (.int (2 : Int32)), .val (.long (f2 (2 : Int32).toInt)), .second, .unset, .unset, .unset] [(.int ((5 : Int32) % (2 : Int32)))]))
  rw [(by decide : (5 : Int32) % (2 : Int32) = (1 : Int32))]
  show own_Gl p.tables e below F (T2.setTop (mkF m 15 #[.val (.ref a), .val (.int (2 : Int32)), .val (.long (f2 (2 : Int32).toInt)), .second, .unset, .unset, .unset] [(.int (1 : Int32))]))
  refine own_go (fun _ k => XS.ifYes X2.here hx rfl (pc0 := 15) (pc' := 61) rfl (hb hby d3_15) rfl (XT.i0_ne_t (by decide)) (by decide) (by decide) k) ?_
  show own_Gl p.tables e below F (T2.setTop (mkF m 61 #[.val (.ref a), .val (.int (2 : Int32)), .val (.long (f2 (2 : Int32).toInt)), .second, .unset, .unset, .unset] []))
  refine own_go (fun _ k => XS.lloadN X2.here hx rfl (hb hby d3_61) rfl k) ?_
  show own_Gl p.tables e below F (T2.setTop (mkF m 62 #[.val (.ref a), .val (.int (2 : Int32)), .val (.long (f2 (2 : Int32).toInt)), .second, .unset, .unset, .unset] [(.long (f2 (2 : Int32).toInt))]))
  refine own_go (fun _ k => X2.ldc2J hx hown (mvT hZ (hw _ (List.mem_of_getElem? (i := 17) rfl))) rfl (hb hby d3_62) k) ?_
  show own_Gl p.tables e below F (T2.setTop (mkF m 65 #[.val (.ref a), .val (.int (2 : Int32)), .val (.long (f2 (2 : Int32).toInt)), .second, .unset, .unset, .unset] [(.long (1000 : Int64)), (.long (f2 (2 : Int32).toInt))]))
  refine own_go (fun _ k => XS.ldiv X2.here hx rfl (hb hby d3_65) rfl (by decide) k) ?_
  show own_Gl p.tables e below F (T2.setTop (mkF m 66 #[.val (.ref a), .val (.int (2 : Int32)), .val (.long (f2 (2 : Int32).toInt)), .second, .unset, .unset, .unset] [(.long ((f2 (2 : Int32).toInt) / (1000 : Int64)))]))
  obtain ⟨fs, hr, hrun, hended, hW, hsame⟩ := X2.leave (v := some (.long ((f2 (2 : Int32).toInt) / (1000 : Int64)))) (fun h => by rw [Bd.returns] at h; cases h)
  subst hF
  refine own_fin ?_ ⟨hrun, hended, _, _, rfl, ?_, ⟨_, rfl⟩, hW, hsame.mono (by first | decide | exact Nat.le_of_ble_eq_true rfl) (by first | decide | exact Nat.le_of_ble_eq_true rfl)⟩
  · exact own_retJ X2 hx Bd.returns (hb hby d3_66) hr
  · show Q_rmed5 Z _ _ h0 n0 _ T2.heap _
    exact ⟨f2 (2 : Int32).toInt, own_rank_perm p2' (own_sel_rank (by decide) S2'), rfl, NF2⟩
theorem ef_rm0 (m : MethodId) (x0 : Int32) (x1 : Int64) (x2 : Int64) (x3 : Int64) (x4 : Int64) (x5 : Int64) : entryFrame m #[(.int x0), (.long x1), (.long x2), (.long x3), (.long x4), (.long x5)] maxLocals = mkF m 0 #[.val (.int x0), .val (.long x1), .second, .val (.long x2), .second, .val (.long x3), .second, .val (.long x4), .second, .val (.long x5), .second, .unset, .unset, .unset, .unset, .unset, .unset, .unset, .unset, .unset, .unset, .unset, .unset, .unset, .unset, .unset, .unset, .unset, .unset] [] := by first | (simp [entryFrame, mkF, argsToLocals, Value.category, maxLocals]; done) | rfl
theorem pd_2 : parseMethodDescriptor "([J)J" = some ⟨[(.array .long)], some .long⟩ := by decide +kernel
theorem pd_3 : parseMethodDescriptor "(JJJ)J" = some ⟨[.long, .long, .long], some .long⟩ := by decide +kernel
def Q_rm0 (Z : State) (p1 : Int32) (q2 q3 q4 q5 q6 : Int64) (h0 : Heap) (n0 : Nat) (v : Option Value) (h : Heap) (L : List Loc) : Prop := v = some (.int 1) ∧ Fr n0 L
set_option maxRecDepth 65536 in
set_option maxHeartbeats 40000000 in
theorem rm0 (l : Launch) (Z : State) (a0 : Array Value) (hw : ∀ d ∈ tables_1, d.before a0 Z = true) (ws : List Jvm.Cond) (p1 : Int32) (q2 q3 q4 q5 q6 : Int64) (h0 : Heap) (n0 : Nat) (Z0 : n0 ≤ h0.size) :
    MetFree l x (head1 (Jvm.Cond.code x code maxLocals ret :: ws) room_1) (fun ag U => ag = #[(.int p1), (.long q2), (.long q3), (.long q4), (.long q5), (.long q6)] ∧ Z.Warmed39 U.vm ∧ U.heap = h0) (fun _ _ _ _ _ => True) (fun _ U o U' => ∃ v L, o = .returned v ∧ Q_rm0 Z p1 q2 q3 q4 q5 q6 h0 n0 v U'.heap L ∧ FrameEnd U o U' L room_1.cells room_1.slots) := by
  refine MetFree.of_bodySF (plainFor_of_name pn_0) hisR ?_
  intro p e s m args below meth c s₁ Bd hml0 hP hK
  obtain ⟨rfl, hZ, hh⟩ := hP
  have hx := Bd.exec
  have hby := Bd.bytes
  have hml : c.maxLocals = 29 := hml0
  have hown : s.vm.findClass "com/example/cores_from_twigs/coresfromtwigs/MainMedianMicrosPinLaw" = some m.cls := findClass_of_methodNamed Bd.named
  have hnm := (name_of_methodNamed Bd.named Bd.method).1
  have X0 : Stand p l e room_1 s m #[(.int p1), (.long q2), (.long q3), (.long q4), (.long q5), (.long q6)] below meth c s₁ [] 0 0 := Stand.of_body Bd
  have e0 : s₁.heap = h0 := by rw [← hh, Bd.state]; rfl
  have N0 := Fr.nil n0
  refine own_start (ef_rm0 m p1 q2 q3 q4 q5 q6) ?_
  intro F hF
  show own_Gl p.tables e below F (s₁.setTop (mkF m 0 #[.val (.int p1), .val (.long q2), .second, .val (.long q3), .second, .val (.long q4), .second, .val (.long q5), .second, .val (.long q6), .second, .unset, .unset, .unset, .unset, .unset, .unset, .unset, .unset, .unset, .unset, .unset, .unset, .unset, .unset, .unset, .unset, .unset, .unset] []))
  refine own_go (fun _ k => XS.lloadN X0.here hx rfl (hb hby at_0) rfl k) ?_
  show own_Gl p.tables e below F (s₁.setTop (mkF m 1 #[.val (.int p1), .val (.long q2), .second, .val (.long q3), .second, .val (.long q4), .second, .val (.long q5), .second, .val (.long q6), .second, .unset, .unset, .unset, .unset, .unset, .unset, .unset, .unset, .unset, .unset, .unset, .unset, .unset, .unset, .unset, .unset, .unset, .unset] [(.long q2)]))
  refine own_go (fun _ k => X0.ldc2J hx hown (mvT hZ (hw _ (List.mem_of_getElem? (i := 0) rfl))) rfl (hb hby at_1) k) ?_
  show own_Gl p.tables e below F (s₁.setTop (mkF m 4 #[.val (.int p1), .val (.long q2), .second, .val (.long q3), .second, .val (.long q4), .second, .val (.long q5), .second, .val (.long q6), .second, .unset, .unset, .unset, .unset, .unset, .unset, .unset, .unset, .unset, .unset, .unset, .unset, .unset, .unset, .unset, .unset, .unset, .unset] [(.long (9223372036854775807 : Int64)), (.long q2)]))
  refine own_go (fun _ k => XS.land X0.here hx rfl (hb hby at_4) rfl k) ?_
  show own_Gl p.tables e below F (s₁.setTop (mkF m 5 #[.val (.int p1), .val (.long q2), .second, .val (.long q3), .second, .val (.long q4), .second, .val (.long q5), .second, .val (.long q6), .second, .unset, .unset, .unset, .unset, .unset, .unset, .unset, .unset, .unset, .unset, .unset, .unset, .unset, .unset, .unset, .unset, .unset, .unset] [(.long (q2 &&& (9223372036854775807 : Int64)))]))
  have hpa := own_pos q2
  generalize (q2 &&& (9223372036854775807 : Int64)) = va at hpa ⊢
  show own_Gl p.tables e below F (s₁.setTop (mkF m 5 #[.val (.int p1), .val (.long q2), .second, .val (.long q3), .second, .val (.long q4), .second, .val (.long q5), .second, .val (.long q6), .second, .unset, .unset, .unset, .unset, .unset, .unset, .unset, .unset, .unset, .unset, .unset, .unset, .unset, .unset, .unset, .unset, .unset, .unset] [(.long va)]))
  refine own_go (fun _ k => XS.lstore X0.here hx rfl (hb hby at_5) rfl (l' := #[.val (.int p1), .val (.long q2), .second, .val (.long q3), .second, .val (.long q4), .second, .val (.long q5), .second, .val (.long q6), .second, .val (.long va), .second, .unset, .unset, .unset, .unset, .unset, .unset, .unset, .unset, .unset, .unset, .unset, .unset, .unset, .unset, .unset, .unset]) rfl k) ?_
  show own_Gl p.tables e below F (s₁.setTop (mkF m 7 #[.val (.int p1), .val (.long q2), .second, .val (.long q3), .second, .val (.long q4), .second, .val (.long q5), .second, .val (.long q6), .second, .val (.long va), .second, .unset, .unset, .unset, .unset, .unset, .unset, .unset, .unset, .unset, .unset, .unset, .unset, .unset, .unset, .unset, .unset] []))
  refine own_go (fun _ k => XS.lloadN X0.here hx rfl (hb hby at_7) rfl k) ?_
  show own_Gl p.tables e below F (s₁.setTop (mkF m 8 #[.val (.int p1), .val (.long q2), .second, .val (.long q3), .second, .val (.long q4), .second, .val (.long q5), .second, .val (.long q6), .second, .val (.long va), .second, .unset, .unset, .unset, .unset, .unset, .unset, .unset, .unset, .unset, .unset, .unset, .unset, .unset, .unset, .unset, .unset] [(.long q3)]))
  refine own_go (fun _ k => X0.ldc2J hx hown (mvT hZ (hw _ (List.mem_of_getElem? (i := 0) rfl))) rfl (hb hby at_8) k) ?_
  show own_Gl p.tables e below F (s₁.setTop (mkF m 11 #[.val (.int p1), .val (.long q2), .second, .val (.long q3), .second, .val (.long q4), .second, .val (.long q5), .second, .val (.long q6), .second, .val (.long va), .second, .unset, .unset, .unset, .unset, .unset, .unset, .unset, .unset, .unset, .unset, .unset, .unset, .unset, .unset, .unset, .unset] [(.long (9223372036854775807 : Int64)), (.long q3)]))
  refine own_go (fun _ k => XS.land X0.here hx rfl (hb hby at_11) rfl k) ?_
  show own_Gl p.tables e below F (s₁.setTop (mkF m 12 #[.val (.int p1), .val (.long q2), .second, .val (.long q3), .second, .val (.long q4), .second, .val (.long q5), .second, .val (.long q6), .second, .val (.long va), .second, .unset, .unset, .unset, .unset, .unset, .unset, .unset, .unset, .unset, .unset, .unset, .unset, .unset, .unset, .unset, .unset] [(.long (q3 &&& (9223372036854775807 : Int64)))]))
  have hpb := own_pos q3
  generalize (q3 &&& (9223372036854775807 : Int64)) = vb at hpb ⊢
  show own_Gl p.tables e below F (s₁.setTop (mkF m 12 #[.val (.int p1), .val (.long q2), .second, .val (.long q3), .second, .val (.long q4), .second, .val (.long q5), .second, .val (.long q6), .second, .val (.long va), .second, .unset, .unset, .unset, .unset, .unset, .unset, .unset, .unset, .unset, .unset, .unset, .unset, .unset, .unset, .unset, .unset] [(.long vb)]))
  refine own_go (fun _ k => XS.lstore X0.here hx rfl (hb hby at_12) rfl (l' := #[.val (.int p1), .val (.long q2), .second, .val (.long q3), .second, .val (.long q4), .second, .val (.long q5), .second, .val (.long q6), .second, .val (.long va), .second, .val (.long vb), .second, .unset, .unset, .unset, .unset, .unset, .unset, .unset, .unset, .unset, .unset, .unset, .unset, .unset, .unset]) rfl k) ?_
  show own_Gl p.tables e below F (s₁.setTop (mkF m 14 #[.val (.int p1), .val (.long q2), .second, .val (.long q3), .second, .val (.long q4), .second, .val (.long q5), .second, .val (.long q6), .second, .val (.long va), .second, .val (.long vb), .second, .unset, .unset, .unset, .unset, .unset, .unset, .unset, .unset, .unset, .unset, .unset, .unset, .unset, .unset] []))
  refine own_go (fun _ k => XS.lload X0.here hx rfl (hb hby at_14) rfl k) ?_
  show own_Gl p.tables e below F (s₁.setTop (mkF m 16 #[.val (.int p1), .val (.long q2), .second, .val (.long q3), .second, .val (.long q4), .second, .val (.long q5), .second, .val (.long q6), .second, .val (.long va), .second, .val (.long vb), .second, .unset, .unset, .unset, .unset, .unset, .unset, .unset, .unset, .unset, .unset, .unset, .unset, .unset, .unset] [(.long q4)]))
  refine own_go (fun _ k => X0.ldc2J hx hown (mvT hZ (hw _ (List.mem_of_getElem? (i := 0) rfl))) rfl (hb hby at_16) k) ?_
  show own_Gl p.tables e below F (s₁.setTop (mkF m 19 #[.val (.int p1), .val (.long q2), .second, .val (.long q3), .second, .val (.long q4), .second, .val (.long q5), .second, .val (.long q6), .second, .val (.long va), .second, .val (.long vb), .second, .unset, .unset, .unset, .unset, .unset, .unset, .unset, .unset, .unset, .unset, .unset, .unset, .unset, .unset] [(.long (9223372036854775807 : Int64)), (.long q4)]))
  refine own_go (fun _ k => XS.land X0.here hx rfl (hb hby at_19) rfl k) ?_
  show own_Gl p.tables e below F (s₁.setTop (mkF m 20 #[.val (.int p1), .val (.long q2), .second, .val (.long q3), .second, .val (.long q4), .second, .val (.long q5), .second, .val (.long q6), .second, .val (.long va), .second, .val (.long vb), .second, .unset, .unset, .unset, .unset, .unset, .unset, .unset, .unset, .unset, .unset, .unset, .unset, .unset, .unset] [(.long (q4 &&& (9223372036854775807 : Int64)))]))
  have hpc := own_pos q4
  generalize (q4 &&& (9223372036854775807 : Int64)) = vc at hpc ⊢
  show own_Gl p.tables e below F (s₁.setTop (mkF m 20 #[.val (.int p1), .val (.long q2), .second, .val (.long q3), .second, .val (.long q4), .second, .val (.long q5), .second, .val (.long q6), .second, .val (.long va), .second, .val (.long vb), .second, .unset, .unset, .unset, .unset, .unset, .unset, .unset, .unset, .unset, .unset, .unset, .unset, .unset, .unset] [(.long vc)]))
  refine own_go (fun _ k => XS.lstore X0.here hx rfl (hb hby at_20) rfl (l' := #[.val (.int p1), .val (.long q2), .second, .val (.long q3), .second, .val (.long q4), .second, .val (.long q5), .second, .val (.long q6), .second, .val (.long va), .second, .val (.long vb), .second, .val (.long vc), .second, .unset, .unset, .unset, .unset, .unset, .unset, .unset, .unset, .unset, .unset, .unset, .unset]) rfl k) ?_
  show own_Gl p.tables e below F (s₁.setTop (mkF m 22 #[.val (.int p1), .val (.long q2), .second, .val (.long q3), .second, .val (.long q4), .second, .val (.long q5), .second, .val (.long q6), .second, .val (.long va), .second, .val (.long vb), .second, .val (.long vc), .second, .unset, .unset, .unset, .unset, .unset, .unset, .unset, .unset, .unset, .unset, .unset, .unset] []))
  refine own_go (fun _ k => XS.lload X0.here hx rfl (hb hby at_22) rfl k) ?_
  show own_Gl p.tables e below F (s₁.setTop (mkF m 24 #[.val (.int p1), .val (.long q2), .second, .val (.long q3), .second, .val (.long q4), .second, .val (.long q5), .second, .val (.long q6), .second, .val (.long va), .second, .val (.long vb), .second, .val (.long vc), .second, .unset, .unset, .unset, .unset, .unset, .unset, .unset, .unset, .unset, .unset, .unset, .unset] [(.long q5)]))
  refine own_go (fun _ k => X0.ldc2J hx hown (mvT hZ (hw _ (List.mem_of_getElem? (i := 0) rfl))) rfl (hb hby at_24) k) ?_
  show own_Gl p.tables e below F (s₁.setTop (mkF m 27 #[.val (.int p1), .val (.long q2), .second, .val (.long q3), .second, .val (.long q4), .second, .val (.long q5), .second, .val (.long q6), .second, .val (.long va), .second, .val (.long vb), .second, .val (.long vc), .second, .unset, .unset, .unset, .unset, .unset, .unset, .unset, .unset, .unset, .unset, .unset, .unset] [(.long (9223372036854775807 : Int64)), (.long q5)]))
  refine own_go (fun _ k => XS.land X0.here hx rfl (hb hby at_27) rfl k) ?_
  show own_Gl p.tables e below F (s₁.setTop (mkF m 28 #[.val (.int p1), .val (.long q2), .second, .val (.long q3), .second, .val (.long q4), .second, .val (.long q5), .second, .val (.long q6), .second, .val (.long va), .second, .val (.long vb), .second, .val (.long vc), .second, .unset, .unset, .unset, .unset, .unset, .unset, .unset, .unset, .unset, .unset, .unset, .unset] [(.long (q5 &&& (9223372036854775807 : Int64)))]))
  have hpd := own_pos q5
  generalize (q5 &&& (9223372036854775807 : Int64)) = vd at hpd ⊢
  show own_Gl p.tables e below F (s₁.setTop (mkF m 28 #[.val (.int p1), .val (.long q2), .second, .val (.long q3), .second, .val (.long q4), .second, .val (.long q5), .second, .val (.long q6), .second, .val (.long va), .second, .val (.long vb), .second, .val (.long vc), .second, .unset, .unset, .unset, .unset, .unset, .unset, .unset, .unset, .unset, .unset, .unset, .unset] [(.long vd)]))
  refine own_go (fun _ k => XS.lstore X0.here hx rfl (hb hby at_28) rfl (l' := #[.val (.int p1), .val (.long q2), .second, .val (.long q3), .second, .val (.long q4), .second, .val (.long q5), .second, .val (.long q6), .second, .val (.long va), .second, .val (.long vb), .second, .val (.long vc), .second, .val (.long vd), .second, .unset, .unset, .unset, .unset, .unset, .unset, .unset, .unset, .unset, .unset]) rfl k) ?_
  show own_Gl p.tables e below F (s₁.setTop (mkF m 30 #[.val (.int p1), .val (.long q2), .second, .val (.long q3), .second, .val (.long q4), .second, .val (.long q5), .second, .val (.long q6), .second, .val (.long va), .second, .val (.long vb), .second, .val (.long vc), .second, .val (.long vd), .second, .unset, .unset, .unset, .unset, .unset, .unset, .unset, .unset, .unset, .unset] []))
  refine own_go (fun _ k => XS.lload X0.here hx rfl (hb hby at_30) rfl k) ?_
  show own_Gl p.tables e below F (s₁.setTop (mkF m 32 #[.val (.int p1), .val (.long q2), .second, .val (.long q3), .second, .val (.long q4), .second, .val (.long q5), .second, .val (.long q6), .second, .val (.long va), .second, .val (.long vb), .second, .val (.long vc), .second, .val (.long vd), .second, .unset, .unset, .unset, .unset, .unset, .unset, .unset, .unset, .unset, .unset] [(.long q6)]))
  refine own_go (fun _ k => X0.ldc2J hx hown (mvT hZ (hw _ (List.mem_of_getElem? (i := 0) rfl))) rfl (hb hby at_32) k) ?_
  show own_Gl p.tables e below F (s₁.setTop (mkF m 35 #[.val (.int p1), .val (.long q2), .second, .val (.long q3), .second, .val (.long q4), .second, .val (.long q5), .second, .val (.long q6), .second, .val (.long va), .second, .val (.long vb), .second, .val (.long vc), .second, .val (.long vd), .second, .unset, .unset, .unset, .unset, .unset, .unset, .unset, .unset, .unset, .unset] [(.long (9223372036854775807 : Int64)), (.long q6)]))
  refine own_go (fun _ k => XS.land X0.here hx rfl (hb hby at_35) rfl k) ?_
  show own_Gl p.tables e below F (s₁.setTop (mkF m 36 #[.val (.int p1), .val (.long q2), .second, .val (.long q3), .second, .val (.long q4), .second, .val (.long q5), .second, .val (.long q6), .second, .val (.long va), .second, .val (.long vb), .second, .val (.long vc), .second, .val (.long vd), .second, .unset, .unset, .unset, .unset, .unset, .unset, .unset, .unset, .unset, .unset] [(.long (q6 &&& (9223372036854775807 : Int64)))]))
  have hpe := own_pos q6
  generalize (q6 &&& (9223372036854775807 : Int64)) = ve at hpe ⊢
  show own_Gl p.tables e below F (s₁.setTop (mkF m 36 #[.val (.int p1), .val (.long q2), .second, .val (.long q3), .second, .val (.long q4), .second, .val (.long q5), .second, .val (.long q6), .second, .val (.long va), .second, .val (.long vb), .second, .val (.long vc), .second, .val (.long vd), .second, .unset, .unset, .unset, .unset, .unset, .unset, .unset, .unset, .unset, .unset] [(.long ve)]))
  refine own_go (fun _ k => XS.lstore X0.here hx rfl (hb hby at_36) rfl (l' := #[.val (.int p1), .val (.long q2), .second, .val (.long q3), .second, .val (.long q4), .second, .val (.long q5), .second, .val (.long q6), .second, .val (.long va), .second, .val (.long vb), .second, .val (.long vc), .second, .val (.long vd), .second, .val (.long ve), .second, .unset, .unset, .unset, .unset, .unset, .unset, .unset, .unset]) rfl k) ?_
  show own_Gl p.tables e below F (s₁.setTop (mkF m 38 #[.val (.int p1), .val (.long q2), .second, .val (.long q3), .second, .val (.long q4), .second, .val (.long q5), .second, .val (.long q6), .second, .val (.long va), .second, .val (.long vb), .second, .val (.long vc), .second, .val (.long vd), .second, .val (.long ve), .second, .unset, .unset, .unset, .unset, .unset, .unset, .unset, .unset] []))
  refine own_go (fun _ k => XS.iloadN X0.here hx rfl (hb hby at_38) rfl k) ?_
  show own_Gl p.tables e below F (s₁.setTop (mkF m 39 #[.val (.int p1), .val (.long q2), .second, .val (.long q3), .second, .val (.long q4), .second, .val (.long q5), .second, .val (.long q6), .second, .val (.long va), .second, .val (.long vb), .second, .val (.long vc), .second, .val (.long vd), .second, .val (.long ve), .second, .unset, .unset, .unset, .unset, .unset, .unset, .unset, .unset] [(.int p1)]))
  refine own_go (fun _ k => X0.ldcI hx hown (mvT hZ (hw _ (List.mem_of_getElem? (i := 1) rfl))) rfl (hb hby at_39) k) ?_
  show own_Gl p.tables e below F (s₁.setTop (mkF m 41 #[.val (.int p1), .val (.long q2), .second, .val (.long q3), .second, .val (.long q4), .second, .val (.long q5), .second, .val (.long q6), .second, .val (.long va), .second, .val (.long vb), .second, .val (.long vc), .second, .val (.long vd), .second, .val (.long ve), .second, .unset, .unset, .unset, .unset, .unset, .unset, .unset, .unset] [(.int (2147483647 : Int32)), (.int p1)]))
  refine own_go (fun _ k => XS.iand X0.here hx rfl (hb hby at_41) rfl k) ?_
  show own_Gl p.tables e below F (s₁.setTop (mkF m 42 #[.val (.int p1), .val (.long q2), .second, .val (.long q3), .second, .val (.long q4), .second, .val (.long q5), .second, .val (.long q6), .second, .val (.long va), .second, .val (.long vb), .second, .val (.long vc), .second, .val (.long vd), .second, .val (.long ve), .second, .unset, .unset, .unset, .unset, .unset, .unset, .unset, .unset] [(.int (p1 &&& (2147483647 : Int32)))]))
  refine own_go (fun _ k => XS.iconst X0.here hx rfl (hb hby at_42) k) ?_
  show own_Gl p.tables e below F (s₁.setTop (mkF m 43 #[.val (.int p1), .val (.long q2), .second, .val (.long q3), .second, .val (.long q4), .second, .val (.long q5), .second, .val (.long q6), .second, .val (.long va), .second, .val (.long vb), .second, .val (.long vc), .second, .val (.long vd), .second, .val (.long ve), .second, .unset, .unset, .unset, .unset, .unset, .unset, .unset, .unset] [(.int (5 : Int32)), (.int (p1 &&& (2147483647 : Int32)))]))
  refine own_go (fun _ k => iremM X0 hx rfl (hb hby at_43) rfl (by decide) k) ?_
  show own_Gl p.tables e below F (s₁.setTop (mkF m 44 #[.val (.int p1), .val (.long q2), .second, .val (.long q3), .second, .val (.long q4), .second, .val (.long q5), .second, .val (.long q6), .second, .val (.long va), .second, .val (.long vb), .second, .val (.long vc), .second, .val (.long vd), .second, .val (.long ve), .second, .unset, .unset, .unset, .unset, .unset, .unset, .unset, .unset] [(.int ((p1 &&& (2147483647 : Int32)) % (5 : Int32)))]))
  refine own_go (fun _ k => XS.iconst X0.here hx rfl (hb hby at_44) k) ?_
  show own_Gl p.tables e below F (s₁.setTop (mkF m 45 #[.val (.int p1), .val (.long q2), .second, .val (.long q3), .second, .val (.long q4), .second, .val (.long q5), .second, .val (.long q6), .second, .val (.long va), .second, .val (.long vb), .second, .val (.long vc), .second, .val (.long vd), .second, .val (.long ve), .second, .unset, .unset, .unset, .unset, .unset, .unset, .unset, .unset] [(.int (1 : Int32)), (.int ((p1 &&& (2147483647 : Int32)) % (5 : Int32)))]))
  refine own_go (fun _ k => XS.iadd X0.here hx rfl (hb hby at_45) rfl k) ?_
  show own_Gl p.tables e below F (s₁.setTop (mkF m 46 #[.val (.int p1), .val (.long q2), .second, .val (.long q3), .second, .val (.long q4), .second, .val (.long q5), .second, .val (.long q6), .second, .val (.long va), .second, .val (.long vb), .second, .val (.long vc), .second, .val (.long vd), .second, .val (.long ve), .second, .unset, .unset, .unset, .unset, .unset, .unset, .unset, .unset] [(.int (((p1 &&& (2147483647 : Int32)) % (5 : Int32)) + (1 : Int32)))]))
  have hn := own_r p1
  generalize (((p1 &&& (2147483647 : Int32)) % (5 : Int32)) + (1 : Int32)) = nn at hn ⊢
  show own_Gl p.tables e below F (s₁.setTop (mkF m 46 #[.val (.int p1), .val (.long q2), .second, .val (.long q3), .second, .val (.long q4), .second, .val (.long q5), .second, .val (.long q6), .second, .val (.long va), .second, .val (.long vb), .second, .val (.long vc), .second, .val (.long vd), .second, .val (.long ve), .second, .unset, .unset, .unset, .unset, .unset, .unset, .unset, .unset] [(.int nn)]))
  refine own_go (fun _ k => XS.istore X0.here hx rfl (hb hby at_46) rfl (l' := #[.val (.int p1), .val (.long q2), .second, .val (.long q3), .second, .val (.long q4), .second, .val (.long q5), .second, .val (.long q6), .second, .val (.long va), .second, .val (.long vb), .second, .val (.long vc), .second, .val (.long vd), .second, .val (.long ve), .second, .val (.int nn), .unset, .unset, .unset, .unset, .unset, .unset, .unset]) rfl k) ?_
  show own_Gl p.tables e below F (s₁.setTop (mkF m 48 #[.val (.int p1), .val (.long q2), .second, .val (.long q3), .second, .val (.long q4), .second, .val (.long q5), .second, .val (.long q6), .second, .val (.long va), .second, .val (.long vb), .second, .val (.long vc), .second, .val (.long vd), .second, .val (.long ve), .second, .val (.int nn), .unset, .unset, .unset, .unset, .unset, .unset, .unset] []))
  refine own_go (fun _ k => XS.lload X0.here hx rfl (hb hby at_48) rfl k) ?_
  show own_Gl p.tables e below F (s₁.setTop (mkF m 50 #[.val (.int p1), .val (.long q2), .second, .val (.long q3), .second, .val (.long q4), .second, .val (.long q5), .second, .val (.long q6), .second, .val (.long va), .second, .val (.long vb), .second, .val (.long vc), .second, .val (.long vd), .second, .val (.long ve), .second, .val (.int nn), .unset, .unset, .unset, .unset, .unset, .unset, .unset] [(.long va)]))
  refine own_go (fun _ k => XS.lload X0.here hx rfl (hb hby at_50) rfl k) ?_
  show own_Gl p.tables e below F (s₁.setTop (mkF m 52 #[.val (.int p1), .val (.long q2), .second, .val (.long q3), .second, .val (.long q4), .second, .val (.long q5), .second, .val (.long q6), .second, .val (.long va), .second, .val (.long vb), .second, .val (.long vc), .second, .val (.long vd), .second, .val (.long ve), .second, .val (.int nn), .unset, .unset, .unset, .unset, .unset, .unset, .unset] [(.long vb), (.long va)]))
  obtain ⟨_, _, ⟨T1, L1, k1, n1⟩, -, X1, ⟨Lc1, hQ1, ll1, y1, z1⟩, st1⟩ := Jvm.LawKit.callS X0 hx (y := (⟨"java/lang/Math", "min", "(JJ)J"⟩ : MethodName)) hown (mvT hZ (hw _ (List.mem_of_getElem? (i := 2) rfl))) (mvT hZ (hw _ (List.mem_of_getElem? (i := 3) rfl))) (mvT hZ (hw _ (List.mem_of_getElem? (i := 4) rfl))) (mvT hZ (hw _ (List.mem_of_getElem? (i := 5) rfl))) (by decide) (backOf (W := 0) (rm1 l Z a0 hw [] va vb  h0 n0 Z0 ) hZ (hw _ (List.mem_of_getElem? (i := 5) rfl)) (hw _ (List.mem_of_getElem? (i := 4) rfl)) (by decide) (by decide)) (g := (mkF m 52 #[.val (.int p1), .val (.long q2), .second, .val (.long q3), .second, .val (.long q4), .second, .val (.long q5), .second, .val (.long q6), .second, .val (.long va), .second, .val (.long vb), .second, .val (.long vc), .second, .val (.long vd), .second, .val (.long ve), .second, .val (.int nn), .unset, .unset, .unset, .unset, .unset, .unset, .unset] [(.long vb), (.long va)])) rfl (by rw [hml]; rfl) (argsL := [(.long va), (.long vb)]) (rest := []) (lenOf pd_0 rfl) rfl (by show 2 * 0 + _ ≤ _; exact Nat.le_of_eq rfl) (hb hby at_52) (fun _ _ => ⟨rfl, e0, (by first | decide | exact Nat.le_of_ble_eq_true rfl), (by first | decide | exact Nat.le_of_ble_eq_true rfl)⟩)
  dsimp only [Pt.U, Pt.locs, Pt.cells, Pt.slots] at X1 ll1 y1 z1 st1 hQ1
  have X1 := own_sn X1 (k' := 0) (n' := 0) y1 z1
  obtain ⟨hv1, N1, e1⟩ := hQ1
  rw [hv1] at st1
  have NF1 := own_fr ll1 N0 N1
  refine own_go st1 ?_
  show own_Gl p.tables e below F (T1.setTop (mkF m 55 #[.val (.int p1), .val (.long q2), .second, .val (.long q3), .second, .val (.long q4), .second, .val (.long q5), .second, .val (.long q6), .second, .val (.long va), .second, .val (.long vb), .second, .val (.long vc), .second, .val (.long vd), .second, .val (.long ve), .second, .val (.int nn), .unset, .unset, .unset, .unset, .unset, .unset, .unset] [(.long (own_min va vb))]))
  refine own_go (fun _ k => XS.lload X1.here hx rfl (hb hby at_55) rfl k) ?_
  show own_Gl p.tables e below F (T1.setTop (mkF m 57 #[.val (.int p1), .val (.long q2), .second, .val (.long q3), .second, .val (.long q4), .second, .val (.long q5), .second, .val (.long q6), .second, .val (.long va), .second, .val (.long vb), .second, .val (.long vc), .second, .val (.long vd), .second, .val (.long ve), .second, .val (.int nn), .unset, .unset, .unset, .unset, .unset, .unset, .unset] [(.long vc), (.long (own_min va vb))]))
  refine own_go (fun _ k => XS.lload X1.here hx rfl (hb hby at_57) rfl k) ?_
  show own_Gl p.tables e below F (T1.setTop (mkF m 59 #[.val (.int p1), .val (.long q2), .second, .val (.long q3), .second, .val (.long q4), .second, .val (.long q5), .second, .val (.long q6), .second, .val (.long va), .second, .val (.long vb), .second, .val (.long vc), .second, .val (.long vd), .second, .val (.long ve), .second, .val (.int nn), .unset, .unset, .unset, .unset, .unset, .unset, .unset] [(.long vd), (.long vc), (.long (own_min va vb))]))
  obtain ⟨_, _, ⟨T2, L2, k2, n2⟩, -, X2, ⟨Lc2, hQ2, ll2, y2, z2⟩, st2⟩ := Jvm.LawKit.callS X1 hx (y := (⟨"java/lang/Math", "min", "(JJ)J"⟩ : MethodName)) hown (mvT hZ (hw _ (List.mem_of_getElem? (i := 2) rfl))) (mvT hZ (hw _ (List.mem_of_getElem? (i := 3) rfl))) (mvT hZ (hw _ (List.mem_of_getElem? (i := 4) rfl))) (mvT hZ (hw _ (List.mem_of_getElem? (i := 5) rfl))) (by decide) (backOf (W := 2) (rm1 l Z a0 hw [] vc vd  h0 n0 Z0 ) hZ (hw _ (List.mem_of_getElem? (i := 5) rfl)) (hw _ (List.mem_of_getElem? (i := 4) rfl)) (by decide) (by decide)) (g := (mkF m 59 #[.val (.int p1), .val (.long q2), .second, .val (.long q3), .second, .val (.long q4), .second, .val (.long q5), .second, .val (.long q6), .second, .val (.long va), .second, .val (.long vb), .second, .val (.long vc), .second, .val (.long vd), .second, .val (.long ve), .second, .val (.int nn), .unset, .unset, .unset, .unset, .unset, .unset, .unset] [(.long vd), (.long vc), (.long (own_min va vb))])) rfl (by rw [hml]; rfl) (argsL := [(.long vc), (.long vd)]) (rest := [(.long (own_min va vb))]) (lenOf pd_0 rfl) rfl (by show 2 * 0 + _ ≤ _; exact Nat.le_of_eq rfl) (hb hby at_59) (fun _ _ => ⟨rfl, e1, (by first | decide | exact Nat.le_of_ble_eq_true rfl), (by first | decide | exact Nat.le_of_ble_eq_true rfl)⟩)
  dsimp only [Pt.U, Pt.locs, Pt.cells, Pt.slots] at X2 ll2 y2 z2 st2 hQ2
  have X2 := own_sn X2 (k' := 0) (n' := 0) y2 z2
  obtain ⟨hv2, N2, e2⟩ := hQ2
  rw [hv2] at st2
  have NF2 := own_fr ll2 NF1 N2
  refine own_go st2 ?_
  show own_Gl p.tables e below F (T2.setTop (mkF m 62 #[.val (.int p1), .val (.long q2), .second, .val (.long q3), .second, .val (.long q4), .second, .val (.long q5), .second, .val (.long q6), .second, .val (.long va), .second, .val (.long vb), .second, .val (.long vc), .second, .val (.long vd), .second, .val (.long ve), .second, .val (.int nn), .unset, .unset, .unset, .unset, .unset, .unset, .unset] [(.long (own_min vc vd)), (.long (own_min va vb))]))
  obtain ⟨_, _, ⟨T3, L3, k3, n3⟩, -, X3, ⟨Lc3, hQ3, ll3, y3, z3⟩, st3⟩ := Jvm.LawKit.callS X2 hx (y := (⟨"java/lang/Math", "max", "(JJ)J"⟩ : MethodName)) hown (mvT hZ (hw _ (List.mem_of_getElem? (i := 6) rfl))) (mvT hZ (hw _ (List.mem_of_getElem? (i := 7) rfl))) (mvT hZ (hw _ (List.mem_of_getElem? (i := 4) rfl))) (mvT hZ (hw _ (List.mem_of_getElem? (i := 8) rfl))) (by decide) (backOf (W := 0) (rm2 l Z a0 hw [] (own_min va vb) (own_min vc vd)  h0 n0 Z0 ) hZ (hw _ (List.mem_of_getElem? (i := 8) rfl)) (hw _ (List.mem_of_getElem? (i := 4) rfl)) (by decide) (by decide)) (g := (mkF m 62 #[.val (.int p1), .val (.long q2), .second, .val (.long q3), .second, .val (.long q4), .second, .val (.long q5), .second, .val (.long q6), .second, .val (.long va), .second, .val (.long vb), .second, .val (.long vc), .second, .val (.long vd), .second, .val (.long ve), .second, .val (.int nn), .unset, .unset, .unset, .unset, .unset, .unset, .unset] [(.long (own_min vc vd)), (.long (own_min va vb))])) rfl (by rw [hml]; rfl) (argsL := [(.long (own_min va vb)), (.long (own_min vc vd))]) (rest := []) (lenOf pd_0 rfl) rfl (by show 2 * 0 + _ ≤ _; exact Nat.le_of_eq rfl) (hb hby at_62) (fun _ _ => ⟨rfl, e2, (by first | decide | exact Nat.le_of_ble_eq_true rfl), (by first | decide | exact Nat.le_of_ble_eq_true rfl)⟩)
  dsimp only [Pt.U, Pt.locs, Pt.cells, Pt.slots] at X3 ll3 y3 z3 st3 hQ3
  have X3 := own_sn X3 (k' := 0) (n' := 0) y3 z3
  obtain ⟨hv3, N3, e3⟩ := hQ3
  rw [hv3] at st3
  have NF3 := own_fr ll3 NF2 N3
  refine own_go st3 ?_
  show own_Gl p.tables e below F (T3.setTop (mkF m 65 #[.val (.int p1), .val (.long q2), .second, .val (.long q3), .second, .val (.long q4), .second, .val (.long q5), .second, .val (.long q6), .second, .val (.long va), .second, .val (.long vb), .second, .val (.long vc), .second, .val (.long vd), .second, .val (.long ve), .second, .val (.int nn), .unset, .unset, .unset, .unset, .unset, .unset, .unset] [(.long (own_max (own_min va vb) (own_min vc vd)))]))
  refine own_go (fun _ k => XS.lstore X3.here hx rfl (hb hby at_65) rfl (l' := #[.val (.int p1), .val (.long q2), .second, .val (.long q3), .second, .val (.long q4), .second, .val (.long q5), .second, .val (.long q6), .second, .val (.long va), .second, .val (.long vb), .second, .val (.long vc), .second, .val (.long vd), .second, .val (.long ve), .second, .val (.int nn), .val (.long (own_max (own_min va vb) (own_min vc vd))), .second, .unset, .unset, .unset, .unset, .unset]) rfl k) ?_
  show own_Gl p.tables e below F (T3.setTop (mkF m 67 #[.val (.int p1), .val (.long q2), .second, .val (.long q3), .second, .val (.long q4), .second, .val (.long q5), .second, .val (.long q6), .second, .val (.long va), .second, .val (.long vb), .second, .val (.long vc), .second, .val (.long vd), .second, .val (.long ve), .second, .val (.int nn), .val (.long (own_max (own_min va vb) (own_min vc vd))), .second, .unset, .unset, .unset, .unset, .unset] []))
  refine own_go (fun _ k => XS.lload X3.here hx rfl (hb hby at_67) rfl k) ?_
  show own_Gl p.tables e below F (T3.setTop (mkF m 69 #[.val (.int p1), .val (.long q2), .second, .val (.long q3), .second, .val (.long q4), .second, .val (.long q5), .second, .val (.long q6), .second, .val (.long va), .second, .val (.long vb), .second, .val (.long vc), .second, .val (.long vd), .second, .val (.long ve), .second, .val (.int nn), .val (.long (own_max (own_min va vb) (own_min vc vd))), .second, .unset, .unset, .unset, .unset, .unset] [(.long va)]))
  refine own_go (fun _ k => XS.lload X3.here hx rfl (hb hby at_69) rfl k) ?_
  show own_Gl p.tables e below F (T3.setTop (mkF m 71 #[.val (.int p1), .val (.long q2), .second, .val (.long q3), .second, .val (.long q4), .second, .val (.long q5), .second, .val (.long q6), .second, .val (.long va), .second, .val (.long vb), .second, .val (.long vc), .second, .val (.long vd), .second, .val (.long ve), .second, .val (.int nn), .val (.long (own_max (own_min va vb) (own_min vc vd))), .second, .unset, .unset, .unset, .unset, .unset] [(.long vb), (.long va)]))
  obtain ⟨_, _, ⟨T4, L4, k4, n4⟩, -, X4, ⟨Lc4, hQ4, ll4, y4, z4⟩, st4⟩ := Jvm.LawKit.callS X3 hx (y := (⟨"java/lang/Math", "max", "(JJ)J"⟩ : MethodName)) hown (mvT hZ (hw _ (List.mem_of_getElem? (i := 6) rfl))) (mvT hZ (hw _ (List.mem_of_getElem? (i := 7) rfl))) (mvT hZ (hw _ (List.mem_of_getElem? (i := 4) rfl))) (mvT hZ (hw _ (List.mem_of_getElem? (i := 8) rfl))) (by decide) (backOf (W := 0) (rm2 l Z a0 hw [] va vb  h0 n0 Z0 ) hZ (hw _ (List.mem_of_getElem? (i := 8) rfl)) (hw _ (List.mem_of_getElem? (i := 4) rfl)) (by decide) (by decide)) (g := (mkF m 71 #[.val (.int p1), .val (.long q2), .second, .val (.long q3), .second, .val (.long q4), .second, .val (.long q5), .second, .val (.long q6), .second, .val (.long va), .second, .val (.long vb), .second, .val (.long vc), .second, .val (.long vd), .second, .val (.long ve), .second, .val (.int nn), .val (.long (own_max (own_min va vb) (own_min vc vd))), .second, .unset, .unset, .unset, .unset, .unset] [(.long vb), (.long va)])) rfl (by rw [hml]; rfl) (argsL := [(.long va), (.long vb)]) (rest := []) (lenOf pd_0 rfl) rfl (by show 2 * 0 + _ ≤ _; exact Nat.le_of_eq rfl) (hb hby at_71) (fun _ _ => ⟨rfl, e3, (by first | decide | exact Nat.le_of_ble_eq_true rfl), (by first | decide | exact Nat.le_of_ble_eq_true rfl)⟩)
  dsimp only [Pt.U, Pt.locs, Pt.cells, Pt.slots] at X4 ll4 y4 z4 st4 hQ4
  have X4 := own_sn X4 (k' := 0) (n' := 0) y4 z4
  obtain ⟨hv4, N4, e4⟩ := hQ4
  rw [hv4] at st4
  have NF4 := own_fr ll4 NF3 N4
  refine own_go st4 ?_
  show own_Gl p.tables e below F (T4.setTop (mkF m 74 #[.val (.int p1), .val (.long q2), .second, .val (.long q3), .second, .val (.long q4), .second, .val (.long q5), .second, .val (.long q6), .second, .val (.long va), .second, .val (.long vb), .second, .val (.long vc), .second, .val (.long vd), .second, .val (.long ve), .second, .val (.int nn), .val (.long (own_max (own_min va vb) (own_min vc vd))), .second, .unset, .unset, .unset, .unset, .unset] [(.long (own_max va vb))]))
  refine own_go (fun _ k => XS.lload X4.here hx rfl (hb hby at_74) rfl k) ?_
  show own_Gl p.tables e below F (T4.setTop (mkF m 76 #[.val (.int p1), .val (.long q2), .second, .val (.long q3), .second, .val (.long q4), .second, .val (.long q5), .second, .val (.long q6), .second, .val (.long va), .second, .val (.long vb), .second, .val (.long vc), .second, .val (.long vd), .second, .val (.long ve), .second, .val (.int nn), .val (.long (own_max (own_min va vb) (own_min vc vd))), .second, .unset, .unset, .unset, .unset, .unset] [(.long vc), (.long (own_max va vb))]))
  refine own_go (fun _ k => XS.lload X4.here hx rfl (hb hby at_76) rfl k) ?_
  show own_Gl p.tables e below F (T4.setTop (mkF m 78 #[.val (.int p1), .val (.long q2), .second, .val (.long q3), .second, .val (.long q4), .second, .val (.long q5), .second, .val (.long q6), .second, .val (.long va), .second, .val (.long vb), .second, .val (.long vc), .second, .val (.long vd), .second, .val (.long ve), .second, .val (.int nn), .val (.long (own_max (own_min va vb) (own_min vc vd))), .second, .unset, .unset, .unset, .unset, .unset] [(.long vd), (.long vc), (.long (own_max va vb))]))
  obtain ⟨_, _, ⟨T5, L5, k5, n5⟩, -, X5, ⟨Lc5, hQ5, ll5, y5, z5⟩, st5⟩ := Jvm.LawKit.callS X4 hx (y := (⟨"java/lang/Math", "max", "(JJ)J"⟩ : MethodName)) hown (mvT hZ (hw _ (List.mem_of_getElem? (i := 6) rfl))) (mvT hZ (hw _ (List.mem_of_getElem? (i := 7) rfl))) (mvT hZ (hw _ (List.mem_of_getElem? (i := 4) rfl))) (mvT hZ (hw _ (List.mem_of_getElem? (i := 8) rfl))) (by decide) (backOf (W := 2) (rm2 l Z a0 hw [] vc vd  h0 n0 Z0 ) hZ (hw _ (List.mem_of_getElem? (i := 8) rfl)) (hw _ (List.mem_of_getElem? (i := 4) rfl)) (by decide) (by decide)) (g := (mkF m 78 #[.val (.int p1), .val (.long q2), .second, .val (.long q3), .second, .val (.long q4), .second, .val (.long q5), .second, .val (.long q6), .second, .val (.long va), .second, .val (.long vb), .second, .val (.long vc), .second, .val (.long vd), .second, .val (.long ve), .second, .val (.int nn), .val (.long (own_max (own_min va vb) (own_min vc vd))), .second, .unset, .unset, .unset, .unset, .unset] [(.long vd), (.long vc), (.long (own_max va vb))])) rfl (by rw [hml]; rfl) (argsL := [(.long vc), (.long vd)]) (rest := [(.long (own_max va vb))]) (lenOf pd_0 rfl) rfl (by show 2 * 0 + _ ≤ _; exact Nat.le_of_eq rfl) (hb hby at_78) (fun _ _ => ⟨rfl, e4, (by first | decide | exact Nat.le_of_ble_eq_true rfl), (by first | decide | exact Nat.le_of_ble_eq_true rfl)⟩)
  dsimp only [Pt.U, Pt.locs, Pt.cells, Pt.slots] at X5 ll5 y5 z5 st5 hQ5
  have X5 := own_sn X5 (k' := 0) (n' := 0) y5 z5
  obtain ⟨hv5, N5, e5⟩ := hQ5
  rw [hv5] at st5
  have NF5 := own_fr ll5 NF4 N5
  refine own_go st5 ?_
  show own_Gl p.tables e below F (T5.setTop (mkF m 81 #[.val (.int p1), .val (.long q2), .second, .val (.long q3), .second, .val (.long q4), .second, .val (.long q5), .second, .val (.long q6), .second, .val (.long va), .second, .val (.long vb), .second, .val (.long vc), .second, .val (.long vd), .second, .val (.long ve), .second, .val (.int nn), .val (.long (own_max (own_min va vb) (own_min vc vd))), .second, .unset, .unset, .unset, .unset, .unset] [(.long (own_max vc vd)), (.long (own_max va vb))]))
  obtain ⟨_, _, ⟨T6, L6, k6, n6⟩, -, X6, ⟨Lc6, hQ6, ll6, y6, z6⟩, st6⟩ := Jvm.LawKit.callS X5 hx (y := (⟨"java/lang/Math", "min", "(JJ)J"⟩ : MethodName)) hown (mvT hZ (hw _ (List.mem_of_getElem? (i := 2) rfl))) (mvT hZ (hw _ (List.mem_of_getElem? (i := 3) rfl))) (mvT hZ (hw _ (List.mem_of_getElem? (i := 4) rfl))) (mvT hZ (hw _ (List.mem_of_getElem? (i := 5) rfl))) (by decide) (backOf (W := 0) (rm1 l Z a0 hw [] (own_max va vb) (own_max vc vd)  h0 n0 Z0 ) hZ (hw _ (List.mem_of_getElem? (i := 5) rfl)) (hw _ (List.mem_of_getElem? (i := 4) rfl)) (by decide) (by decide)) (g := (mkF m 81 #[.val (.int p1), .val (.long q2), .second, .val (.long q3), .second, .val (.long q4), .second, .val (.long q5), .second, .val (.long q6), .second, .val (.long va), .second, .val (.long vb), .second, .val (.long vc), .second, .val (.long vd), .second, .val (.long ve), .second, .val (.int nn), .val (.long (own_max (own_min va vb) (own_min vc vd))), .second, .unset, .unset, .unset, .unset, .unset] [(.long (own_max vc vd)), (.long (own_max va vb))])) rfl (by rw [hml]; rfl) (argsL := [(.long (own_max va vb)), (.long (own_max vc vd))]) (rest := []) (lenOf pd_0 rfl) rfl (by show 2 * 0 + _ ≤ _; exact Nat.le_of_eq rfl) (hb hby at_81) (fun _ _ => ⟨rfl, e5, (by first | decide | exact Nat.le_of_ble_eq_true rfl), (by first | decide | exact Nat.le_of_ble_eq_true rfl)⟩)
  dsimp only [Pt.U, Pt.locs, Pt.cells, Pt.slots] at X6 ll6 y6 z6 st6 hQ6
  have X6 := own_sn X6 (k' := 0) (n' := 0) y6 z6
  obtain ⟨hv6, N6, e6⟩ := hQ6
  rw [hv6] at st6
  have NF6 := own_fr ll6 NF5 N6
  refine own_go st6 ?_
  show own_Gl p.tables e below F (T6.setTop (mkF m 84 #[.val (.int p1), .val (.long q2), .second, .val (.long q3), .second, .val (.long q4), .second, .val (.long q5), .second, .val (.long q6), .second, .val (.long va), .second, .val (.long vb), .second, .val (.long vc), .second, .val (.long vd), .second, .val (.long ve), .second, .val (.int nn), .val (.long (own_max (own_min va vb) (own_min vc vd))), .second, .unset, .unset, .unset, .unset, .unset] [(.long (own_min (own_max va vb) (own_max vc vd)))]))
  refine own_go (fun _ k => XS.lstore X6.here hx rfl (hb hby at_84) rfl (l' := #[.val (.int p1), .val (.long q2), .second, .val (.long q3), .second, .val (.long q4), .second, .val (.long q5), .second, .val (.long q6), .second, .val (.long va), .second, .val (.long vb), .second, .val (.long vc), .second, .val (.long vd), .second, .val (.long ve), .second, .val (.int nn), .val (.long (own_max (own_min va vb) (own_min vc vd))), .second, .val (.long (own_min (own_max va vb) (own_max vc vd))), .second, .unset, .unset, .unset]) rfl k) ?_
  show own_Gl p.tables e below F (T6.setTop (mkF m 86 #[.val (.int p1), .val (.long q2), .second, .val (.long q3), .second, .val (.long q4), .second, .val (.long q5), .second, .val (.long q6), .second, .val (.long va), .second, .val (.long vb), .second, .val (.long vc), .second, .val (.long vd), .second, .val (.long ve), .second, .val (.int nn), .val (.long (own_max (own_min va vb) (own_min vc vd))), .second, .val (.long (own_min (own_max va vb) (own_max vc vd))), .second, .unset, .unset, .unset] []))
  rcases hn with rfl | rfl | rfl | rfl | rfl
  · show own_Gl p.tables e below F (T6.setTop (mkF m 86 #[.val (.int p1), .val (.long q2), .second, .val (.long q3), .second, .val (.long q4), .second, .val (.long q5), .second, .val (.long q6), .second, .val (.long va), .second, .val (.long vb), .second, .val (.long vc), .second, .val (.long vd), .second, .val (.long ve), .second, .val (.int (1 : Int32)), .val (.long (own_max (own_min va vb) (own_min vc vd))), .second, .val (.long (own_min (own_max va vb) (own_max vc vd))), .second, .unset, .unset, .unset] []))
    refine own_go (fun _ k => XS.iload X6.here hx rfl (hb hby at_86) rfl k) ?_
    show own_Gl p.tables e below F (T6.setTop (mkF m 88 #[.val (.int p1), .val (.long q2), .second, .val (.long q3), .second, .val (.long q4), .second, .val (.long q5), .second, .val (.long q6), .second, .val (.long va), .second, .val (.long vb), .second, .val (.long vc), .second, .val (.long vd), .second, .val (.long ve), .second, .val (.int (1 : Int32)), .val (.long (own_max (own_min va vb) (own_min vc vd))), .second, .val (.long (own_min (own_max va vb) (own_max vc vd))), .second, .unset, .unset, .unset] [(.int (1 : Int32))]))
    refine own_go (fun _ k => XS.iconst X6.here hx rfl (hb hby at_88) k) ?_
    show own_Gl p.tables e below F (T6.setTop (mkF m 89 #[.val (.int p1), .val (.long q2), .second, .val (.long q3), .second, .val (.long q4), .second, .val (.long q5), .second, .val (.long q6), .second, .val (.long va), .second, .val (.long vb), .second, .val (.long vc), .second, .val (.long vd), .second, .val (.long ve), .second, .val (.int (1 : Int32)), .val (.long (own_max (own_min va vb) (own_min vc vd))), .second, .val (.long (own_min (own_max va vb) (own_max vc vd))), .second, .unset, .unset, .unset] [(.int (1 : Int32)), (.int (1 : Int32))]))
    refine own_go (fun _ k => XS.icmpNo X6.here hx rfl (hb hby at_89) rfl (XT.ii_ne_f rfl) k) ?_
    show own_Gl p.tables e below F (T6.setTop (mkF m 92 #[.val (.int p1), .val (.long q2), .second, .val (.long q3), .second, .val (.long q4), .second, .val (.long q5), .second, .val (.long q6), .second, .val (.long va), .second, .val (.long vb), .second, .val (.long vc), .second, .val (.long vd), .second, .val (.long ve), .second, .val (.int (1 : Int32)), .val (.long (own_max (own_min va vb) (own_min vc vd))), .second, .val (.long (own_min (own_max va vb) (own_max vc vd))), .second, .unset, .unset, .unset] []))
    refine own_go (fun _ k => XS.iconst X6.here hx rfl (hb hby at_92) k) ?_
    show own_Gl p.tables e below F (T6.setTop (mkF m 93 #[.val (.int p1), .val (.long q2), .second, .val (.long q3), .second, .val (.long q4), .second, .val (.long q5), .second, .val (.long q6), .second, .val (.long va), .second, .val (.long vb), .second, .val (.long vc), .second, .val (.long vd), .second, .val (.long ve), .second, .val (.int (1 : Int32)), .val (.long (own_max (own_min va vb) (own_min vc vd))), .second, .val (.long (own_min (own_max va vb) (own_max vc vd))), .second, .unset, .unset, .unset] [(.int (1 : Int32))]))
    obtain ⟨T7, h7, k7, X7, e7, E7, A7, st7⟩ := newP X6 hx hZ (hw _ (List.mem_of_getElem? (i := 9) rfl)) e6 (g := (mkF m 93 #[.val (.int p1), .val (.long q2), .second, .val (.long q3), .second, .val (.long q4), .second, .val (.long q5), .second, .val (.long q6), .second, .val (.long va), .second, .val (.long vb), .second, .val (.long vc), .second, .val (.long vd), .second, .val (.long ve), .second, .val (.int (1 : Int32)), .val (.long (own_max (own_min va vb) (own_min vc vd))), .second, .val (.long (own_min (own_max va vb) (own_max vc vd))), .second, .unset, .unset, .unset] [(.int (1 : Int32))])) rfl (hb hby at_93) rfl (by decide) (cap := 1) (by decide) (by decide) (by decide) (by decide)
    obtain ⟨b7, g7⟩ : ∃ z, z = h0.size := ⟨_, rfl⟩
    rw [← g7] at A7 st7
    have ge_b7 : n0 ≤ b7 := Nat.le_trans Z0 (Nat.le_of_eq g7.symm)
    have sz_b7 : h0.size ≤ b7 := Nat.le_trans ((Keep.refl h0 [])).1 (Nat.le_of_eq g7.symm)
    have Z7 : n0 ≤ h7.size := Nat.le_trans Z0 E7.1
    have K7 := Keep.ext (Keep.refl h0 []) E7
    have V7 : own_A Z h7 b7 .long (1 : Int32) (fun _ => (.long (0 : Int64))) := own_A.new A7 (by decide)
    have X7 : Stand _ _ _ _ _ _ _ _ _ _ _ _ 1 1 := X7
    refine own_go st7 ?_
    show own_Gl p.tables e below F (T7.setTop (mkF m 95 #[.val (.int p1), .val (.long q2), .second, .val (.long q3), .second, .val (.long q4), .second, .val (.long q5), .second, .val (.long q6), .second, .val (.long va), .second, .val (.long vb), .second, .val (.long vc), .second, .val (.long vd), .second, .val (.long ve), .second, .val (.int (1 : Int32)), .val (.long (own_max (own_min va vb) (own_min vc vd))), .second, .val (.long (own_min (own_max va vb) (own_max vc vd))), .second, .unset, .unset, .unset] [(.ref b7)]))
    refine own_go (fun _ k => XS.dup X7.here hx rfl (hb hby at_95) rfl rfl k) ?_
    show own_Gl p.tables e below F (T7.setTop (mkF m 96 #[.val (.int p1), .val (.long q2), .second, .val (.long q3), .second, .val (.long q4), .second, .val (.long q5), .second, .val (.long q6), .second, .val (.long va), .second, .val (.long vb), .second, .val (.long vc), .second, .val (.long vd), .second, .val (.long ve), .second, .val (.int (1 : Int32)), .val (.long (own_max (own_min va vb) (own_min vc vd))), .second, .val (.long (own_min (own_max va vb) (own_max vc vd))), .second, .unset, .unset, .unset] [(.ref b7), (.ref b7)]))
    refine own_go (fun _ k => XS.iconst X7.here hx rfl (hb hby at_96) k) ?_
    show own_Gl p.tables e below F (T7.setTop (mkF m 97 #[.val (.int p1), .val (.long q2), .second, .val (.long q3), .second, .val (.long q4), .second, .val (.long q5), .second, .val (.long q6), .second, .val (.long va), .second, .val (.long vb), .second, .val (.long vc), .second, .val (.long vd), .second, .val (.long ve), .second, .val (.int (1 : Int32)), .val (.long (own_max (own_min va vb) (own_min vc vd))), .second, .val (.long (own_min (own_max va vb) (own_max vc vd))), .second, .unset, .unset, .unset] [(.int (0 : Int32)), (.ref b7), (.ref b7)]))
    refine own_go (fun _ k => XS.lload X7.here hx rfl (hb hby at_97) rfl k) ?_
    show own_Gl p.tables e below F (T7.setTop (mkF m 99 #[.val (.int p1), .val (.long q2), .second, .val (.long q3), .second, .val (.long q4), .second, .val (.long q5), .second, .val (.long q6), .second, .val (.long va), .second, .val (.long vb), .second, .val (.long vc), .second, .val (.long vd), .second, .val (.long ve), .second, .val (.int (1 : Int32)), .val (.long (own_max (own_min va vb) (own_min vc vd))), .second, .val (.long (own_min (own_max va vb) (own_max vc vd))), .second, .unset, .unset, .unset] [(.long va), (.int (0 : Int32)), (.ref b7), (.ref b7)]))
    obtain ⟨cl8, Ar8, aS8, aN8, aH8⟩ := id V7
    have hin8 : ¬ ((0 : Int32) < 0 ∨ cl8.slots.size ≤ ((0 : Int32)).toNatClampNeg) := inb_of aS8 ⟨by decide, by decide⟩
    obtain ⟨T8, h8, X8, e8, W8, st8⟩ := stJ X7 hx hZ e7 Ar8 (j := (0 : Int32)) hin8 (g := (mkF m 99 #[.val (.int p1), .val (.long q2), .second, .val (.long q3), .second, .val (.long q4), .second, .val (.long q5), .second, .val (.long q6), .second, .val (.long va), .second, .val (.long vb), .second, .val (.long vc), .second, .val (.long vd), .second, .val (.long ve), .second, .val (.int (1 : Int32)), .val (.long (own_max (own_min va vb) (own_min vc vd))), .second, .val (.long (own_min (own_max va vb) (own_max vc vd))), .second, .unset, .unset, .unset] [(.long va), (.int (0 : Int32)), (.ref b7), (.ref b7)])) rfl rfl (hb hby at_99)
    have V8 : own_A Z h8 b7 .long (1 : Int32) (fun k => if k = ((0 : Int32)).toNatClampNeg then (.long va) else (fun _ => (.long (0 : Int64))) k) := own_A.set (g := (fun _ => (.long (0 : Int64)))) ⟨cl8, Ar8, aS8, aN8, aH8⟩ W8
    have Z8 : n0 ≤ h8.size := by rw [W8.size]; exact Z7
    have K8 := Keep.wr K7 W8 (Or.inr sz_b7)
    have N8 := Fr.snoc X8 NF6 ge_b7
    refine own_go st8 ?_
    show own_Gl p.tables e below F (T8.setTop (mkF m 100 #[.val (.int p1), .val (.long q2), .second, .val (.long q3), .second, .val (.long q4), .second, .val (.long q5), .second, .val (.long q6), .second, .val (.long va), .second, .val (.long vb), .second, .val (.long vc), .second, .val (.long vd), .second, .val (.long ve), .second, .val (.int (1 : Int32)), .val (.long (own_max (own_min va vb) (own_min vc vd))), .second, .val (.long (own_min (own_max va vb) (own_max vc vd))), .second, .unset, .unset, .unset] [(.ref b7)]))
    refine own_go (fun _ k => XS.astore X8.here hx rfl (hb hby at_100) rfl rfl (l' := #[.val (.int p1), .val (.long q2), .second, .val (.long q3), .second, .val (.long q4), .second, .val (.long q5), .second, .val (.long q6), .second, .val (.long va), .second, .val (.long vb), .second, .val (.long vc), .second, .val (.long vd), .second, .val (.long ve), .second, .val (.int (1 : Int32)), .val (.long (own_max (own_min va vb) (own_min vc vd))), .second, .val (.long (own_min (own_max va vb) (own_max vc vd))), .second, .val (.ref b7), .unset, .unset]) rfl k) ?_
    show own_Gl p.tables e below F (T8.setTop (mkF m 102 #[.val (.int p1), .val (.long q2), .second, .val (.long q3), .second, .val (.long q4), .second, .val (.long q5), .second, .val (.long q6), .second, .val (.long va), .second, .val (.long vb), .second, .val (.long vc), .second, .val (.long vd), .second, .val (.long ve), .second, .val (.int (1 : Int32)), .val (.long (own_max (own_min va vb) (own_min vc vd))), .second, .val (.long (own_min (own_max va vb) (own_max vc vd))), .second, .val (.ref b7), .unset, .unset] []))
    refine own_go (fun _ k => XS.lload X8.here hx rfl (hb hby at_102) rfl k) ?_
    show own_Gl p.tables e below F (T8.setTop (mkF m 104 #[.val (.int p1), .val (.long q2), .second, .val (.long q3), .second, .val (.long q4), .second, .val (.long q5), .second, .val (.long q6), .second, .val (.long va), .second, .val (.long vb), .second, .val (.long vc), .second, .val (.long vd), .second, .val (.long ve), .second, .val (.int (1 : Int32)), .val (.long (own_max (own_min va vb) (own_min vc vd))), .second, .val (.long (own_min (own_max va vb) (own_max vc vd))), .second, .val (.ref b7), .unset, .unset] [(.long va)]))
    refine own_go (fun _ k => XS.lstore X8.here hx rfl (hb hby at_104) rfl (l' := #[.val (.int p1), .val (.long q2), .second, .val (.long q3), .second, .val (.long q4), .second, .val (.long q5), .second, .val (.long q6), .second, .val (.long va), .second, .val (.long vb), .second, .val (.long vc), .second, .val (.long vd), .second, .val (.long ve), .second, .val (.int (1 : Int32)), .val (.long (own_max (own_min va vb) (own_min vc vd))), .second, .val (.long (own_min (own_max va vb) (own_max vc vd))), .second, .val (.ref b7), .val (.long va), .second]) rfl k) ?_
    show own_Gl p.tables e below F (T8.setTop (mkF m 106 #[.val (.int p1), .val (.long q2), .second, .val (.long q3), .second, .val (.long q4), .second, .val (.long q5), .second, .val (.long q6), .second, .val (.long va), .second, .val (.long vb), .second, .val (.long vc), .second, .val (.long vd), .second, .val (.long ve), .second, .val (.int (1 : Int32)), .val (.long (own_max (own_min va vb) (own_min vc vd))), .second, .val (.long (own_min (own_max va vb) (own_max vc vd))), .second, .val (.ref b7), .val (.long va), .second] []))
    refine own_go (fun _ k => XS.goto X8.here hx rfl (pc0 := 106) (pc' := 266) rfl (hb hby at_106) (by decide) (by decide) k) ?_
    show own_Gl p.tables e below F (T8.setTop (mkF m 266 #[.val (.int p1), .val (.long q2), .second, .val (.long q3), .second, .val (.long q4), .second, .val (.long q5), .second, .val (.long q6), .second, .val (.long va), .second, .val (.long vb), .second, .val (.long vc), .second, .val (.long vd), .second, .val (.long ve), .second, .val (.int (1 : Int32)), .val (.long (own_max (own_min va vb) (own_min vc vd))), .second, .val (.long (own_min (own_max va vb) (own_max vc vd))), .second, .val (.ref b7), .val (.long va), .second] []))
    refine own_go (fun _ k => XS.aload X8.here hx rfl (hb hby at_266) rfl rfl k) ?_
    show own_Gl p.tables e below F (T8.setTop (mkF m 268 #[.val (.int p1), .val (.long q2), .second, .val (.long q3), .second, .val (.long q4), .second, .val (.long q5), .second, .val (.long q6), .second, .val (.long va), .second, .val (.long vb), .second, .val (.long vc), .second, .val (.long vd), .second, .val (.long ve), .second, .val (.int (1 : Int32)), .val (.long (own_max (own_min va vb) (own_min vc vd))), .second, .val (.long (own_min (own_max va vb) (own_max vc vd))), .second, .val (.ref b7), .val (.long va), .second] [(.ref b7)]))
    have VL : own_A Z h8 b7 .long (1 : Int32) (own_fl (own_l va vb vc vd ve)) := V8.of (by
      intro j hj
      have hj' : j < 1 := hj
      rcases (by omega : j = 0) with rfl
      all_goals rfl)
    obtain ⟨_, _, ⟨T9, L9, k9, n9⟩, -, X9, ⟨Lc9, hQ9, ll9, y9, z9⟩, st9⟩ := Jvm.LawKit.callS X8 hx (y := (⟨"com/example/cores_from_twigs/coresfromtwigs/Main", "medianMicros", "([J)J"⟩ : MethodName)) hown (mvT hZ (hw _ (List.mem_of_getElem? (i := 10) rfl))) (mvT hZ (hw _ (List.mem_of_getElem? (i := 11) rfl))) (mvT hZ (hw _ (List.mem_of_getElem? (i := 12) rfl))) (mvT hZ (hw _ (List.mem_of_getElem? (i := 13) rfl))) (by decide) (backOf (W := 0) (rmed1 l Z a0 hw [] b7 (own_l va vb vc vd ve) h8 n0 Z8 VL ge_b7) hZ (hw _ (List.mem_of_getElem? (i := 13) rfl)) (hw _ (List.mem_of_getElem? (i := 12) rfl)) (by decide) (by decide)) (g := (mkF m 268 #[.val (.int p1), .val (.long q2), .second, .val (.long q3), .second, .val (.long q4), .second, .val (.long q5), .second, .val (.long q6), .second, .val (.long va), .second, .val (.long vb), .second, .val (.long vc), .second, .val (.long vd), .second, .val (.long ve), .second, .val (.int (1 : Int32)), .val (.long (own_max (own_min va vb) (own_min vc vd))), .second, .val (.long (own_min (own_max va vb) (own_max vc vd))), .second, .val (.ref b7), .val (.long va), .second] [(.ref b7)])) rfl (by rw [hml]; rfl) (argsL := [(.ref b7)]) (rest := []) (lenOf pd_2 rfl) rfl (by show 2 * 0 + _ ≤ _; exact Nat.le_of_eq rfl) (hb hby at_268) (fun _ _ => ⟨rfl, e8, (by first | decide | exact Nat.le_of_ble_eq_true rfl), (by first | decide | exact Nat.le_of_ble_eq_true rfl)⟩)
    dsimp only [Pt.U, Pt.locs, Pt.cells, Pt.slots] at X9 ll9 y9 z9 st9 hQ9
    have X9 := own_sn X9 (k' := 1) (n' := 1) y9 z9
    obtain ⟨m9, rk9, hv9, N9⟩ := hQ9
    rw [hv9] at st9
    have NF9 := own_fr ll9 N8 N9
    refine own_go st9 ?_
    show own_Gl p.tables e below F (T9.setTop (mkF m 271 #[.val (.int p1), .val (.long q2), .second, .val (.long q3), .second, .val (.long q4), .second, .val (.long q5), .second, .val (.long q6), .second, .val (.long va), .second, .val (.long vb), .second, .val (.long vc), .second, .val (.long vd), .second, .val (.long ve), .second, .val (.int (1 : Int32)), .val (.long (own_max (own_min va vb) (own_min vc vd))), .second, .val (.long (own_min (own_max va vb) (own_max vc vd))), .second, .val (.ref b7), .val (.long va), .second] [(.long (m9 / (1000 : Int64)))]))
    refine own_go (fun _ k => XS.lload X9.here hx rfl (hb hby at_271) rfl k) ?_
    show own_Gl p.tables e below F (T9.setTop (mkF m 273 #[.val (.int p1), .val (.long q2), .second, .val (.long q3), .second, .val (.long q4), .second, .val (.long q5), .second, .val (.long q6), .second, .val (.long va), .second, .val (.long vb), .second, .val (.long vc), .second, .val (.long vd), .second, .val (.long ve), .second, .val (.int (1 : Int32)), .val (.long (own_max (own_min va vb) (own_min vc vd))), .second, .val (.long (own_min (own_max va vb) (own_max vc vd))), .second, .val (.ref b7), .val (.long va), .second] [(.long va), (.long (m9 / (1000 : Int64)))]))
    refine own_go (fun _ k => X9.ldc2J hx hown (mvT hZ (hw _ (List.mem_of_getElem? (i := 18) rfl))) rfl (hb hby at_273) k) ?_
    show own_Gl p.tables e below F (T9.setTop (mkF m 276 #[.val (.int p1), .val (.long q2), .second, .val (.long q3), .second, .val (.long q4), .second, .val (.long q5), .second, .val (.long q6), .second, .val (.long va), .second, .val (.long vb), .second, .val (.long vc), .second, .val (.long vd), .second, .val (.long ve), .second, .val (.int (1 : Int32)), .val (.long (own_max (own_min va vb) (own_min vc vd))), .second, .val (.long (own_min (own_max va vb) (own_max vc vd))), .second, .val (.ref b7), .val (.long va), .second] [(.long (1000 : Int64)), (.long va), (.long (m9 / (1000 : Int64)))]))
    refine own_go (fun _ k => XS.ldiv X9.here hx rfl (hb hby at_276) rfl (by decide) k) ?_
    show own_Gl p.tables e below F (T9.setTop (mkF m 277 #[.val (.int p1), .val (.long q2), .second, .val (.long q3), .second, .val (.long q4), .second, .val (.long q5), .second, .val (.long q6), .second, .val (.long va), .second, .val (.long vb), .second, .val (.long vc), .second, .val (.long vd), .second, .val (.long ve), .second, .val (.int (1 : Int32)), .val (.long (own_max (own_min va vb) (own_min vc vd))), .second, .val (.long (own_min (own_max va vb) (own_max vc vd))), .second, .val (.ref b7), .val (.long va), .second] [(.long (va / (1000 : Int64))), (.long (m9 / (1000 : Int64)))]))
    refine own_go (fun _ k => XS.lcmp X9.here hx rfl (hb hby at_277) rfl k) ?_
    show own_Gl p.tables e below F (T9.setTop (mkF m 278 #[.val (.int p1), .val (.long q2), .second, .val (.long q3), .second, .val (.long q4), .second, .val (.long q5), .second, .val (.long q6), .second, .val (.long va), .second, .val (.long vb), .second, .val (.long vc), .second, .val (.long vd), .second, .val (.long ve), .second, .val (.int (1 : Int32)), .val (.long (own_max (own_min va vb) (own_min vc vd))), .second, .val (.long (own_min (own_max va vb) (own_max vc vd))), .second, .val (.ref b7), .val (.long va), .second] [(.int (XT.cmpL (m9 / (1000 : Int64)) (va / (1000 : Int64))))]))
    have hEQ : m9 = va := by
      have rk1 : 1 ≤ (decide (va.toInt ≤ m9.toInt)).toNat := by have q := rk9.1; simpa [own_cnt, own_lep, own_l] using q
      have rk2 : 1 ≤ (decide (m9.toInt ≤ va.toInt)).toNat := by have q := rk9.2; simpa [own_cnt, own_gep, own_l] using q
      apply Int64.toInt_inj.mp
      have k := own_tri va.toInt m9.toInt
      omega
    refine own_go (fun _ k => XS.ifNo X9.here hx rfl (hb hby at_278) rfl (XT.ll_ne_f (congrArg (· / (1000 : Int64)) hEQ)) k) ?_
    show own_Gl p.tables e below F (T9.setTop (mkF m 281 #[.val (.int p1), .val (.long q2), .second, .val (.long q3), .second, .val (.long q4), .second, .val (.long q5), .second, .val (.long q6), .second, .val (.long va), .second, .val (.long vb), .second, .val (.long vc), .second, .val (.long vd), .second, .val (.long ve), .second, .val (.int (1 : Int32)), .val (.long (own_max (own_min va vb) (own_min vc vd))), .second, .val (.long (own_min (own_max va vb) (own_max vc vd))), .second, .val (.ref b7), .val (.long va), .second] []))
    refine own_go (fun _ k => XS.iconst X9.here hx rfl (hb hby at_281) k) ?_
    show own_Gl p.tables e below F (T9.setTop (mkF m 282 #[.val (.int p1), .val (.long q2), .second, .val (.long q3), .second, .val (.long q4), .second, .val (.long q5), .second, .val (.long q6), .second, .val (.long va), .second, .val (.long vb), .second, .val (.long vc), .second, .val (.long vd), .second, .val (.long ve), .second, .val (.int (1 : Int32)), .val (.long (own_max (own_min va vb) (own_min vc vd))), .second, .val (.long (own_min (own_max va vb) (own_max vc vd))), .second, .val (.ref b7), .val (.long va), .second] [(.int (1 : Int32))]))
    refine own_go (fun _ k => XS.goto X9.here hx rfl (pc0 := 282) (pc' := 286) rfl (hb hby at_282) (by decide) (by decide) k) ?_
    show own_Gl p.tables e below F (T9.setTop (mkF m 286 #[.val (.int p1), .val (.long q2), .second, .val (.long q3), .second, .val (.long q4), .second, .val (.long q5), .second, .val (.long q6), .second, .val (.long va), .second, .val (.long vb), .second, .val (.long vc), .second, .val (.long vd), .second, .val (.long ve), .second, .val (.int (1 : Int32)), .val (.long (own_max (own_min va vb) (own_min vc vd))), .second, .val (.long (own_min (own_max va vb) (own_max vc vd))), .second, .val (.ref b7), .val (.long va), .second] [(.int (1 : Int32))]))
    obtain ⟨fs, hr, hrun, hended, hW, hsame⟩ := X9.leave (v := some (.int (1 : Int32))) (fun h => by rw [Bd.returns] at h; cases h)
    subst hF
    refine own_fin ?_ ⟨hrun, hended, _, _, rfl, ?_, ⟨_, rfl⟩, hW, hsame.mono (by first | decide | exact Nat.le_of_ble_eq_true rfl) (by first | decide | exact Nat.le_of_ble_eq_true rfl)⟩
    · exact own_retN X9 hx (t := .boolean) Bd.returns (by simp) rfl (hb hby at_286) hr
    · show Q_rm0 Z _ _ _ _ _ _ h0 n0 _ T9.heap _
      exact ⟨rfl, NF9⟩
  · show own_Gl p.tables e below F (T6.setTop (mkF m 86 #[.val (.int p1), .val (.long q2), .second, .val (.long q3), .second, .val (.long q4), .second, .val (.long q5), .second, .val (.long q6), .second, .val (.long va), .second, .val (.long vb), .second, .val (.long vc), .second, .val (.long vd), .second, .val (.long ve), .second, .val (.int (2 : Int32)), .val (.long (own_max (own_min va vb) (own_min vc vd))), .second, .val (.long (own_min (own_max va vb) (own_max vc vd))), .second, .unset, .unset, .unset] []))
    refine own_go (fun _ k => XS.iload X6.here hx rfl (hb hby at_86) rfl k) ?_
    show own_Gl p.tables e below F (T6.setTop (mkF m 88 #[.val (.int p1), .val (.long q2), .second, .val (.long q3), .second, .val (.long q4), .second, .val (.long q5), .second, .val (.long q6), .second, .val (.long va), .second, .val (.long vb), .second, .val (.long vc), .second, .val (.long vd), .second, .val (.long ve), .second, .val (.int (2 : Int32)), .val (.long (own_max (own_min va vb) (own_min vc vd))), .second, .val (.long (own_min (own_max va vb) (own_max vc vd))), .second, .unset, .unset, .unset] [(.int (2 : Int32))]))
    refine own_go (fun _ k => XS.iconst X6.here hx rfl (hb hby at_88) k) ?_
    show own_Gl p.tables e below F (T6.setTop (mkF m 89 #[.val (.int p1), .val (.long q2), .second, .val (.long q3), .second, .val (.long q4), .second, .val (.long q5), .second, .val (.long q6), .second, .val (.long va), .second, .val (.long vb), .second, .val (.long vc), .second, .val (.long vd), .second, .val (.long ve), .second, .val (.int (2 : Int32)), .val (.long (own_max (own_min va vb) (own_min vc vd))), .second, .val (.long (own_min (own_max va vb) (own_max vc vd))), .second, .unset, .unset, .unset] [(.int (1 : Int32)), (.int (2 : Int32))]))
    refine own_go (fun _ k => XS.icmpYes X6.here hx rfl (pc0 := 89) (pc' := 109) rfl (hb hby at_89) rfl (XT.ii_ne_t (by decide)) (by decide) (by decide) k) ?_
    show own_Gl p.tables e below F (T6.setTop (mkF m 109 #[.val (.int p1), .val (.long q2), .second, .val (.long q3), .second, .val (.long q4), .second, .val (.long q5), .second, .val (.long q6), .second, .val (.long va), .second, .val (.long vb), .second, .val (.long vc), .second, .val (.long vd), .second, .val (.long ve), .second, .val (.int (2 : Int32)), .val (.long (own_max (own_min va vb) (own_min vc vd))), .second, .val (.long (own_min (own_max va vb) (own_max vc vd))), .second, .unset, .unset, .unset] []))
    refine own_go (fun _ k => XS.iload X6.here hx rfl (hb hby at_109) rfl k) ?_
    show own_Gl p.tables e below F (T6.setTop (mkF m 111 #[.val (.int p1), .val (.long q2), .second, .val (.long q3), .second, .val (.long q4), .second, .val (.long q5), .second, .val (.long q6), .second, .val (.long va), .second, .val (.long vb), .second, .val (.long vc), .second, .val (.long vd), .second, .val (.long ve), .second, .val (.int (2 : Int32)), .val (.long (own_max (own_min va vb) (own_min vc vd))), .second, .val (.long (own_min (own_max va vb) (own_max vc vd))), .second, .unset, .unset, .unset] [(.int (2 : Int32))]))
    refine own_go (fun _ k => XS.iconst X6.here hx rfl (hb hby at_111) k) ?_
    show own_Gl p.tables e below F (T6.setTop (mkF m 112 #[.val (.int p1), .val (.long q2), .second, .val (.long q3), .second, .val (.long q4), .second, .val (.long q5), .second, .val (.long q6), .second, .val (.long va), .second, .val (.long vb), .second, .val (.long vc), .second, .val (.long vd), .second, .val (.long ve), .second, .val (.int (2 : Int32)), .val (.long (own_max (own_min va vb) (own_min vc vd))), .second, .val (.long (own_min (own_max va vb) (own_max vc vd))), .second, .unset, .unset, .unset] [(.int (2 : Int32)), (.int (2 : Int32))]))
    refine own_go (fun _ k => XS.icmpNo X6.here hx rfl (hb hby at_112) rfl (XT.ii_ne_f rfl) k) ?_
    show own_Gl p.tables e below F (T6.setTop (mkF m 115 #[.val (.int p1), .val (.long q2), .second, .val (.long q3), .second, .val (.long q4), .second, .val (.long q5), .second, .val (.long q6), .second, .val (.long va), .second, .val (.long vb), .second, .val (.long vc), .second, .val (.long vd), .second, .val (.long ve), .second, .val (.int (2 : Int32)), .val (.long (own_max (own_min va vb) (own_min vc vd))), .second, .val (.long (own_min (own_max va vb) (own_max vc vd))), .second, .unset, .unset, .unset] []))
    refine own_go (fun _ k => XS.iconst X6.here hx rfl (hb hby at_115) k) ?_
    show own_Gl p.tables e below F (T6.setTop (mkF m 116 #[.val (.int p1), .val (.long q2), .second, .val (.long q3), .second, .val (.long q4), .second, .val (.long q5), .second, .val (.long q6), .second, .val (.long va), .second, .val (.long vb), .second, .val (.long vc), .second, .val (.long vd), .second, .val (.long ve), .second, .val (.int (2 : Int32)), .val (.long (own_max (own_min va vb) (own_min vc vd))), .second, .val (.long (own_min (own_max va vb) (own_max vc vd))), .second, .unset, .unset, .unset] [(.int (2 : Int32))]))
    obtain ⟨T10, h10, k10, X10, e10, E10, A10, st10⟩ := newP X6 hx hZ (hw _ (List.mem_of_getElem? (i := 9) rfl)) e6 (g := (mkF m 116 #[.val (.int p1), .val (.long q2), .second, .val (.long q3), .second, .val (.long q4), .second, .val (.long q5), .second, .val (.long q6), .second, .val (.long va), .second, .val (.long vb), .second, .val (.long vc), .second, .val (.long vd), .second, .val (.long ve), .second, .val (.int (2 : Int32)), .val (.long (own_max (own_min va vb) (own_min vc vd))), .second, .val (.long (own_min (own_max va vb) (own_max vc vd))), .second, .unset, .unset, .unset] [(.int (2 : Int32))])) rfl (hb hby at_116) rfl (by decide) (cap := 2) (by decide) (by decide) (by decide) (by decide)
    obtain ⟨b10, g10⟩ : ∃ z, z = h0.size := ⟨_, rfl⟩
    rw [← g10] at A10 st10
    have ge_b10 : n0 ≤ b10 := Nat.le_trans Z0 (Nat.le_of_eq g10.symm)
    have sz_b10 : h0.size ≤ b10 := Nat.le_trans ((Keep.refl h0 [])).1 (Nat.le_of_eq g10.symm)
    have Z10 : n0 ≤ h10.size := Nat.le_trans Z0 E10.1
    have K10 := Keep.ext (Keep.refl h0 []) E10
    have V10 : own_A Z h10 b10 .long (2 : Int32) (fun _ => (.long (0 : Int64))) := own_A.new A10 (by decide)
    have X10 : Stand _ _ _ _ _ _ _ _ _ _ _ _ 1 2 := X10
    refine own_go st10 ?_
    show own_Gl p.tables e below F (T10.setTop (mkF m 118 #[.val (.int p1), .val (.long q2), .second, .val (.long q3), .second, .val (.long q4), .second, .val (.long q5), .second, .val (.long q6), .second, .val (.long va), .second, .val (.long vb), .second, .val (.long vc), .second, .val (.long vd), .second, .val (.long ve), .second, .val (.int (2 : Int32)), .val (.long (own_max (own_min va vb) (own_min vc vd))), .second, .val (.long (own_min (own_max va vb) (own_max vc vd))), .second, .unset, .unset, .unset] [(.ref b10)]))
    refine own_go (fun _ k => XS.dup X10.here hx rfl (hb hby at_118) rfl rfl k) ?_
    show own_Gl p.tables e below F (T10.setTop (mkF m 119 #[.val (.int p1), .val (.long q2), .second, .val (.long q3), .second, .val (.long q4), .second, .val (.long q5), .second, .val (.long q6), .second, .val (.long va), .second, .val (.long vb), .second, .val (.long vc), .second, .val (.long vd), .second, .val (.long ve), .second, .val (.int (2 : Int32)), .val (.long (own_max (own_min va vb) (own_min vc vd))), .second, .val (.long (own_min (own_max va vb) (own_max vc vd))), .second, .unset, .unset, .unset] [(.ref b10), (.ref b10)]))
    refine own_go (fun _ k => XS.iconst X10.here hx rfl (hb hby at_119) k) ?_
    show own_Gl p.tables e below F (T10.setTop (mkF m 120 #[.val (.int p1), .val (.long q2), .second, .val (.long q3), .second, .val (.long q4), .second, .val (.long q5), .second, .val (.long q6), .second, .val (.long va), .second, .val (.long vb), .second, .val (.long vc), .second, .val (.long vd), .second, .val (.long ve), .second, .val (.int (2 : Int32)), .val (.long (own_max (own_min va vb) (own_min vc vd))), .second, .val (.long (own_min (own_max va vb) (own_max vc vd))), .second, .unset, .unset, .unset] [(.int (0 : Int32)), (.ref b10), (.ref b10)]))
    refine own_go (fun _ k => XS.lload X10.here hx rfl (hb hby at_120) rfl k) ?_
    show own_Gl p.tables e below F (T10.setTop (mkF m 122 #[.val (.int p1), .val (.long q2), .second, .val (.long q3), .second, .val (.long q4), .second, .val (.long q5), .second, .val (.long q6), .second, .val (.long va), .second, .val (.long vb), .second, .val (.long vc), .second, .val (.long vd), .second, .val (.long ve), .second, .val (.int (2 : Int32)), .val (.long (own_max (own_min va vb) (own_min vc vd))), .second, .val (.long (own_min (own_max va vb) (own_max vc vd))), .second, .unset, .unset, .unset] [(.long va), (.int (0 : Int32)), (.ref b10), (.ref b10)]))
    obtain ⟨cl11, Ar11, aS11, aN11, aH11⟩ := id V10
    have hin11 : ¬ ((0 : Int32) < 0 ∨ cl11.slots.size ≤ ((0 : Int32)).toNatClampNeg) := inb_of aS11 ⟨by decide, by decide⟩
    obtain ⟨T11, h11, X11, e11, W11, st11⟩ := stJ X10 hx hZ e10 Ar11 (j := (0 : Int32)) hin11 (g := (mkF m 122 #[.val (.int p1), .val (.long q2), .second, .val (.long q3), .second, .val (.long q4), .second, .val (.long q5), .second, .val (.long q6), .second, .val (.long va), .second, .val (.long vb), .second, .val (.long vc), .second, .val (.long vd), .second, .val (.long ve), .second, .val (.int (2 : Int32)), .val (.long (own_max (own_min va vb) (own_min vc vd))), .second, .val (.long (own_min (own_max va vb) (own_max vc vd))), .second, .unset, .unset, .unset] [(.long va), (.int (0 : Int32)), (.ref b10), (.ref b10)])) rfl rfl (hb hby at_122)
    have V11 : own_A Z h11 b10 .long (2 : Int32) (fun k => if k = ((0 : Int32)).toNatClampNeg then (.long va) else (fun _ => (.long (0 : Int64))) k) := own_A.set (g := (fun _ => (.long (0 : Int64)))) ⟨cl11, Ar11, aS11, aN11, aH11⟩ W11
    have Z11 : n0 ≤ h11.size := by rw [W11.size]; exact Z10
    have K11 := Keep.wr K10 W11 (Or.inr sz_b10)
    have N11 := Fr.snoc X11 NF6 ge_b10
    refine own_go st11 ?_
    show own_Gl p.tables e below F (T11.setTop (mkF m 123 #[.val (.int p1), .val (.long q2), .second, .val (.long q3), .second, .val (.long q4), .second, .val (.long q5), .second, .val (.long q6), .second, .val (.long va), .second, .val (.long vb), .second, .val (.long vc), .second, .val (.long vd), .second, .val (.long ve), .second, .val (.int (2 : Int32)), .val (.long (own_max (own_min va vb) (own_min vc vd))), .second, .val (.long (own_min (own_max va vb) (own_max vc vd))), .second, .unset, .unset, .unset] [(.ref b10)]))
    refine own_go (fun _ k => XS.dup X11.here hx rfl (hb hby at_123) rfl rfl k) ?_
    show own_Gl p.tables e below F (T11.setTop (mkF m 124 #[.val (.int p1), .val (.long q2), .second, .val (.long q3), .second, .val (.long q4), .second, .val (.long q5), .second, .val (.long q6), .second, .val (.long va), .second, .val (.long vb), .second, .val (.long vc), .second, .val (.long vd), .second, .val (.long ve), .second, .val (.int (2 : Int32)), .val (.long (own_max (own_min va vb) (own_min vc vd))), .second, .val (.long (own_min (own_max va vb) (own_max vc vd))), .second, .unset, .unset, .unset] [(.ref b10), (.ref b10)]))
    refine own_go (fun _ k => XS.iconst X11.here hx rfl (hb hby at_124) k) ?_
    show own_Gl p.tables e below F (T11.setTop (mkF m 125 #[.val (.int p1), .val (.long q2), .second, .val (.long q3), .second, .val (.long q4), .second, .val (.long q5), .second, .val (.long q6), .second, .val (.long va), .second, .val (.long vb), .second, .val (.long vc), .second, .val (.long vd), .second, .val (.long ve), .second, .val (.int (2 : Int32)), .val (.long (own_max (own_min va vb) (own_min vc vd))), .second, .val (.long (own_min (own_max va vb) (own_max vc vd))), .second, .unset, .unset, .unset] [(.int (1 : Int32)), (.ref b10), (.ref b10)]))
    refine own_go (fun _ k => XS.lload X11.here hx rfl (hb hby at_125) rfl k) ?_
    show own_Gl p.tables e below F (T11.setTop (mkF m 127 #[.val (.int p1), .val (.long q2), .second, .val (.long q3), .second, .val (.long q4), .second, .val (.long q5), .second, .val (.long q6), .second, .val (.long va), .second, .val (.long vb), .second, .val (.long vc), .second, .val (.long vd), .second, .val (.long ve), .second, .val (.int (2 : Int32)), .val (.long (own_max (own_min va vb) (own_min vc vd))), .second, .val (.long (own_min (own_max va vb) (own_max vc vd))), .second, .unset, .unset, .unset] [(.long vb), (.int (1 : Int32)), (.ref b10), (.ref b10)]))
    obtain ⟨cl12, Ar12, aS12, aN12, aH12⟩ := id V11
    have hin12 : ¬ ((1 : Int32) < 0 ∨ cl12.slots.size ≤ ((1 : Int32)).toNatClampNeg) := inb_of aS12 ⟨by decide, by decide⟩
    obtain ⟨T12, h12, X12, e12, W12, st12⟩ := stJ X11 hx hZ e11 Ar12 (j := (1 : Int32)) hin12 (g := (mkF m 127 #[.val (.int p1), .val (.long q2), .second, .val (.long q3), .second, .val (.long q4), .second, .val (.long q5), .second, .val (.long q6), .second, .val (.long va), .second, .val (.long vb), .second, .val (.long vc), .second, .val (.long vd), .second, .val (.long ve), .second, .val (.int (2 : Int32)), .val (.long (own_max (own_min va vb) (own_min vc vd))), .second, .val (.long (own_min (own_max va vb) (own_max vc vd))), .second, .unset, .unset, .unset] [(.long vb), (.int (1 : Int32)), (.ref b10), (.ref b10)])) rfl rfl (hb hby at_127)
    have V12 : own_A Z h12 b10 .long (2 : Int32) (fun k => if k = ((1 : Int32)).toNatClampNeg then (.long vb) else (fun k => if k = ((0 : Int32)).toNatClampNeg then (.long va) else (fun _ => (.long (0 : Int64))) k) k) := own_A.set (g := (fun k => if k = ((0 : Int32)).toNatClampNeg then (.long va) else (fun _ => (.long (0 : Int64))) k)) ⟨cl12, Ar12, aS12, aN12, aH12⟩ W12
    have Z12 : n0 ≤ h12.size := by rw [W12.size]; exact Z11
    have K12 := Keep.wr K11 W12 (Or.inr sz_b10)
    have N12 := Fr.snoc X12 N11 ge_b10
    refine own_go st12 ?_
    show own_Gl p.tables e below F (T12.setTop (mkF m 128 #[.val (.int p1), .val (.long q2), .second, .val (.long q3), .second, .val (.long q4), .second, .val (.long q5), .second, .val (.long q6), .second, .val (.long va), .second, .val (.long vb), .second, .val (.long vc), .second, .val (.long vd), .second, .val (.long ve), .second, .val (.int (2 : Int32)), .val (.long (own_max (own_min va vb) (own_min vc vd))), .second, .val (.long (own_min (own_max va vb) (own_max vc vd))), .second, .unset, .unset, .unset] [(.ref b10)]))
    refine own_go (fun _ k => XS.astore X12.here hx rfl (hb hby at_128) rfl rfl (l' := #[.val (.int p1), .val (.long q2), .second, .val (.long q3), .second, .val (.long q4), .second, .val (.long q5), .second, .val (.long q6), .second, .val (.long va), .second, .val (.long vb), .second, .val (.long vc), .second, .val (.long vd), .second, .val (.long ve), .second, .val (.int (2 : Int32)), .val (.long (own_max (own_min va vb) (own_min vc vd))), .second, .val (.long (own_min (own_max va vb) (own_max vc vd))), .second, .val (.ref b10), .unset, .unset]) rfl k) ?_
    show own_Gl p.tables e below F (T12.setTop (mkF m 130 #[.val (.int p1), .val (.long q2), .second, .val (.long q3), .second, .val (.long q4), .second, .val (.long q5), .second, .val (.long q6), .second, .val (.long va), .second, .val (.long vb), .second, .val (.long vc), .second, .val (.long vd), .second, .val (.long ve), .second, .val (.int (2 : Int32)), .val (.long (own_max (own_min va vb) (own_min vc vd))), .second, .val (.long (own_min (own_max va vb) (own_max vc vd))), .second, .val (.ref b10), .unset, .unset] []))
    refine own_go (fun _ k => XS.lload X12.here hx rfl (hb hby at_130) rfl k) ?_
    show own_Gl p.tables e below F (T12.setTop (mkF m 132 #[.val (.int p1), .val (.long q2), .second, .val (.long q3), .second, .val (.long q4), .second, .val (.long q5), .second, .val (.long q6), .second, .val (.long va), .second, .val (.long vb), .second, .val (.long vc), .second, .val (.long vd), .second, .val (.long ve), .second, .val (.int (2 : Int32)), .val (.long (own_max (own_min va vb) (own_min vc vd))), .second, .val (.long (own_min (own_max va vb) (own_max vc vd))), .second, .val (.ref b10), .unset, .unset] [(.long va)]))
    refine own_go (fun _ k => XS.lload X12.here hx rfl (hb hby at_132) rfl k) ?_
    show own_Gl p.tables e below F (T12.setTop (mkF m 134 #[.val (.int p1), .val (.long q2), .second, .val (.long q3), .second, .val (.long q4), .second, .val (.long q5), .second, .val (.long q6), .second, .val (.long va), .second, .val (.long vb), .second, .val (.long vc), .second, .val (.long vd), .second, .val (.long ve), .second, .val (.int (2 : Int32)), .val (.long (own_max (own_min va vb) (own_min vc vd))), .second, .val (.long (own_min (own_max va vb) (own_max vc vd))), .second, .val (.ref b10), .unset, .unset] [(.long vb), (.long va)]))
    obtain ⟨_, _, ⟨T13, L13, k13, n13⟩, -, X13, ⟨Lc13, hQ13, ll13, y13, z13⟩, st13⟩ := Jvm.LawKit.callS X12 hx (y := (⟨"com/example/cores_from_twigs/coresfromtwigs/MainMedianMicrosPinLaw", "mean", "(JJ)J"⟩ : MethodName)) hown (mvT hZ (hw _ (List.mem_of_getElem? (i := 19) rfl))) (mvT hZ (hw _ (List.mem_of_getElem? (i := 20) rfl))) (mvT hZ (hw _ (List.mem_of_getElem? (i := 21) rfl))) (mvT hZ (hw _ (List.mem_of_getElem? (i := 22) rfl))) (by decide) (backOf (W := 0) (rm5 l Z a0 hw [] va vb  h12 n0 Z12 ) hZ (hw _ (List.mem_of_getElem? (i := 22) rfl)) (hw _ (List.mem_of_getElem? (i := 21) rfl)) (by decide) (by decide)) (g := (mkF m 134 #[.val (.int p1), .val (.long q2), .second, .val (.long q3), .second, .val (.long q4), .second, .val (.long q5), .second, .val (.long q6), .second, .val (.long va), .second, .val (.long vb), .second, .val (.long vc), .second, .val (.long vd), .second, .val (.long ve), .second, .val (.int (2 : Int32)), .val (.long (own_max (own_min va vb) (own_min vc vd))), .second, .val (.long (own_min (own_max va vb) (own_max vc vd))), .second, .val (.ref b10), .unset, .unset] [(.long vb), (.long va)])) rfl (by rw [hml]; rfl) (argsL := [(.long va), (.long vb)]) (rest := []) (lenOf pd_0 rfl) rfl (by show 2 * 0 + _ ≤ _; exact Nat.le_of_eq rfl) (hb hby at_134) (fun _ _ => ⟨rfl, e12, (by first | decide | exact Nat.le_of_ble_eq_true rfl), (by first | decide | exact Nat.le_of_ble_eq_true rfl)⟩)
    dsimp only [Pt.U, Pt.locs, Pt.cells, Pt.slots] at X13 ll13 y13 z13 st13 hQ13
    have X13 := own_sn X13 (k' := 1) (n' := 2) y13 z13
    obtain ⟨hv13, N13, e13⟩ := hQ13
    rw [hv13] at st13
    have NF13 := own_fr ll13 N12 N13
    refine own_go st13 ?_
    show own_Gl p.tables e below F (T13.setTop (mkF m 137 #[.val (.int p1), .val (.long q2), .second, .val (.long q3), .second, .val (.long q4), .second, .val (.long q5), .second, .val (.long q6), .second, .val (.long va), .second, .val (.long vb), .second, .val (.long vc), .second, .val (.long vd), .second, .val (.long ve), .second, .val (.int (2 : Int32)), .val (.long (own_max (own_min va vb) (own_min vc vd))), .second, .val (.long (own_min (own_max va vb) (own_max vc vd))), .second, .val (.ref b10), .unset, .unset] [(.long (own_mean va vb))]))
    refine own_go (fun _ k => XS.lstore X13.here hx rfl (hb hby at_137) rfl (l' := #[.val (.int p1), .val (.long q2), .second, .val (.long q3), .second, .val (.long q4), .second, .val (.long q5), .second, .val (.long q6), .second, .val (.long va), .second, .val (.long vb), .second, .val (.long vc), .second, .val (.long vd), .second, .val (.long ve), .second, .val (.int (2 : Int32)), .val (.long (own_max (own_min va vb) (own_min vc vd))), .second, .val (.long (own_min (own_max va vb) (own_max vc vd))), .second, .val (.ref b10), .val (.long (own_mean va vb)), .second]) rfl k) ?_
    show own_Gl p.tables e below F (T13.setTop (mkF m 139 #[.val (.int p1), .val (.long q2), .second, .val (.long q3), .second, .val (.long q4), .second, .val (.long q5), .second, .val (.long q6), .second, .val (.long va), .second, .val (.long vb), .second, .val (.long vc), .second, .val (.long vd), .second, .val (.long ve), .second, .val (.int (2 : Int32)), .val (.long (own_max (own_min va vb) (own_min vc vd))), .second, .val (.long (own_min (own_max va vb) (own_max vc vd))), .second, .val (.ref b10), .val (.long (own_mean va vb)), .second] []))
    refine own_go (fun _ k => XS.goto X13.here hx rfl (pc0 := 139) (pc' := 266) rfl (hb hby at_139) (by decide) (by decide) k) ?_
    show own_Gl p.tables e below F (T13.setTop (mkF m 266 #[.val (.int p1), .val (.long q2), .second, .val (.long q3), .second, .val (.long q4), .second, .val (.long q5), .second, .val (.long q6), .second, .val (.long va), .second, .val (.long vb), .second, .val (.long vc), .second, .val (.long vd), .second, .val (.long ve), .second, .val (.int (2 : Int32)), .val (.long (own_max (own_min va vb) (own_min vc vd))), .second, .val (.long (own_min (own_max va vb) (own_max vc vd))), .second, .val (.ref b10), .val (.long (own_mean va vb)), .second] []))
    refine own_go (fun _ k => XS.aload X13.here hx rfl (hb hby at_266) rfl rfl k) ?_
    show own_Gl p.tables e below F (T13.setTop (mkF m 268 #[.val (.int p1), .val (.long q2), .second, .val (.long q3), .second, .val (.long q4), .second, .val (.long q5), .second, .val (.long q6), .second, .val (.long va), .second, .val (.long vb), .second, .val (.long vc), .second, .val (.long vd), .second, .val (.long ve), .second, .val (.int (2 : Int32)), .val (.long (own_max (own_min va vb) (own_min vc vd))), .second, .val (.long (own_min (own_max va vb) (own_max vc vd))), .second, .val (.ref b10), .val (.long (own_mean va vb)), .second] [(.ref b10)]))
    have VL : own_A Z h12 b10 .long (2 : Int32) (own_fl (own_l va vb vc vd ve)) := V12.of (by
      intro j hj
      have hj' : j < 2 := hj
      rcases (by omega : j = 0 ∨ j = 1) with rfl | rfl
      all_goals rfl)
    obtain ⟨_, _, ⟨T14, L14, k14, n14⟩, -, X14, ⟨Lc14, hQ14, ll14, y14, z14⟩, st14⟩ := Jvm.LawKit.callS X13 hx (y := (⟨"com/example/cores_from_twigs/coresfromtwigs/Main", "medianMicros", "([J)J"⟩ : MethodName)) hown (mvT hZ (hw _ (List.mem_of_getElem? (i := 10) rfl))) (mvT hZ (hw _ (List.mem_of_getElem? (i := 11) rfl))) (mvT hZ (hw _ (List.mem_of_getElem? (i := 12) rfl))) (mvT hZ (hw _ (List.mem_of_getElem? (i := 13) rfl))) (by decide) (backOf (W := 0) (rmed2 l Z a0 hw [] b10 (own_l va vb vc vd ve) h12 n0 Z12 VL ge_b10) hZ (hw _ (List.mem_of_getElem? (i := 13) rfl)) (hw _ (List.mem_of_getElem? (i := 12) rfl)) (by decide) (by decide)) (g := (mkF m 268 #[.val (.int p1), .val (.long q2), .second, .val (.long q3), .second, .val (.long q4), .second, .val (.long q5), .second, .val (.long q6), .second, .val (.long va), .second, .val (.long vb), .second, .val (.long vc), .second, .val (.long vd), .second, .val (.long ve), .second, .val (.int (2 : Int32)), .val (.long (own_max (own_min va vb) (own_min vc vd))), .second, .val (.long (own_min (own_max va vb) (own_max vc vd))), .second, .val (.ref b10), .val (.long (own_mean va vb)), .second] [(.ref b10)])) rfl (by rw [hml]; rfl) (argsL := [(.ref b10)]) (rest := []) (lenOf pd_2 rfl) rfl (by show 2 * 0 + _ ≤ _; exact Nat.le_of_eq rfl) (hb hby at_268) (fun _ _ => ⟨rfl, e13, (by first | decide | exact Nat.le_of_ble_eq_true rfl), (by first | decide | exact Nat.le_of_ble_eq_true rfl)⟩)
    dsimp only [Pt.U, Pt.locs, Pt.cells, Pt.slots] at X14 ll14 y14 z14 st14 hQ14
    have X14 := own_sn X14 (k' := 1) (n' := 2) y14 z14
    obtain ⟨m14, l14, rk14, rl14, hv14, N14⟩ := hQ14
    rw [hv14] at st14
    have NF14 := own_fr ll14 NF13 N14
    refine own_go st14 ?_
    show own_Gl p.tables e below F (T14.setTop (mkF m 271 #[.val (.int p1), .val (.long q2), .second, .val (.long q3), .second, .val (.long q4), .second, .val (.long q5), .second, .val (.long q6), .second, .val (.long va), .second, .val (.long vb), .second, .val (.long vc), .second, .val (.long vd), .second, .val (.long ve), .second, .val (.int (2 : Int32)), .val (.long (own_max (own_min va vb) (own_min vc vd))), .second, .val (.long (own_min (own_max va vb) (own_max vc vd))), .second, .val (.ref b10), .val (.long (own_mean va vb)), .second] [(.long ((l14 + ((m14 - l14) / (2 : Int64))) / (1000 : Int64)))]))
    refine own_go (fun _ k => XS.lload X14.here hx rfl (hb hby at_271) rfl k) ?_
    show own_Gl p.tables e below F (T14.setTop (mkF m 273 #[.val (.int p1), .val (.long q2), .second, .val (.long q3), .second, .val (.long q4), .second, .val (.long q5), .second, .val (.long q6), .second, .val (.long va), .second, .val (.long vb), .second, .val (.long vc), .second, .val (.long vd), .second, .val (.long ve), .second, .val (.int (2 : Int32)), .val (.long (own_max (own_min va vb) (own_min vc vd))), .second, .val (.long (own_min (own_max va vb) (own_max vc vd))), .second, .val (.ref b10), .val (.long (own_mean va vb)), .second] [(.long (own_mean va vb)), (.long ((l14 + ((m14 - l14) / (2 : Int64))) / (1000 : Int64)))]))
    refine own_go (fun _ k => X14.ldc2J hx hown (mvT hZ (hw _ (List.mem_of_getElem? (i := 18) rfl))) rfl (hb hby at_273) k) ?_
    show own_Gl p.tables e below F (T14.setTop (mkF m 276 #[.val (.int p1), .val (.long q2), .second, .val (.long q3), .second, .val (.long q4), .second, .val (.long q5), .second, .val (.long q6), .second, .val (.long va), .second, .val (.long vb), .second, .val (.long vc), .second, .val (.long vd), .second, .val (.long ve), .second, .val (.int (2 : Int32)), .val (.long (own_max (own_min va vb) (own_min vc vd))), .second, .val (.long (own_min (own_max va vb) (own_max vc vd))), .second, .val (.ref b10), .val (.long (own_mean va vb)), .second] [(.long (1000 : Int64)), (.long (own_mean va vb)), (.long ((l14 + ((m14 - l14) / (2 : Int64))) / (1000 : Int64)))]))
    refine own_go (fun _ k => XS.ldiv X14.here hx rfl (hb hby at_276) rfl (by decide) k) ?_
    show own_Gl p.tables e below F (T14.setTop (mkF m 277 #[.val (.int p1), .val (.long q2), .second, .val (.long q3), .second, .val (.long q4), .second, .val (.long q5), .second, .val (.long q6), .second, .val (.long va), .second, .val (.long vb), .second, .val (.long vc), .second, .val (.long vd), .second, .val (.long ve), .second, .val (.int (2 : Int32)), .val (.long (own_max (own_min va vb) (own_min vc vd))), .second, .val (.long (own_min (own_max va vb) (own_max vc vd))), .second, .val (.ref b10), .val (.long (own_mean va vb)), .second] [(.long ((own_mean va vb) / (1000 : Int64))), (.long ((l14 + ((m14 - l14) / (2 : Int64))) / (1000 : Int64)))]))
    refine own_go (fun _ k => XS.lcmp X14.here hx rfl (hb hby at_277) rfl k) ?_
    show own_Gl p.tables e below F (T14.setTop (mkF m 278 #[.val (.int p1), .val (.long q2), .second, .val (.long q3), .second, .val (.long q4), .second, .val (.long q5), .second, .val (.long q6), .second, .val (.long va), .second, .val (.long vb), .second, .val (.long vc), .second, .val (.long vd), .second, .val (.long ve), .second, .val (.int (2 : Int32)), .val (.long (own_max (own_min va vb) (own_min vc vd))), .second, .val (.long (own_min (own_max va vb) (own_max vc vd))), .second, .val (.ref b10), .val (.long (own_mean va vb)), .second] [(.int (XT.cmpL ((l14 + ((m14 - l14) / (2 : Int64))) / (1000 : Int64)) ((own_mean va vb) / (1000 : Int64))))]))
    have hEQ : (l14 + ((m14 - l14) / (2 : Int64))) = (own_mean va vb) := by
      have rk1 : 2 ≤ (decide (va.toInt ≤ m14.toInt)).toNat + (decide (vb.toInt ≤ m14.toInt)).toNat := by have q := rk14.1; simpa [own_cnt, own_lep, own_l] using q
      have rk2 : 1 ≤ (decide (m14.toInt ≤ va.toInt)).toNat + (decide (m14.toInt ≤ vb.toInt)).toNat := by have q := rk14.2; simpa [own_cnt, own_gep, own_l] using q
      apply Int64.toInt_inj.mp
      have rl1 : 1 ≤ (decide (va.toInt ≤ l14.toInt)).toNat + (decide (vb.toInt ≤ l14.toInt)).toNat := by have q := rl14.1; simpa [own_cnt, own_lep, own_l] using q
      have rl2 : 2 ≤ (decide (l14.toInt ≤ va.toInt)).toNat + (decide (l14.toInt ≤ vb.toInt)).toNat := by have q := rl14.2; simpa [own_cnt, own_gep, own_l] using q
      have u1 := own_two_hi rk1 rk2
      have u2 := own_two_lo rl1 rl2
      rw [own_half (by omega) (by omega), own_mean_i hpa hpb]; omega
    refine own_go (fun _ k => XS.ifNo X14.here hx rfl (hb hby at_278) rfl (XT.ll_ne_f (congrArg (· / (1000 : Int64)) hEQ)) k) ?_
    show own_Gl p.tables e below F (T14.setTop (mkF m 281 #[.val (.int p1), .val (.long q2), .second, .val (.long q3), .second, .val (.long q4), .second, .val (.long q5), .second, .val (.long q6), .second, .val (.long va), .second, .val (.long vb), .second, .val (.long vc), .second, .val (.long vd), .second, .val (.long ve), .second, .val (.int (2 : Int32)), .val (.long (own_max (own_min va vb) (own_min vc vd))), .second, .val (.long (own_min (own_max va vb) (own_max vc vd))), .second, .val (.ref b10), .val (.long (own_mean va vb)), .second] []))
    refine own_go (fun _ k => XS.iconst X14.here hx rfl (hb hby at_281) k) ?_
    show own_Gl p.tables e below F (T14.setTop (mkF m 282 #[.val (.int p1), .val (.long q2), .second, .val (.long q3), .second, .val (.long q4), .second, .val (.long q5), .second, .val (.long q6), .second, .val (.long va), .second, .val (.long vb), .second, .val (.long vc), .second, .val (.long vd), .second, .val (.long ve), .second, .val (.int (2 : Int32)), .val (.long (own_max (own_min va vb) (own_min vc vd))), .second, .val (.long (own_min (own_max va vb) (own_max vc vd))), .second, .val (.ref b10), .val (.long (own_mean va vb)), .second] [(.int (1 : Int32))]))
    refine own_go (fun _ k => XS.goto X14.here hx rfl (pc0 := 282) (pc' := 286) rfl (hb hby at_282) (by decide) (by decide) k) ?_
    show own_Gl p.tables e below F (T14.setTop (mkF m 286 #[.val (.int p1), .val (.long q2), .second, .val (.long q3), .second, .val (.long q4), .second, .val (.long q5), .second, .val (.long q6), .second, .val (.long va), .second, .val (.long vb), .second, .val (.long vc), .second, .val (.long vd), .second, .val (.long ve), .second, .val (.int (2 : Int32)), .val (.long (own_max (own_min va vb) (own_min vc vd))), .second, .val (.long (own_min (own_max va vb) (own_max vc vd))), .second, .val (.ref b10), .val (.long (own_mean va vb)), .second] [(.int (1 : Int32))]))
    obtain ⟨fs, hr, hrun, hended, hW, hsame⟩ := X14.leave (v := some (.int (1 : Int32))) (fun h => by rw [Bd.returns] at h; cases h)
    subst hF
    refine own_fin ?_ ⟨hrun, hended, _, _, rfl, ?_, ⟨_, rfl⟩, hW, hsame.mono (by first | decide | exact Nat.le_of_ble_eq_true rfl) (by first | decide | exact Nat.le_of_ble_eq_true rfl)⟩
    · exact own_retN X14 hx (t := .boolean) Bd.returns (by simp) rfl (hb hby at_286) hr
    · show Q_rm0 Z _ _ _ _ _ _ h0 n0 _ T14.heap _
      exact ⟨rfl, NF14⟩
  · show own_Gl p.tables e below F (T6.setTop (mkF m 86 #[.val (.int p1), .val (.long q2), .second, .val (.long q3), .second, .val (.long q4), .second, .val (.long q5), .second, .val (.long q6), .second, .val (.long va), .second, .val (.long vb), .second, .val (.long vc), .second, .val (.long vd), .second, .val (.long ve), .second, .val (.int (3 : Int32)), .val (.long (own_max (own_min va vb) (own_min vc vd))), .second, .val (.long (own_min (own_max va vb) (own_max vc vd))), .second, .unset, .unset, .unset] []))
    refine own_go (fun _ k => XS.iload X6.here hx rfl (hb hby at_86) rfl k) ?_
    show own_Gl p.tables e below F (T6.setTop (mkF m 88 #[.val (.int p1), .val (.long q2), .second, .val (.long q3), .second, .val (.long q4), .second, .val (.long q5), .second, .val (.long q6), .second, .val (.long va), .second, .val (.long vb), .second, .val (.long vc), .second, .val (.long vd), .second, .val (.long ve), .second, .val (.int (3 : Int32)), .val (.long (own_max (own_min va vb) (own_min vc vd))), .second, .val (.long (own_min (own_max va vb) (own_max vc vd))), .second, .unset, .unset, .unset] [(.int (3 : Int32))]))
    refine own_go (fun _ k => XS.iconst X6.here hx rfl (hb hby at_88) k) ?_
    show own_Gl p.tables e below F (T6.setTop (mkF m 89 #[.val (.int p1), .val (.long q2), .second, .val (.long q3), .second, .val (.long q4), .second, .val (.long q5), .second, .val (.long q6), .second, .val (.long va), .second, .val (.long vb), .second, .val (.long vc), .second, .val (.long vd), .second, .val (.long ve), .second, .val (.int (3 : Int32)), .val (.long (own_max (own_min va vb) (own_min vc vd))), .second, .val (.long (own_min (own_max va vb) (own_max vc vd))), .second, .unset, .unset, .unset] [(.int (1 : Int32)), (.int (3 : Int32))]))
    refine own_go (fun _ k => XS.icmpYes X6.here hx rfl (pc0 := 89) (pc' := 109) rfl (hb hby at_89) rfl (XT.ii_ne_t (by decide)) (by decide) (by decide) k) ?_
    show own_Gl p.tables e below F (T6.setTop (mkF m 109 #[.val (.int p1), .val (.long q2), .second, .val (.long q3), .second, .val (.long q4), .second, .val (.long q5), .second, .val (.long q6), .second, .val (.long va), .second, .val (.long vb), .second, .val (.long vc), .second, .val (.long vd), .second, .val (.long ve), .second, .val (.int (3 : Int32)), .val (.long (own_max (own_min va vb) (own_min vc vd))), .second, .val (.long (own_min (own_max va vb) (own_max vc vd))), .second, .unset, .unset, .unset] []))
    refine own_go (fun _ k => XS.iload X6.here hx rfl (hb hby at_109) rfl k) ?_
    show own_Gl p.tables e below F (T6.setTop (mkF m 111 #[.val (.int p1), .val (.long q2), .second, .val (.long q3), .second, .val (.long q4), .second, .val (.long q5), .second, .val (.long q6), .second, .val (.long va), .second, .val (.long vb), .second, .val (.long vc), .second, .val (.long vd), .second, .val (.long ve), .second, .val (.int (3 : Int32)), .val (.long (own_max (own_min va vb) (own_min vc vd))), .second, .val (.long (own_min (own_max va vb) (own_max vc vd))), .second, .unset, .unset, .unset] [(.int (3 : Int32))]))
    refine own_go (fun _ k => XS.iconst X6.here hx rfl (hb hby at_111) k) ?_
    show own_Gl p.tables e below F (T6.setTop (mkF m 112 #[.val (.int p1), .val (.long q2), .second, .val (.long q3), .second, .val (.long q4), .second, .val (.long q5), .second, .val (.long q6), .second, .val (.long va), .second, .val (.long vb), .second, .val (.long vc), .second, .val (.long vd), .second, .val (.long ve), .second, .val (.int (3 : Int32)), .val (.long (own_max (own_min va vb) (own_min vc vd))), .second, .val (.long (own_min (own_max va vb) (own_max vc vd))), .second, .unset, .unset, .unset] [(.int (2 : Int32)), (.int (3 : Int32))]))
    refine own_go (fun _ k => XS.icmpYes X6.here hx rfl (pc0 := 112) (pc' := 142) rfl (hb hby at_112) rfl (XT.ii_ne_t (by decide)) (by decide) (by decide) k) ?_
    show own_Gl p.tables e below F (T6.setTop (mkF m 142 #[.val (.int p1), .val (.long q2), .second, .val (.long q3), .second, .val (.long q4), .second, .val (.long q5), .second, .val (.long q6), .second, .val (.long va), .second, .val (.long vb), .second, .val (.long vc), .second, .val (.long vd), .second, .val (.long ve), .second, .val (.int (3 : Int32)), .val (.long (own_max (own_min va vb) (own_min vc vd))), .second, .val (.long (own_min (own_max va vb) (own_max vc vd))), .second, .unset, .unset, .unset] []))
    refine own_go (fun _ k => XS.iload X6.here hx rfl (hb hby at_142) rfl k) ?_
    show own_Gl p.tables e below F (T6.setTop (mkF m 144 #[.val (.int p1), .val (.long q2), .second, .val (.long q3), .second, .val (.long q4), .second, .val (.long q5), .second, .val (.long q6), .second, .val (.long va), .second, .val (.long vb), .second, .val (.long vc), .second, .val (.long vd), .second, .val (.long ve), .second, .val (.int (3 : Int32)), .val (.long (own_max (own_min va vb) (own_min vc vd))), .second, .val (.long (own_min (own_max va vb) (own_max vc vd))), .second, .unset, .unset, .unset] [(.int (3 : Int32))]))
    refine own_go (fun _ k => XS.iconst X6.here hx rfl (hb hby at_144) k) ?_
    show own_Gl p.tables e below F (T6.setTop (mkF m 145 #[.val (.int p1), .val (.long q2), .second, .val (.long q3), .second, .val (.long q4), .second, .val (.long q5), .second, .val (.long q6), .second, .val (.long va), .second, .val (.long vb), .second, .val (.long vc), .second, .val (.long vd), .second, .val (.long ve), .second, .val (.int (3 : Int32)), .val (.long (own_max (own_min va vb) (own_min vc vd))), .second, .val (.long (own_min (own_max va vb) (own_max vc vd))), .second, .unset, .unset, .unset] [(.int (3 : Int32)), (.int (3 : Int32))]))
    refine own_go (fun _ k => XS.icmpNo X6.here hx rfl (hb hby at_145) rfl (XT.ii_ne_f rfl) k) ?_
    show own_Gl p.tables e below F (T6.setTop (mkF m 148 #[.val (.int p1), .val (.long q2), .second, .val (.long q3), .second, .val (.long q4), .second, .val (.long q5), .second, .val (.long q6), .second, .val (.long va), .second, .val (.long vb), .second, .val (.long vc), .second, .val (.long vd), .second, .val (.long ve), .second, .val (.int (3 : Int32)), .val (.long (own_max (own_min va vb) (own_min vc vd))), .second, .val (.long (own_min (own_max va vb) (own_max vc vd))), .second, .unset, .unset, .unset] []))
    refine own_go (fun _ k => XS.iconst X6.here hx rfl (hb hby at_148) k) ?_
    show own_Gl p.tables e below F (T6.setTop (mkF m 149 #[.val (.int p1), .val (.long q2), .second, .val (.long q3), .second, .val (.long q4), .second, .val (.long q5), .second, .val (.long q6), .second, .val (.long va), .second, .val (.long vb), .second, .val (.long vc), .second, .val (.long vd), .second, .val (.long ve), .second, .val (.int (3 : Int32)), .val (.long (own_max (own_min va vb) (own_min vc vd))), .second, .val (.long (own_min (own_max va vb) (own_max vc vd))), .second, .unset, .unset, .unset] [(.int (3 : Int32))]))
    obtain ⟨T15, h15, k15, X15, e15, E15, A15, st15⟩ := newP X6 hx hZ (hw _ (List.mem_of_getElem? (i := 9) rfl)) e6 (g := (mkF m 149 #[.val (.int p1), .val (.long q2), .second, .val (.long q3), .second, .val (.long q4), .second, .val (.long q5), .second, .val (.long q6), .second, .val (.long va), .second, .val (.long vb), .second, .val (.long vc), .second, .val (.long vd), .second, .val (.long ve), .second, .val (.int (3 : Int32)), .val (.long (own_max (own_min va vb) (own_min vc vd))), .second, .val (.long (own_min (own_max va vb) (own_max vc vd))), .second, .unset, .unset, .unset] [(.int (3 : Int32))])) rfl (hb hby at_149) rfl (by decide) (cap := 3) (by decide) (by decide) (by decide) (by decide)
    obtain ⟨b15, g15⟩ : ∃ z, z = h0.size := ⟨_, rfl⟩
    rw [← g15] at A15 st15
    have ge_b15 : n0 ≤ b15 := Nat.le_trans Z0 (Nat.le_of_eq g15.symm)
    have sz_b15 : h0.size ≤ b15 := Nat.le_trans ((Keep.refl h0 [])).1 (Nat.le_of_eq g15.symm)
    have Z15 : n0 ≤ h15.size := Nat.le_trans Z0 E15.1
    have K15 := Keep.ext (Keep.refl h0 []) E15
    have V15 : own_A Z h15 b15 .long (3 : Int32) (fun _ => (.long (0 : Int64))) := own_A.new A15 (by decide)
    have X15 : Stand _ _ _ _ _ _ _ _ _ _ _ _ 1 3 := X15
    refine own_go st15 ?_
    show own_Gl p.tables e below F (T15.setTop (mkF m 151 #[.val (.int p1), .val (.long q2), .second, .val (.long q3), .second, .val (.long q4), .second, .val (.long q5), .second, .val (.long q6), .second, .val (.long va), .second, .val (.long vb), .second, .val (.long vc), .second, .val (.long vd), .second, .val (.long ve), .second, .val (.int (3 : Int32)), .val (.long (own_max (own_min va vb) (own_min vc vd))), .second, .val (.long (own_min (own_max va vb) (own_max vc vd))), .second, .unset, .unset, .unset] [(.ref b15)]))
    refine own_go (fun _ k => XS.dup X15.here hx rfl (hb hby at_151) rfl rfl k) ?_
    show own_Gl p.tables e below F (T15.setTop (mkF m 152 #[.val (.int p1), .val (.long q2), .second, .val (.long q3), .second, .val (.long q4), .second, .val (.long q5), .second, .val (.long q6), .second, .val (.long va), .second, .val (.long vb), .second, .val (.long vc), .second, .val (.long vd), .second, .val (.long ve), .second, .val (.int (3 : Int32)), .val (.long (own_max (own_min va vb) (own_min vc vd))), .second, .val (.long (own_min (own_max va vb) (own_max vc vd))), .second, .unset, .unset, .unset] [(.ref b15), (.ref b15)]))
    refine own_go (fun _ k => XS.iconst X15.here hx rfl (hb hby at_152) k) ?_
    show own_Gl p.tables e below F (T15.setTop (mkF m 153 #[.val (.int p1), .val (.long q2), .second, .val (.long q3), .second, .val (.long q4), .second, .val (.long q5), .second, .val (.long q6), .second, .val (.long va), .second, .val (.long vb), .second, .val (.long vc), .second, .val (.long vd), .second, .val (.long ve), .second, .val (.int (3 : Int32)), .val (.long (own_max (own_min va vb) (own_min vc vd))), .second, .val (.long (own_min (own_max va vb) (own_max vc vd))), .second, .unset, .unset, .unset] [(.int (0 : Int32)), (.ref b15), (.ref b15)]))
    refine own_go (fun _ k => XS.lload X15.here hx rfl (hb hby at_153) rfl k) ?_
    show own_Gl p.tables e below F (T15.setTop (mkF m 155 #[.val (.int p1), .val (.long q2), .second, .val (.long q3), .second, .val (.long q4), .second, .val (.long q5), .second, .val (.long q6), .second, .val (.long va), .second, .val (.long vb), .second, .val (.long vc), .second, .val (.long vd), .second, .val (.long ve), .second, .val (.int (3 : Int32)), .val (.long (own_max (own_min va vb) (own_min vc vd))), .second, .val (.long (own_min (own_max va vb) (own_max vc vd))), .second, .unset, .unset, .unset] [(.long va), (.int (0 : Int32)), (.ref b15), (.ref b15)]))
    obtain ⟨cl16, Ar16, aS16, aN16, aH16⟩ := id V15
    have hin16 : ¬ ((0 : Int32) < 0 ∨ cl16.slots.size ≤ ((0 : Int32)).toNatClampNeg) := inb_of aS16 ⟨by decide, by decide⟩
    obtain ⟨T16, h16, X16, e16, W16, st16⟩ := stJ X15 hx hZ e15 Ar16 (j := (0 : Int32)) hin16 (g := (mkF m 155 #[.val (.int p1), .val (.long q2), .second, .val (.long q3), .second, .val (.long q4), .second, .val (.long q5), .second, .val (.long q6), .second, .val (.long va), .second, .val (.long vb), .second, .val (.long vc), .second, .val (.long vd), .second, .val (.long ve), .second, .val (.int (3 : Int32)), .val (.long (own_max (own_min va vb) (own_min vc vd))), .second, .val (.long (own_min (own_max va vb) (own_max vc vd))), .second, .unset, .unset, .unset] [(.long va), (.int (0 : Int32)), (.ref b15), (.ref b15)])) rfl rfl (hb hby at_155)
    have V16 : own_A Z h16 b15 .long (3 : Int32) (fun k => if k = ((0 : Int32)).toNatClampNeg then (.long va) else (fun _ => (.long (0 : Int64))) k) := own_A.set (g := (fun _ => (.long (0 : Int64)))) ⟨cl16, Ar16, aS16, aN16, aH16⟩ W16
    have Z16 : n0 ≤ h16.size := by rw [W16.size]; exact Z15
    have K16 := Keep.wr K15 W16 (Or.inr sz_b15)
    have N16 := Fr.snoc X16 NF6 ge_b15
    refine own_go st16 ?_
    show own_Gl p.tables e below F (T16.setTop (mkF m 156 #[.val (.int p1), .val (.long q2), .second, .val (.long q3), .second, .val (.long q4), .second, .val (.long q5), .second, .val (.long q6), .second, .val (.long va), .second, .val (.long vb), .second, .val (.long vc), .second, .val (.long vd), .second, .val (.long ve), .second, .val (.int (3 : Int32)), .val (.long (own_max (own_min va vb) (own_min vc vd))), .second, .val (.long (own_min (own_max va vb) (own_max vc vd))), .second, .unset, .unset, .unset] [(.ref b15)]))
    refine own_go (fun _ k => XS.dup X16.here hx rfl (hb hby at_156) rfl rfl k) ?_
    show own_Gl p.tables e below F (T16.setTop (mkF m 157 #[.val (.int p1), .val (.long q2), .second, .val (.long q3), .second, .val (.long q4), .second, .val (.long q5), .second, .val (.long q6), .second, .val (.long va), .second, .val (.long vb), .second, .val (.long vc), .second, .val (.long vd), .second, .val (.long ve), .second, .val (.int (3 : Int32)), .val (.long (own_max (own_min va vb) (own_min vc vd))), .second, .val (.long (own_min (own_max va vb) (own_max vc vd))), .second, .unset, .unset, .unset] [(.ref b15), (.ref b15)]))
    refine own_go (fun _ k => XS.iconst X16.here hx rfl (hb hby at_157) k) ?_
    show own_Gl p.tables e below F (T16.setTop (mkF m 158 #[.val (.int p1), .val (.long q2), .second, .val (.long q3), .second, .val (.long q4), .second, .val (.long q5), .second, .val (.long q6), .second, .val (.long va), .second, .val (.long vb), .second, .val (.long vc), .second, .val (.long vd), .second, .val (.long ve), .second, .val (.int (3 : Int32)), .val (.long (own_max (own_min va vb) (own_min vc vd))), .second, .val (.long (own_min (own_max va vb) (own_max vc vd))), .second, .unset, .unset, .unset] [(.int (1 : Int32)), (.ref b15), (.ref b15)]))
    refine own_go (fun _ k => XS.lload X16.here hx rfl (hb hby at_158) rfl k) ?_
    show own_Gl p.tables e below F (T16.setTop (mkF m 160 #[.val (.int p1), .val (.long q2), .second, .val (.long q3), .second, .val (.long q4), .second, .val (.long q5), .second, .val (.long q6), .second, .val (.long va), .second, .val (.long vb), .second, .val (.long vc), .second, .val (.long vd), .second, .val (.long ve), .second, .val (.int (3 : Int32)), .val (.long (own_max (own_min va vb) (own_min vc vd))), .second, .val (.long (own_min (own_max va vb) (own_max vc vd))), .second, .unset, .unset, .unset] [(.long vb), (.int (1 : Int32)), (.ref b15), (.ref b15)]))
    obtain ⟨cl17, Ar17, aS17, aN17, aH17⟩ := id V16
    have hin17 : ¬ ((1 : Int32) < 0 ∨ cl17.slots.size ≤ ((1 : Int32)).toNatClampNeg) := inb_of aS17 ⟨by decide, by decide⟩
    obtain ⟨T17, h17, X17, e17, W17, st17⟩ := stJ X16 hx hZ e16 Ar17 (j := (1 : Int32)) hin17 (g := (mkF m 160 #[.val (.int p1), .val (.long q2), .second, .val (.long q3), .second, .val (.long q4), .second, .val (.long q5), .second, .val (.long q6), .second, .val (.long va), .second, .val (.long vb), .second, .val (.long vc), .second, .val (.long vd), .second, .val (.long ve), .second, .val (.int (3 : Int32)), .val (.long (own_max (own_min va vb) (own_min vc vd))), .second, .val (.long (own_min (own_max va vb) (own_max vc vd))), .second, .unset, .unset, .unset] [(.long vb), (.int (1 : Int32)), (.ref b15), (.ref b15)])) rfl rfl (hb hby at_160)
    have V17 : own_A Z h17 b15 .long (3 : Int32) (fun k => if k = ((1 : Int32)).toNatClampNeg then (.long vb) else (fun k => if k = ((0 : Int32)).toNatClampNeg then (.long va) else (fun _ => (.long (0 : Int64))) k) k) := own_A.set (g := (fun k => if k = ((0 : Int32)).toNatClampNeg then (.long va) else (fun _ => (.long (0 : Int64))) k)) ⟨cl17, Ar17, aS17, aN17, aH17⟩ W17
    have Z17 : n0 ≤ h17.size := by rw [W17.size]; exact Z16
    have K17 := Keep.wr K16 W17 (Or.inr sz_b15)
    have N17 := Fr.snoc X17 N16 ge_b15
    refine own_go st17 ?_
    show own_Gl p.tables e below F (T17.setTop (mkF m 161 #[.val (.int p1), .val (.long q2), .second, .val (.long q3), .second, .val (.long q4), .second, .val (.long q5), .second, .val (.long q6), .second, .val (.long va), .second, .val (.long vb), .second, .val (.long vc), .second, .val (.long vd), .second, .val (.long ve), .second, .val (.int (3 : Int32)), .val (.long (own_max (own_min va vb) (own_min vc vd))), .second, .val (.long (own_min (own_max va vb) (own_max vc vd))), .second, .unset, .unset, .unset] [(.ref b15)]))
    refine own_go (fun _ k => XS.dup X17.here hx rfl (hb hby at_161) rfl rfl k) ?_
    show own_Gl p.tables e below F (T17.setTop (mkF m 162 #[.val (.int p1), .val (.long q2), .second, .val (.long q3), .second, .val (.long q4), .second, .val (.long q5), .second, .val (.long q6), .second, .val (.long va), .second, .val (.long vb), .second, .val (.long vc), .second, .val (.long vd), .second, .val (.long ve), .second, .val (.int (3 : Int32)), .val (.long (own_max (own_min va vb) (own_min vc vd))), .second, .val (.long (own_min (own_max va vb) (own_max vc vd))), .second, .unset, .unset, .unset] [(.ref b15), (.ref b15)]))
    refine own_go (fun _ k => XS.iconst X17.here hx rfl (hb hby at_162) k) ?_
    show own_Gl p.tables e below F (T17.setTop (mkF m 163 #[.val (.int p1), .val (.long q2), .second, .val (.long q3), .second, .val (.long q4), .second, .val (.long q5), .second, .val (.long q6), .second, .val (.long va), .second, .val (.long vb), .second, .val (.long vc), .second, .val (.long vd), .second, .val (.long ve), .second, .val (.int (3 : Int32)), .val (.long (own_max (own_min va vb) (own_min vc vd))), .second, .val (.long (own_min (own_max va vb) (own_max vc vd))), .second, .unset, .unset, .unset] [(.int (2 : Int32)), (.ref b15), (.ref b15)]))
    refine own_go (fun _ k => XS.lload X17.here hx rfl (hb hby at_163) rfl k) ?_
    show own_Gl p.tables e below F (T17.setTop (mkF m 165 #[.val (.int p1), .val (.long q2), .second, .val (.long q3), .second, .val (.long q4), .second, .val (.long q5), .second, .val (.long q6), .second, .val (.long va), .second, .val (.long vb), .second, .val (.long vc), .second, .val (.long vd), .second, .val (.long ve), .second, .val (.int (3 : Int32)), .val (.long (own_max (own_min va vb) (own_min vc vd))), .second, .val (.long (own_min (own_max va vb) (own_max vc vd))), .second, .unset, .unset, .unset] [(.long vc), (.int (2 : Int32)), (.ref b15), (.ref b15)]))
    obtain ⟨cl18, Ar18, aS18, aN18, aH18⟩ := id V17
    have hin18 : ¬ ((2 : Int32) < 0 ∨ cl18.slots.size ≤ ((2 : Int32)).toNatClampNeg) := inb_of aS18 ⟨by decide, by decide⟩
    obtain ⟨T18, h18, X18, e18, W18, st18⟩ := stJ X17 hx hZ e17 Ar18 (j := (2 : Int32)) hin18 (g := (mkF m 165 #[.val (.int p1), .val (.long q2), .second, .val (.long q3), .second, .val (.long q4), .second, .val (.long q5), .second, .val (.long q6), .second, .val (.long va), .second, .val (.long vb), .second, .val (.long vc), .second, .val (.long vd), .second, .val (.long ve), .second, .val (.int (3 : Int32)), .val (.long (own_max (own_min va vb) (own_min vc vd))), .second, .val (.long (own_min (own_max va vb) (own_max vc vd))), .second, .unset, .unset, .unset] [(.long vc), (.int (2 : Int32)), (.ref b15), (.ref b15)])) rfl rfl (hb hby at_165)
    have V18 : own_A Z h18 b15 .long (3 : Int32) (fun k => if k = ((2 : Int32)).toNatClampNeg then (.long vc) else (fun k => if k = ((1 : Int32)).toNatClampNeg then (.long vb) else (fun k => if k = ((0 : Int32)).toNatClampNeg then (.long va) else (fun _ => (.long (0 : Int64))) k) k) k) := own_A.set (g := (fun k => if k = ((1 : Int32)).toNatClampNeg then (.long vb) else (fun k => if k = ((0 : Int32)).toNatClampNeg then (.long va) else (fun _ => (.long (0 : Int64))) k) k)) ⟨cl18, Ar18, aS18, aN18, aH18⟩ W18
    have Z18 : n0 ≤ h18.size := by rw [W18.size]; exact Z17
    have K18 := Keep.wr K17 W18 (Or.inr sz_b15)
    have N18 := Fr.snoc X18 N17 ge_b15
    refine own_go st18 ?_
    show own_Gl p.tables e below F (T18.setTop (mkF m 166 #[.val (.int p1), .val (.long q2), .second, .val (.long q3), .second, .val (.long q4), .second, .val (.long q5), .second, .val (.long q6), .second, .val (.long va), .second, .val (.long vb), .second, .val (.long vc), .second, .val (.long vd), .second, .val (.long ve), .second, .val (.int (3 : Int32)), .val (.long (own_max (own_min va vb) (own_min vc vd))), .second, .val (.long (own_min (own_max va vb) (own_max vc vd))), .second, .unset, .unset, .unset] [(.ref b15)]))
    refine own_go (fun _ k => XS.astore X18.here hx rfl (hb hby at_166) rfl rfl (l' := #[.val (.int p1), .val (.long q2), .second, .val (.long q3), .second, .val (.long q4), .second, .val (.long q5), .second, .val (.long q6), .second, .val (.long va), .second, .val (.long vb), .second, .val (.long vc), .second, .val (.long vd), .second, .val (.long ve), .second, .val (.int (3 : Int32)), .val (.long (own_max (own_min va vb) (own_min vc vd))), .second, .val (.long (own_min (own_max va vb) (own_max vc vd))), .second, .val (.ref b15), .unset, .unset]) rfl k) ?_
    show own_Gl p.tables e below F (T18.setTop (mkF m 168 #[.val (.int p1), .val (.long q2), .second, .val (.long q3), .second, .val (.long q4), .second, .val (.long q5), .second, .val (.long q6), .second, .val (.long va), .second, .val (.long vb), .second, .val (.long vc), .second, .val (.long vd), .second, .val (.long ve), .second, .val (.int (3 : Int32)), .val (.long (own_max (own_min va vb) (own_min vc vd))), .second, .val (.long (own_min (own_max va vb) (own_max vc vd))), .second, .val (.ref b15), .unset, .unset] []))
    refine own_go (fun _ k => XS.lload X18.here hx rfl (hb hby at_168) rfl k) ?_
    show own_Gl p.tables e below F (T18.setTop (mkF m 170 #[.val (.int p1), .val (.long q2), .second, .val (.long q3), .second, .val (.long q4), .second, .val (.long q5), .second, .val (.long q6), .second, .val (.long va), .second, .val (.long vb), .second, .val (.long vc), .second, .val (.long vd), .second, .val (.long ve), .second, .val (.int (3 : Int32)), .val (.long (own_max (own_min va vb) (own_min vc vd))), .second, .val (.long (own_min (own_max va vb) (own_max vc vd))), .second, .val (.ref b15), .unset, .unset] [(.long va)]))
    refine own_go (fun _ k => XS.lload X18.here hx rfl (hb hby at_170) rfl k) ?_
    show own_Gl p.tables e below F (T18.setTop (mkF m 172 #[.val (.int p1), .val (.long q2), .second, .val (.long q3), .second, .val (.long q4), .second, .val (.long q5), .second, .val (.long q6), .second, .val (.long va), .second, .val (.long vb), .second, .val (.long vc), .second, .val (.long vd), .second, .val (.long ve), .second, .val (.int (3 : Int32)), .val (.long (own_max (own_min va vb) (own_min vc vd))), .second, .val (.long (own_min (own_max va vb) (own_max vc vd))), .second, .val (.ref b15), .unset, .unset] [(.long vb), (.long va)]))
    refine own_go (fun _ k => XS.lload X18.here hx rfl (hb hby at_172) rfl k) ?_
    show own_Gl p.tables e below F (T18.setTop (mkF m 174 #[.val (.int p1), .val (.long q2), .second, .val (.long q3), .second, .val (.long q4), .second, .val (.long q5), .second, .val (.long q6), .second, .val (.long va), .second, .val (.long vb), .second, .val (.long vc), .second, .val (.long vd), .second, .val (.long ve), .second, .val (.int (3 : Int32)), .val (.long (own_max (own_min va vb) (own_min vc vd))), .second, .val (.long (own_min (own_max va vb) (own_max vc vd))), .second, .val (.ref b15), .unset, .unset] [(.long vc), (.long vb), (.long va)]))
    obtain ⟨_, _, ⟨T19, L19, k19, n19⟩, -, X19, ⟨Lc19, hQ19, ll19, y19, z19⟩, st19⟩ := Jvm.LawKit.callS X18 hx (y := (⟨"com/example/cores_from_twigs/coresfromtwigs/MainMedianMicrosPinLaw", "med3", "(JJJ)J"⟩ : MethodName)) hown (mvT hZ (hw _ (List.mem_of_getElem? (i := 24) rfl))) (mvT hZ (hw _ (List.mem_of_getElem? (i := 25) rfl))) (mvT hZ (hw _ (List.mem_of_getElem? (i := 21) rfl))) (mvT hZ (hw _ (List.mem_of_getElem? (i := 26) rfl))) (by decide) (backOf (W := 0) (rm6 l Z a0 hw [] va vb vc  h18 n0 Z18 ) hZ (hw _ (List.mem_of_getElem? (i := 26) rfl)) (hw _ (List.mem_of_getElem? (i := 21) rfl)) (by decide) (by decide)) (g := (mkF m 174 #[.val (.int p1), .val (.long q2), .second, .val (.long q3), .second, .val (.long q4), .second, .val (.long q5), .second, .val (.long q6), .second, .val (.long va), .second, .val (.long vb), .second, .val (.long vc), .second, .val (.long vd), .second, .val (.long ve), .second, .val (.int (3 : Int32)), .val (.long (own_max (own_min va vb) (own_min vc vd))), .second, .val (.long (own_min (own_max va vb) (own_max vc vd))), .second, .val (.ref b15), .unset, .unset] [(.long vc), (.long vb), (.long va)])) rfl (by rw [hml]; rfl) (argsL := [(.long va), (.long vb), (.long vc)]) (rest := []) (lenOf pd_3 rfl) rfl (by show 2 * 0 + _ ≤ _; exact Nat.le_of_eq rfl) (hb hby at_174) (fun _ _ => ⟨rfl, e18, (by first | decide | exact Nat.le_of_ble_eq_true rfl), (by first | decide | exact Nat.le_of_ble_eq_true rfl)⟩)
    dsimp only [Pt.U, Pt.locs, Pt.cells, Pt.slots] at X19 ll19 y19 z19 st19 hQ19
    have X19 := own_sn X19 (k' := 1) (n' := 3) y19 z19
    obtain ⟨hv19, N19, e19⟩ := hQ19
    rw [hv19] at st19
    have NF19 := own_fr ll19 N18 N19
    refine own_go st19 ?_
    show own_Gl p.tables e below F (T19.setTop (mkF m 177 #[.val (.int p1), .val (.long q2), .second, .val (.long q3), .second, .val (.long q4), .second, .val (.long q5), .second, .val (.long q6), .second, .val (.long va), .second, .val (.long vb), .second, .val (.long vc), .second, .val (.long vd), .second, .val (.long ve), .second, .val (.int (3 : Int32)), .val (.long (own_max (own_min va vb) (own_min vc vd))), .second, .val (.long (own_min (own_max va vb) (own_max vc vd))), .second, .val (.ref b15), .unset, .unset] [(.long (own_med3 va vb vc))]))
    refine own_go (fun _ k => XS.lstore X19.here hx rfl (hb hby at_177) rfl (l' := #[.val (.int p1), .val (.long q2), .second, .val (.long q3), .second, .val (.long q4), .second, .val (.long q5), .second, .val (.long q6), .second, .val (.long va), .second, .val (.long vb), .second, .val (.long vc), .second, .val (.long vd), .second, .val (.long ve), .second, .val (.int (3 : Int32)), .val (.long (own_max (own_min va vb) (own_min vc vd))), .second, .val (.long (own_min (own_max va vb) (own_max vc vd))), .second, .val (.ref b15), .val (.long (own_med3 va vb vc)), .second]) rfl k) ?_
    show own_Gl p.tables e below F (T19.setTop (mkF m 179 #[.val (.int p1), .val (.long q2), .second, .val (.long q3), .second, .val (.long q4), .second, .val (.long q5), .second, .val (.long q6), .second, .val (.long va), .second, .val (.long vb), .second, .val (.long vc), .second, .val (.long vd), .second, .val (.long ve), .second, .val (.int (3 : Int32)), .val (.long (own_max (own_min va vb) (own_min vc vd))), .second, .val (.long (own_min (own_max va vb) (own_max vc vd))), .second, .val (.ref b15), .val (.long (own_med3 va vb vc)), .second] []))
    refine own_go (fun _ k => XS.goto X19.here hx rfl (pc0 := 179) (pc' := 266) rfl (hb hby at_179) (by decide) (by decide) k) ?_
    show own_Gl p.tables e below F (T19.setTop (mkF m 266 #[.val (.int p1), .val (.long q2), .second, .val (.long q3), .second, .val (.long q4), .second, .val (.long q5), .second, .val (.long q6), .second, .val (.long va), .second, .val (.long vb), .second, .val (.long vc), .second, .val (.long vd), .second, .val (.long ve), .second, .val (.int (3 : Int32)), .val (.long (own_max (own_min va vb) (own_min vc vd))), .second, .val (.long (own_min (own_max va vb) (own_max vc vd))), .second, .val (.ref b15), .val (.long (own_med3 va vb vc)), .second] []))
    refine own_go (fun _ k => XS.aload X19.here hx rfl (hb hby at_266) rfl rfl k) ?_
    show own_Gl p.tables e below F (T19.setTop (mkF m 268 #[.val (.int p1), .val (.long q2), .second, .val (.long q3), .second, .val (.long q4), .second, .val (.long q5), .second, .val (.long q6), .second, .val (.long va), .second, .val (.long vb), .second, .val (.long vc), .second, .val (.long vd), .second, .val (.long ve), .second, .val (.int (3 : Int32)), .val (.long (own_max (own_min va vb) (own_min vc vd))), .second, .val (.long (own_min (own_max va vb) (own_max vc vd))), .second, .val (.ref b15), .val (.long (own_med3 va vb vc)), .second] [(.ref b15)]))
    have VL : own_A Z h18 b15 .long (3 : Int32) (own_fl (own_l va vb vc vd ve)) := V18.of (by
      intro j hj
      have hj' : j < 3 := hj
      rcases (by omega : j = 0 ∨ j = 1 ∨ j = 2) with rfl | rfl | rfl
      all_goals rfl)
    obtain ⟨_, _, ⟨T20, L20, k20, n20⟩, -, X20, ⟨Lc20, hQ20, ll20, y20, z20⟩, st20⟩ := Jvm.LawKit.callS X19 hx (y := (⟨"com/example/cores_from_twigs/coresfromtwigs/Main", "medianMicros", "([J)J"⟩ : MethodName)) hown (mvT hZ (hw _ (List.mem_of_getElem? (i := 10) rfl))) (mvT hZ (hw _ (List.mem_of_getElem? (i := 11) rfl))) (mvT hZ (hw _ (List.mem_of_getElem? (i := 12) rfl))) (mvT hZ (hw _ (List.mem_of_getElem? (i := 13) rfl))) (by decide) (backOf (W := 0) (rmed3 l Z a0 hw [] b15 (own_l va vb vc vd ve) h18 n0 Z18 VL ge_b15) hZ (hw _ (List.mem_of_getElem? (i := 13) rfl)) (hw _ (List.mem_of_getElem? (i := 12) rfl)) (by decide) (by decide)) (g := (mkF m 268 #[.val (.int p1), .val (.long q2), .second, .val (.long q3), .second, .val (.long q4), .second, .val (.long q5), .second, .val (.long q6), .second, .val (.long va), .second, .val (.long vb), .second, .val (.long vc), .second, .val (.long vd), .second, .val (.long ve), .second, .val (.int (3 : Int32)), .val (.long (own_max (own_min va vb) (own_min vc vd))), .second, .val (.long (own_min (own_max va vb) (own_max vc vd))), .second, .val (.ref b15), .val (.long (own_med3 va vb vc)), .second] [(.ref b15)])) rfl (by rw [hml]; rfl) (argsL := [(.ref b15)]) (rest := []) (lenOf pd_2 rfl) rfl (by show 2 * 0 + _ ≤ _; exact Nat.le_of_eq rfl) (hb hby at_268) (fun _ _ => ⟨rfl, e19, (by first | decide | exact Nat.le_of_ble_eq_true rfl), (by first | decide | exact Nat.le_of_ble_eq_true rfl)⟩)
    dsimp only [Pt.U, Pt.locs, Pt.cells, Pt.slots] at X20 ll20 y20 z20 st20 hQ20
    have X20 := own_sn X20 (k' := 1) (n' := 3) y20 z20
    obtain ⟨m20, rk20, hv20, N20⟩ := hQ20
    rw [hv20] at st20
    have NF20 := own_fr ll20 NF19 N20
    refine own_go st20 ?_
    show own_Gl p.tables e below F (T20.setTop (mkF m 271 #[.val (.int p1), .val (.long q2), .second, .val (.long q3), .second, .val (.long q4), .second, .val (.long q5), .second, .val (.long q6), .second, .val (.long va), .second, .val (.long vb), .second, .val (.long vc), .second, .val (.long vd), .second, .val (.long ve), .second, .val (.int (3 : Int32)), .val (.long (own_max (own_min va vb) (own_min vc vd))), .second, .val (.long (own_min (own_max va vb) (own_max vc vd))), .second, .val (.ref b15), .val (.long (own_med3 va vb vc)), .second] [(.long (m20 / (1000 : Int64)))]))
    refine own_go (fun _ k => XS.lload X20.here hx rfl (hb hby at_271) rfl k) ?_
    show own_Gl p.tables e below F (T20.setTop (mkF m 273 #[.val (.int p1), .val (.long q2), .second, .val (.long q3), .second, .val (.long q4), .second, .val (.long q5), .second, .val (.long q6), .second, .val (.long va), .second, .val (.long vb), .second, .val (.long vc), .second, .val (.long vd), .second, .val (.long ve), .second, .val (.int (3 : Int32)), .val (.long (own_max (own_min va vb) (own_min vc vd))), .second, .val (.long (own_min (own_max va vb) (own_max vc vd))), .second, .val (.ref b15), .val (.long (own_med3 va vb vc)), .second] [(.long (own_med3 va vb vc)), (.long (m20 / (1000 : Int64)))]))
    refine own_go (fun _ k => X20.ldc2J hx hown (mvT hZ (hw _ (List.mem_of_getElem? (i := 18) rfl))) rfl (hb hby at_273) k) ?_
    show own_Gl p.tables e below F (T20.setTop (mkF m 276 #[.val (.int p1), .val (.long q2), .second, .val (.long q3), .second, .val (.long q4), .second, .val (.long q5), .second, .val (.long q6), .second, .val (.long va), .second, .val (.long vb), .second, .val (.long vc), .second, .val (.long vd), .second, .val (.long ve), .second, .val (.int (3 : Int32)), .val (.long (own_max (own_min va vb) (own_min vc vd))), .second, .val (.long (own_min (own_max va vb) (own_max vc vd))), .second, .val (.ref b15), .val (.long (own_med3 va vb vc)), .second] [(.long (1000 : Int64)), (.long (own_med3 va vb vc)), (.long (m20 / (1000 : Int64)))]))
    refine own_go (fun _ k => XS.ldiv X20.here hx rfl (hb hby at_276) rfl (by decide) k) ?_
    show own_Gl p.tables e below F (T20.setTop (mkF m 277 #[.val (.int p1), .val (.long q2), .second, .val (.long q3), .second, .val (.long q4), .second, .val (.long q5), .second, .val (.long q6), .second, .val (.long va), .second, .val (.long vb), .second, .val (.long vc), .second, .val (.long vd), .second, .val (.long ve), .second, .val (.int (3 : Int32)), .val (.long (own_max (own_min va vb) (own_min vc vd))), .second, .val (.long (own_min (own_max va vb) (own_max vc vd))), .second, .val (.ref b15), .val (.long (own_med3 va vb vc)), .second] [(.long ((own_med3 va vb vc) / (1000 : Int64))), (.long (m20 / (1000 : Int64)))]))
    refine own_go (fun _ k => XS.lcmp X20.here hx rfl (hb hby at_277) rfl k) ?_
    show own_Gl p.tables e below F (T20.setTop (mkF m 278 #[.val (.int p1), .val (.long q2), .second, .val (.long q3), .second, .val (.long q4), .second, .val (.long q5), .second, .val (.long q6), .second, .val (.long va), .second, .val (.long vb), .second, .val (.long vc), .second, .val (.long vd), .second, .val (.long ve), .second, .val (.int (3 : Int32)), .val (.long (own_max (own_min va vb) (own_min vc vd))), .second, .val (.long (own_min (own_max va vb) (own_max vc vd))), .second, .val (.ref b15), .val (.long (own_med3 va vb vc)), .second] [(.int (XT.cmpL (m20 / (1000 : Int64)) ((own_med3 va vb vc) / (1000 : Int64))))]))
    have hEQ : m20 = (own_med3 va vb vc) := by
      have rk1 : 2 ≤ (decide (va.toInt ≤ m20.toInt)).toNat + (decide (vb.toInt ≤ m20.toInt)).toNat + (decide (vc.toInt ≤ m20.toInt)).toNat := by have q := rk20.1; simpa [own_cnt, own_lep, own_l] using q
      have rk2 : 2 ≤ (decide (m20.toInt ≤ va.toInt)).toNat + (decide (m20.toInt ≤ vb.toInt)).toNat + (decide (m20.toInt ≤ vc.toInt)).toNat := by have q := rk20.2; simpa [own_cnt, own_gep, own_l] using q
      apply Int64.toInt_inj.mp
      rw [own_three rk1 rk2]; simp only [own_med3, own_max_i, own_min_i]
    refine own_go (fun _ k => XS.ifNo X20.here hx rfl (hb hby at_278) rfl (XT.ll_ne_f (congrArg (· / (1000 : Int64)) hEQ)) k) ?_
    show own_Gl p.tables e below F (T20.setTop (mkF m 281 #[.val (.int p1), .val (.long q2), .second, .val (.long q3), .second, .val (.long q4), .second, .val (.long q5), .second, .val (.long q6), .second, .val (.long va), .second, .val (.long vb), .second, .val (.long vc), .second, .val (.long vd), .second, .val (.long ve), .second, .val (.int (3 : Int32)), .val (.long (own_max (own_min va vb) (own_min vc vd))), .second, .val (.long (own_min (own_max va vb) (own_max vc vd))), .second, .val (.ref b15), .val (.long (own_med3 va vb vc)), .second] []))
    refine own_go (fun _ k => XS.iconst X20.here hx rfl (hb hby at_281) k) ?_
    show own_Gl p.tables e below F (T20.setTop (mkF m 282 #[.val (.int p1), .val (.long q2), .second, .val (.long q3), .second, .val (.long q4), .second, .val (.long q5), .second, .val (.long q6), .second, .val (.long va), .second, .val (.long vb), .second, .val (.long vc), .second, .val (.long vd), .second, .val (.long ve), .second, .val (.int (3 : Int32)), .val (.long (own_max (own_min va vb) (own_min vc vd))), .second, .val (.long (own_min (own_max va vb) (own_max vc vd))), .second, .val (.ref b15), .val (.long (own_med3 va vb vc)), .second] [(.int (1 : Int32))]))
    refine own_go (fun _ k => XS.goto X20.here hx rfl (pc0 := 282) (pc' := 286) rfl (hb hby at_282) (by decide) (by decide) k) ?_
    show own_Gl p.tables e below F (T20.setTop (mkF m 286 #[.val (.int p1), .val (.long q2), .second, .val (.long q3), .second, .val (.long q4), .second, .val (.long q5), .second, .val (.long q6), .second, .val (.long va), .second, .val (.long vb), .second, .val (.long vc), .second, .val (.long vd), .second, .val (.long ve), .second, .val (.int (3 : Int32)), .val (.long (own_max (own_min va vb) (own_min vc vd))), .second, .val (.long (own_min (own_max va vb) (own_max vc vd))), .second, .val (.ref b15), .val (.long (own_med3 va vb vc)), .second] [(.int (1 : Int32))]))
    obtain ⟨fs, hr, hrun, hended, hW, hsame⟩ := X20.leave (v := some (.int (1 : Int32))) (fun h => by rw [Bd.returns] at h; cases h)
    subst hF
    refine own_fin ?_ ⟨hrun, hended, _, _, rfl, ?_, ⟨_, rfl⟩, hW, hsame.mono (by first | decide | exact Nat.le_of_ble_eq_true rfl) (by first | decide | exact Nat.le_of_ble_eq_true rfl)⟩
    · exact own_retN X20 hx (t := .boolean) Bd.returns (by simp) rfl (hb hby at_286) hr
    · show Q_rm0 Z _ _ _ _ _ _ h0 n0 _ T20.heap _
      exact ⟨rfl, NF20⟩
  · show own_Gl p.tables e below F (T6.setTop (mkF m 86 #[.val (.int p1), .val (.long q2), .second, .val (.long q3), .second, .val (.long q4), .second, .val (.long q5), .second, .val (.long q6), .second, .val (.long va), .second, .val (.long vb), .second, .val (.long vc), .second, .val (.long vd), .second, .val (.long ve), .second, .val (.int (4 : Int32)), .val (.long (own_max (own_min va vb) (own_min vc vd))), .second, .val (.long (own_min (own_max va vb) (own_max vc vd))), .second, .unset, .unset, .unset] []))
    refine own_go (fun _ k => XS.iload X6.here hx rfl (hb hby at_86) rfl k) ?_
    show own_Gl p.tables e below F (T6.setTop (mkF m 88 #[.val (.int p1), .val (.long q2), .second, .val (.long q3), .second, .val (.long q4), .second, .val (.long q5), .second, .val (.long q6), .second, .val (.long va), .second, .val (.long vb), .second, .val (.long vc), .second, .val (.long vd), .second, .val (.long ve), .second, .val (.int (4 : Int32)), .val (.long (own_max (own_min va vb) (own_min vc vd))), .second, .val (.long (own_min (own_max va vb) (own_max vc vd))), .second, .unset, .unset, .unset] [(.int (4 : Int32))]))
    refine own_go (fun _ k => XS.iconst X6.here hx rfl (hb hby at_88) k) ?_
    show own_Gl p.tables e below F (T6.setTop (mkF m 89 #[.val (.int p1), .val (.long q2), .second, .val (.long q3), .second, .val (.long q4), .second, .val (.long q5), .second, .val (.long q6), .second, .val (.long va), .second, .val (.long vb), .second, .val (.long vc), .second, .val (.long vd), .second, .val (.long ve), .second, .val (.int (4 : Int32)), .val (.long (own_max (own_min va vb) (own_min vc vd))), .second, .val (.long (own_min (own_max va vb) (own_max vc vd))), .second, .unset, .unset, .unset] [(.int (1 : Int32)), (.int (4 : Int32))]))
    refine own_go (fun _ k => XS.icmpYes X6.here hx rfl (pc0 := 89) (pc' := 109) rfl (hb hby at_89) rfl (XT.ii_ne_t (by decide)) (by decide) (by decide) k) ?_
    show own_Gl p.tables e below F (T6.setTop (mkF m 109 #[.val (.int p1), .val (.long q2), .second, .val (.long q3), .second, .val (.long q4), .second, .val (.long q5), .second, .val (.long q6), .second, .val (.long va), .second, .val (.long vb), .second, .val (.long vc), .second, .val (.long vd), .second, .val (.long ve), .second, .val (.int (4 : Int32)), .val (.long (own_max (own_min va vb) (own_min vc vd))), .second, .val (.long (own_min (own_max va vb) (own_max vc vd))), .second, .unset, .unset, .unset] []))
    refine own_go (fun _ k => XS.iload X6.here hx rfl (hb hby at_109) rfl k) ?_
    show own_Gl p.tables e below F (T6.setTop (mkF m 111 #[.val (.int p1), .val (.long q2), .second, .val (.long q3), .second, .val (.long q4), .second, .val (.long q5), .second, .val (.long q6), .second, .val (.long va), .second, .val (.long vb), .second, .val (.long vc), .second, .val (.long vd), .second, .val (.long ve), .second, .val (.int (4 : Int32)), .val (.long (own_max (own_min va vb) (own_min vc vd))), .second, .val (.long (own_min (own_max va vb) (own_max vc vd))), .second, .unset, .unset, .unset] [(.int (4 : Int32))]))
    refine own_go (fun _ k => XS.iconst X6.here hx rfl (hb hby at_111) k) ?_
    show own_Gl p.tables e below F (T6.setTop (mkF m 112 #[.val (.int p1), .val (.long q2), .second, .val (.long q3), .second, .val (.long q4), .second, .val (.long q5), .second, .val (.long q6), .second, .val (.long va), .second, .val (.long vb), .second, .val (.long vc), .second, .val (.long vd), .second, .val (.long ve), .second, .val (.int (4 : Int32)), .val (.long (own_max (own_min va vb) (own_min vc vd))), .second, .val (.long (own_min (own_max va vb) (own_max vc vd))), .second, .unset, .unset, .unset] [(.int (2 : Int32)), (.int (4 : Int32))]))
    refine own_go (fun _ k => XS.icmpYes X6.here hx rfl (pc0 := 112) (pc' := 142) rfl (hb hby at_112) rfl (XT.ii_ne_t (by decide)) (by decide) (by decide) k) ?_
    show own_Gl p.tables e below F (T6.setTop (mkF m 142 #[.val (.int p1), .val (.long q2), .second, .val (.long q3), .second, .val (.long q4), .second, .val (.long q5), .second, .val (.long q6), .second, .val (.long va), .second, .val (.long vb), .second, .val (.long vc), .second, .val (.long vd), .second, .val (.long ve), .second, .val (.int (4 : Int32)), .val (.long (own_max (own_min va vb) (own_min vc vd))), .second, .val (.long (own_min (own_max va vb) (own_max vc vd))), .second, .unset, .unset, .unset] []))
    refine own_go (fun _ k => XS.iload X6.here hx rfl (hb hby at_142) rfl k) ?_
    show own_Gl p.tables e below F (T6.setTop (mkF m 144 #[.val (.int p1), .val (.long q2), .second, .val (.long q3), .second, .val (.long q4), .second, .val (.long q5), .second, .val (.long q6), .second, .val (.long va), .second, .val (.long vb), .second, .val (.long vc), .second, .val (.long vd), .second, .val (.long ve), .second, .val (.int (4 : Int32)), .val (.long (own_max (own_min va vb) (own_min vc vd))), .second, .val (.long (own_min (own_max va vb) (own_max vc vd))), .second, .unset, .unset, .unset] [(.int (4 : Int32))]))
    refine own_go (fun _ k => XS.iconst X6.here hx rfl (hb hby at_144) k) ?_
    show own_Gl p.tables e below F (T6.setTop (mkF m 145 #[.val (.int p1), .val (.long q2), .second, .val (.long q3), .second, .val (.long q4), .second, .val (.long q5), .second, .val (.long q6), .second, .val (.long va), .second, .val (.long vb), .second, .val (.long vc), .second, .val (.long vd), .second, .val (.long ve), .second, .val (.int (4 : Int32)), .val (.long (own_max (own_min va vb) (own_min vc vd))), .second, .val (.long (own_min (own_max va vb) (own_max vc vd))), .second, .unset, .unset, .unset] [(.int (3 : Int32)), (.int (4 : Int32))]))
    refine own_go (fun _ k => XS.icmpYes X6.here hx rfl (pc0 := 145) (pc' := 182) rfl (hb hby at_145) rfl (XT.ii_ne_t (by decide)) (by decide) (by decide) k) ?_
    show own_Gl p.tables e below F (T6.setTop (mkF m 182 #[.val (.int p1), .val (.long q2), .second, .val (.long q3), .second, .val (.long q4), .second, .val (.long q5), .second, .val (.long q6), .second, .val (.long va), .second, .val (.long vb), .second, .val (.long vc), .second, .val (.long vd), .second, .val (.long ve), .second, .val (.int (4 : Int32)), .val (.long (own_max (own_min va vb) (own_min vc vd))), .second, .val (.long (own_min (own_max va vb) (own_max vc vd))), .second, .unset, .unset, .unset] []))
    refine own_go (fun _ k => XS.iload X6.here hx rfl (hb hby at_182) rfl k) ?_
    show own_Gl p.tables e below F (T6.setTop (mkF m 184 #[.val (.int p1), .val (.long q2), .second, .val (.long q3), .second, .val (.long q4), .second, .val (.long q5), .second, .val (.long q6), .second, .val (.long va), .second, .val (.long vb), .second, .val (.long vc), .second, .val (.long vd), .second, .val (.long ve), .second, .val (.int (4 : Int32)), .val (.long (own_max (own_min va vb) (own_min vc vd))), .second, .val (.long (own_min (own_max va vb) (own_max vc vd))), .second, .unset, .unset, .unset] [(.int (4 : Int32))]))
    refine own_go (fun _ k => XS.iconst X6.here hx rfl (hb hby at_184) k) ?_
    show own_Gl p.tables e below F (T6.setTop (mkF m 185 #[.val (.int p1), .val (.long q2), .second, .val (.long q3), .second, .val (.long q4), .second, .val (.long q5), .second, .val (.long q6), .second, .val (.long va), .second, .val (.long vb), .second, .val (.long vc), .second, .val (.long vd), .second, .val (.long ve), .second, .val (.int (4 : Int32)), .val (.long (own_max (own_min va vb) (own_min vc vd))), .second, .val (.long (own_min (own_max va vb) (own_max vc vd))), .second, .unset, .unset, .unset] [(.int (4 : Int32)), (.int (4 : Int32))]))
    refine own_go (fun _ k => XS.icmpNo X6.here hx rfl (hb hby at_185) rfl (XT.ii_ne_f rfl) k) ?_
    show own_Gl p.tables e below F (T6.setTop (mkF m 188 #[.val (.int p1), .val (.long q2), .second, .val (.long q3), .second, .val (.long q4), .second, .val (.long q5), .second, .val (.long q6), .second, .val (.long va), .second, .val (.long vb), .second, .val (.long vc), .second, .val (.long vd), .second, .val (.long ve), .second, .val (.int (4 : Int32)), .val (.long (own_max (own_min va vb) (own_min vc vd))), .second, .val (.long (own_min (own_max va vb) (own_max vc vd))), .second, .unset, .unset, .unset] []))
    refine own_go (fun _ k => XS.iconst X6.here hx rfl (hb hby at_188) k) ?_
    show own_Gl p.tables e below F (T6.setTop (mkF m 189 #[.val (.int p1), .val (.long q2), .second, .val (.long q3), .second, .val (.long q4), .second, .val (.long q5), .second, .val (.long q6), .second, .val (.long va), .second, .val (.long vb), .second, .val (.long vc), .second, .val (.long vd), .second, .val (.long ve), .second, .val (.int (4 : Int32)), .val (.long (own_max (own_min va vb) (own_min vc vd))), .second, .val (.long (own_min (own_max va vb) (own_max vc vd))), .second, .unset, .unset, .unset] [(.int (4 : Int32))]))
    obtain ⟨T21, h21, k21, X21, e21, E21, A21, st21⟩ := newP X6 hx hZ (hw _ (List.mem_of_getElem? (i := 9) rfl)) e6 (g := (mkF m 189 #[.val (.int p1), .val (.long q2), .second, .val (.long q3), .second, .val (.long q4), .second, .val (.long q5), .second, .val (.long q6), .second, .val (.long va), .second, .val (.long vb), .second, .val (.long vc), .second, .val (.long vd), .second, .val (.long ve), .second, .val (.int (4 : Int32)), .val (.long (own_max (own_min va vb) (own_min vc vd))), .second, .val (.long (own_min (own_max va vb) (own_max vc vd))), .second, .unset, .unset, .unset] [(.int (4 : Int32))])) rfl (hb hby at_189) rfl (by decide) (cap := 4) (by decide) (by decide) (by decide) (by decide)
    obtain ⟨b21, g21⟩ : ∃ z, z = h0.size := ⟨_, rfl⟩
    rw [← g21] at A21 st21
    have ge_b21 : n0 ≤ b21 := Nat.le_trans Z0 (Nat.le_of_eq g21.symm)
    have sz_b21 : h0.size ≤ b21 := Nat.le_trans ((Keep.refl h0 [])).1 (Nat.le_of_eq g21.symm)
    have Z21 : n0 ≤ h21.size := Nat.le_trans Z0 E21.1
    have K21 := Keep.ext (Keep.refl h0 []) E21
    have V21 : own_A Z h21 b21 .long (4 : Int32) (fun _ => (.long (0 : Int64))) := own_A.new A21 (by decide)
    have X21 : Stand _ _ _ _ _ _ _ _ _ _ _ _ 1 4 := X21
    refine own_go st21 ?_
    show own_Gl p.tables e below F (T21.setTop (mkF m 191 #[.val (.int p1), .val (.long q2), .second, .val (.long q3), .second, .val (.long q4), .second, .val (.long q5), .second, .val (.long q6), .second, .val (.long va), .second, .val (.long vb), .second, .val (.long vc), .second, .val (.long vd), .second, .val (.long ve), .second, .val (.int (4 : Int32)), .val (.long (own_max (own_min va vb) (own_min vc vd))), .second, .val (.long (own_min (own_max va vb) (own_max vc vd))), .second, .unset, .unset, .unset] [(.ref b21)]))
    refine own_go (fun _ k => XS.dup X21.here hx rfl (hb hby at_191) rfl rfl k) ?_
    show own_Gl p.tables e below F (T21.setTop (mkF m 192 #[.val (.int p1), .val (.long q2), .second, .val (.long q3), .second, .val (.long q4), .second, .val (.long q5), .second, .val (.long q6), .second, .val (.long va), .second, .val (.long vb), .second, .val (.long vc), .second, .val (.long vd), .second, .val (.long ve), .second, .val (.int (4 : Int32)), .val (.long (own_max (own_min va vb) (own_min vc vd))), .second, .val (.long (own_min (own_max va vb) (own_max vc vd))), .second, .unset, .unset, .unset] [(.ref b21), (.ref b21)]))
    refine own_go (fun _ k => XS.iconst X21.here hx rfl (hb hby at_192) k) ?_
    show own_Gl p.tables e below F (T21.setTop (mkF m 193 #[.val (.int p1), .val (.long q2), .second, .val (.long q3), .second, .val (.long q4), .second, .val (.long q5), .second, .val (.long q6), .second, .val (.long va), .second, .val (.long vb), .second, .val (.long vc), .second, .val (.long vd), .second, .val (.long ve), .second, .val (.int (4 : Int32)), .val (.long (own_max (own_min va vb) (own_min vc vd))), .second, .val (.long (own_min (own_max va vb) (own_max vc vd))), .second, .unset, .unset, .unset] [(.int (0 : Int32)), (.ref b21), (.ref b21)]))
    refine own_go (fun _ k => XS.lload X21.here hx rfl (hb hby at_193) rfl k) ?_
    show own_Gl p.tables e below F (T21.setTop (mkF m 195 #[.val (.int p1), .val (.long q2), .second, .val (.long q3), .second, .val (.long q4), .second, .val (.long q5), .second, .val (.long q6), .second, .val (.long va), .second, .val (.long vb), .second, .val (.long vc), .second, .val (.long vd), .second, .val (.long ve), .second, .val (.int (4 : Int32)), .val (.long (own_max (own_min va vb) (own_min vc vd))), .second, .val (.long (own_min (own_max va vb) (own_max vc vd))), .second, .unset, .unset, .unset] [(.long va), (.int (0 : Int32)), (.ref b21), (.ref b21)]))
    obtain ⟨cl22, Ar22, aS22, aN22, aH22⟩ := id V21
    have hin22 : ¬ ((0 : Int32) < 0 ∨ cl22.slots.size ≤ ((0 : Int32)).toNatClampNeg) := inb_of aS22 ⟨by decide, by decide⟩
    obtain ⟨T22, h22, X22, e22, W22, st22⟩ := stJ X21 hx hZ e21 Ar22 (j := (0 : Int32)) hin22 (g := (mkF m 195 #[.val (.int p1), .val (.long q2), .second, .val (.long q3), .second, .val (.long q4), .second, .val (.long q5), .second, .val (.long q6), .second, .val (.long va), .second, .val (.long vb), .second, .val (.long vc), .second, .val (.long vd), .second, .val (.long ve), .second, .val (.int (4 : Int32)), .val (.long (own_max (own_min va vb) (own_min vc vd))), .second, .val (.long (own_min (own_max va vb) (own_max vc vd))), .second, .unset, .unset, .unset] [(.long va), (.int (0 : Int32)), (.ref b21), (.ref b21)])) rfl rfl (hb hby at_195)
    have V22 : own_A Z h22 b21 .long (4 : Int32) (fun k => if k = ((0 : Int32)).toNatClampNeg then (.long va) else (fun _ => (.long (0 : Int64))) k) := own_A.set (g := (fun _ => (.long (0 : Int64)))) ⟨cl22, Ar22, aS22, aN22, aH22⟩ W22
    have Z22 : n0 ≤ h22.size := by rw [W22.size]; exact Z21
    have K22 := Keep.wr K21 W22 (Or.inr sz_b21)
    have N22 := Fr.snoc X22 NF6 ge_b21
    refine own_go st22 ?_
    show own_Gl p.tables e below F (T22.setTop (mkF m 196 #[.val (.int p1), .val (.long q2), .second, .val (.long q3), .second, .val (.long q4), .second, .val (.long q5), .second, .val (.long q6), .second, .val (.long va), .second, .val (.long vb), .second, .val (.long vc), .second, .val (.long vd), .second, .val (.long ve), .second, .val (.int (4 : Int32)), .val (.long (own_max (own_min va vb) (own_min vc vd))), .second, .val (.long (own_min (own_max va vb) (own_max vc vd))), .second, .unset, .unset, .unset] [(.ref b21)]))
    refine own_go (fun _ k => XS.dup X22.here hx rfl (hb hby at_196) rfl rfl k) ?_
    show own_Gl p.tables e below F (T22.setTop (mkF m 197 #[.val (.int p1), .val (.long q2), .second, .val (.long q3), .second, .val (.long q4), .second, .val (.long q5), .second, .val (.long q6), .second, .val (.long va), .second, .val (.long vb), .second, .val (.long vc), .second, .val (.long vd), .second, .val (.long ve), .second, .val (.int (4 : Int32)), .val (.long (own_max (own_min va vb) (own_min vc vd))), .second, .val (.long (own_min (own_max va vb) (own_max vc vd))), .second, .unset, .unset, .unset] [(.ref b21), (.ref b21)]))
    refine own_go (fun _ k => XS.iconst X22.here hx rfl (hb hby at_197) k) ?_
    show own_Gl p.tables e below F (T22.setTop (mkF m 198 #[.val (.int p1), .val (.long q2), .second, .val (.long q3), .second, .val (.long q4), .second, .val (.long q5), .second, .val (.long q6), .second, .val (.long va), .second, .val (.long vb), .second, .val (.long vc), .second, .val (.long vd), .second, .val (.long ve), .second, .val (.int (4 : Int32)), .val (.long (own_max (own_min va vb) (own_min vc vd))), .second, .val (.long (own_min (own_max va vb) (own_max vc vd))), .second, .unset, .unset, .unset] [(.int (1 : Int32)), (.ref b21), (.ref b21)]))
    refine own_go (fun _ k => XS.lload X22.here hx rfl (hb hby at_198) rfl k) ?_
    show own_Gl p.tables e below F (T22.setTop (mkF m 200 #[.val (.int p1), .val (.long q2), .second, .val (.long q3), .second, .val (.long q4), .second, .val (.long q5), .second, .val (.long q6), .second, .val (.long va), .second, .val (.long vb), .second, .val (.long vc), .second, .val (.long vd), .second, .val (.long ve), .second, .val (.int (4 : Int32)), .val (.long (own_max (own_min va vb) (own_min vc vd))), .second, .val (.long (own_min (own_max va vb) (own_max vc vd))), .second, .unset, .unset, .unset] [(.long vb), (.int (1 : Int32)), (.ref b21), (.ref b21)]))
    obtain ⟨cl23, Ar23, aS23, aN23, aH23⟩ := id V22
    have hin23 : ¬ ((1 : Int32) < 0 ∨ cl23.slots.size ≤ ((1 : Int32)).toNatClampNeg) := inb_of aS23 ⟨by decide, by decide⟩
    obtain ⟨T23, h23, X23, e23, W23, st23⟩ := stJ X22 hx hZ e22 Ar23 (j := (1 : Int32)) hin23 (g := (mkF m 200 #[.val (.int p1), .val (.long q2), .second, .val (.long q3), .second, .val (.long q4), .second, .val (.long q5), .second, .val (.long q6), .second, .val (.long va), .second, .val (.long vb), .second, .val (.long vc), .second, .val (.long vd), .second, .val (.long ve), .second, .val (.int (4 : Int32)), .val (.long (own_max (own_min va vb) (own_min vc vd))), .second, .val (.long (own_min (own_max va vb) (own_max vc vd))), .second, .unset, .unset, .unset] [(.long vb), (.int (1 : Int32)), (.ref b21), (.ref b21)])) rfl rfl (hb hby at_200)
    have V23 : own_A Z h23 b21 .long (4 : Int32) (fun k => if k = ((1 : Int32)).toNatClampNeg then (.long vb) else (fun k => if k = ((0 : Int32)).toNatClampNeg then (.long va) else (fun _ => (.long (0 : Int64))) k) k) := own_A.set (g := (fun k => if k = ((0 : Int32)).toNatClampNeg then (.long va) else (fun _ => (.long (0 : Int64))) k)) ⟨cl23, Ar23, aS23, aN23, aH23⟩ W23
    have Z23 : n0 ≤ h23.size := by rw [W23.size]; exact Z22
    have K23 := Keep.wr K22 W23 (Or.inr sz_b21)
    have N23 := Fr.snoc X23 N22 ge_b21
    refine own_go st23 ?_
    show own_Gl p.tables e below F (T23.setTop (mkF m 201 #[.val (.int p1), .val (.long q2), .second, .val (.long q3), .second, .val (.long q4), .second, .val (.long q5), .second, .val (.long q6), .second, .val (.long va), .second, .val (.long vb), .second, .val (.long vc), .second, .val (.long vd), .second, .val (.long ve), .second, .val (.int (4 : Int32)), .val (.long (own_max (own_min va vb) (own_min vc vd))), .second, .val (.long (own_min (own_max va vb) (own_max vc vd))), .second, .unset, .unset, .unset] [(.ref b21)]))
    refine own_go (fun _ k => XS.dup X23.here hx rfl (hb hby at_201) rfl rfl k) ?_
    show own_Gl p.tables e below F (T23.setTop (mkF m 202 #[.val (.int p1), .val (.long q2), .second, .val (.long q3), .second, .val (.long q4), .second, .val (.long q5), .second, .val (.long q6), .second, .val (.long va), .second, .val (.long vb), .second, .val (.long vc), .second, .val (.long vd), .second, .val (.long ve), .second, .val (.int (4 : Int32)), .val (.long (own_max (own_min va vb) (own_min vc vd))), .second, .val (.long (own_min (own_max va vb) (own_max vc vd))), .second, .unset, .unset, .unset] [(.ref b21), (.ref b21)]))
    refine own_go (fun _ k => XS.iconst X23.here hx rfl (hb hby at_202) k) ?_
    show own_Gl p.tables e below F (T23.setTop (mkF m 203 #[.val (.int p1), .val (.long q2), .second, .val (.long q3), .second, .val (.long q4), .second, .val (.long q5), .second, .val (.long q6), .second, .val (.long va), .second, .val (.long vb), .second, .val (.long vc), .second, .val (.long vd), .second, .val (.long ve), .second, .val (.int (4 : Int32)), .val (.long (own_max (own_min va vb) (own_min vc vd))), .second, .val (.long (own_min (own_max va vb) (own_max vc vd))), .second, .unset, .unset, .unset] [(.int (2 : Int32)), (.ref b21), (.ref b21)]))
    refine own_go (fun _ k => XS.lload X23.here hx rfl (hb hby at_203) rfl k) ?_
    show own_Gl p.tables e below F (T23.setTop (mkF m 205 #[.val (.int p1), .val (.long q2), .second, .val (.long q3), .second, .val (.long q4), .second, .val (.long q5), .second, .val (.long q6), .second, .val (.long va), .second, .val (.long vb), .second, .val (.long vc), .second, .val (.long vd), .second, .val (.long ve), .second, .val (.int (4 : Int32)), .val (.long (own_max (own_min va vb) (own_min vc vd))), .second, .val (.long (own_min (own_max va vb) (own_max vc vd))), .second, .unset, .unset, .unset] [(.long vc), (.int (2 : Int32)), (.ref b21), (.ref b21)]))
    obtain ⟨cl24, Ar24, aS24, aN24, aH24⟩ := id V23
    have hin24 : ¬ ((2 : Int32) < 0 ∨ cl24.slots.size ≤ ((2 : Int32)).toNatClampNeg) := inb_of aS24 ⟨by decide, by decide⟩
    obtain ⟨T24, h24, X24, e24, W24, st24⟩ := stJ X23 hx hZ e23 Ar24 (j := (2 : Int32)) hin24 (g := (mkF m 205 #[.val (.int p1), .val (.long q2), .second, .val (.long q3), .second, .val (.long q4), .second, .val (.long q5), .second, .val (.long q6), .second, .val (.long va), .second, .val (.long vb), .second, .val (.long vc), .second, .val (.long vd), .second, .val (.long ve), .second, .val (.int (4 : Int32)), .val (.long (own_max (own_min va vb) (own_min vc vd))), .second, .val (.long (own_min (own_max va vb) (own_max vc vd))), .second, .unset, .unset, .unset] [(.long vc), (.int (2 : Int32)), (.ref b21), (.ref b21)])) rfl rfl (hb hby at_205)
    have V24 : own_A Z h24 b21 .long (4 : Int32) (fun k => if k = ((2 : Int32)).toNatClampNeg then (.long vc) else (fun k => if k = ((1 : Int32)).toNatClampNeg then (.long vb) else (fun k => if k = ((0 : Int32)).toNatClampNeg then (.long va) else (fun _ => (.long (0 : Int64))) k) k) k) := own_A.set (g := (fun k => if k = ((1 : Int32)).toNatClampNeg then (.long vb) else (fun k => if k = ((0 : Int32)).toNatClampNeg then (.long va) else (fun _ => (.long (0 : Int64))) k) k)) ⟨cl24, Ar24, aS24, aN24, aH24⟩ W24
    have Z24 : n0 ≤ h24.size := by rw [W24.size]; exact Z23
    have K24 := Keep.wr K23 W24 (Or.inr sz_b21)
    have N24 := Fr.snoc X24 N23 ge_b21
    refine own_go st24 ?_
    show own_Gl p.tables e below F (T24.setTop (mkF m 206 #[.val (.int p1), .val (.long q2), .second, .val (.long q3), .second, .val (.long q4), .second, .val (.long q5), .second, .val (.long q6), .second, .val (.long va), .second, .val (.long vb), .second, .val (.long vc), .second, .val (.long vd), .second, .val (.long ve), .second, .val (.int (4 : Int32)), .val (.long (own_max (own_min va vb) (own_min vc vd))), .second, .val (.long (own_min (own_max va vb) (own_max vc vd))), .second, .unset, .unset, .unset] [(.ref b21)]))
    refine own_go (fun _ k => XS.dup X24.here hx rfl (hb hby at_206) rfl rfl k) ?_
    show own_Gl p.tables e below F (T24.setTop (mkF m 207 #[.val (.int p1), .val (.long q2), .second, .val (.long q3), .second, .val (.long q4), .second, .val (.long q5), .second, .val (.long q6), .second, .val (.long va), .second, .val (.long vb), .second, .val (.long vc), .second, .val (.long vd), .second, .val (.long ve), .second, .val (.int (4 : Int32)), .val (.long (own_max (own_min va vb) (own_min vc vd))), .second, .val (.long (own_min (own_max va vb) (own_max vc vd))), .second, .unset, .unset, .unset] [(.ref b21), (.ref b21)]))
    refine own_go (fun _ k => XS.iconst X24.here hx rfl (hb hby at_207) k) ?_
    show own_Gl p.tables e below F (T24.setTop (mkF m 208 #[.val (.int p1), .val (.long q2), .second, .val (.long q3), .second, .val (.long q4), .second, .val (.long q5), .second, .val (.long q6), .second, .val (.long va), .second, .val (.long vb), .second, .val (.long vc), .second, .val (.long vd), .second, .val (.long ve), .second, .val (.int (4 : Int32)), .val (.long (own_max (own_min va vb) (own_min vc vd))), .second, .val (.long (own_min (own_max va vb) (own_max vc vd))), .second, .unset, .unset, .unset] [(.int (3 : Int32)), (.ref b21), (.ref b21)]))
    refine own_go (fun _ k => XS.lload X24.here hx rfl (hb hby at_208) rfl k) ?_
    show own_Gl p.tables e below F (T24.setTop (mkF m 210 #[.val (.int p1), .val (.long q2), .second, .val (.long q3), .second, .val (.long q4), .second, .val (.long q5), .second, .val (.long q6), .second, .val (.long va), .second, .val (.long vb), .second, .val (.long vc), .second, .val (.long vd), .second, .val (.long ve), .second, .val (.int (4 : Int32)), .val (.long (own_max (own_min va vb) (own_min vc vd))), .second, .val (.long (own_min (own_max va vb) (own_max vc vd))), .second, .unset, .unset, .unset] [(.long vd), (.int (3 : Int32)), (.ref b21), (.ref b21)]))
    obtain ⟨cl25, Ar25, aS25, aN25, aH25⟩ := id V24
    have hin25 : ¬ ((3 : Int32) < 0 ∨ cl25.slots.size ≤ ((3 : Int32)).toNatClampNeg) := inb_of aS25 ⟨by decide, by decide⟩
    obtain ⟨T25, h25, X25, e25, W25, st25⟩ := stJ X24 hx hZ e24 Ar25 (j := (3 : Int32)) hin25 (g := (mkF m 210 #[.val (.int p1), .val (.long q2), .second, .val (.long q3), .second, .val (.long q4), .second, .val (.long q5), .second, .val (.long q6), .second, .val (.long va), .second, .val (.long vb), .second, .val (.long vc), .second, .val (.long vd), .second, .val (.long ve), .second, .val (.int (4 : Int32)), .val (.long (own_max (own_min va vb) (own_min vc vd))), .second, .val (.long (own_min (own_max va vb) (own_max vc vd))), .second, .unset, .unset, .unset] [(.long vd), (.int (3 : Int32)), (.ref b21), (.ref b21)])) rfl rfl (hb hby at_210)
    have V25 : own_A Z h25 b21 .long (4 : Int32) (fun k => if k = ((3 : Int32)).toNatClampNeg then (.long vd) else (fun k => if k = ((2 : Int32)).toNatClampNeg then (.long vc) else (fun k => if k = ((1 : Int32)).toNatClampNeg then (.long vb) else (fun k => if k = ((0 : Int32)).toNatClampNeg then (.long va) else (fun _ => (.long (0 : Int64))) k) k) k) k) := own_A.set (g := (fun k => if k = ((2 : Int32)).toNatClampNeg then (.long vc) else (fun k => if k = ((1 : Int32)).toNatClampNeg then (.long vb) else (fun k => if k = ((0 : Int32)).toNatClampNeg then (.long va) else (fun _ => (.long (0 : Int64))) k) k) k)) ⟨cl25, Ar25, aS25, aN25, aH25⟩ W25
    have Z25 : n0 ≤ h25.size := by rw [W25.size]; exact Z24
    have K25 := Keep.wr K24 W25 (Or.inr sz_b21)
    have N25 := Fr.snoc X25 N24 ge_b21
    refine own_go st25 ?_
    show own_Gl p.tables e below F (T25.setTop (mkF m 211 #[.val (.int p1), .val (.long q2), .second, .val (.long q3), .second, .val (.long q4), .second, .val (.long q5), .second, .val (.long q6), .second, .val (.long va), .second, .val (.long vb), .second, .val (.long vc), .second, .val (.long vd), .second, .val (.long ve), .second, .val (.int (4 : Int32)), .val (.long (own_max (own_min va vb) (own_min vc vd))), .second, .val (.long (own_min (own_max va vb) (own_max vc vd))), .second, .unset, .unset, .unset] [(.ref b21)]))
    refine own_go (fun _ k => XS.astore X25.here hx rfl (hb hby at_211) rfl rfl (l' := #[.val (.int p1), .val (.long q2), .second, .val (.long q3), .second, .val (.long q4), .second, .val (.long q5), .second, .val (.long q6), .second, .val (.long va), .second, .val (.long vb), .second, .val (.long vc), .second, .val (.long vd), .second, .val (.long ve), .second, .val (.int (4 : Int32)), .val (.long (own_max (own_min va vb) (own_min vc vd))), .second, .val (.long (own_min (own_max va vb) (own_max vc vd))), .second, .val (.ref b21), .unset, .unset]) rfl k) ?_
    show own_Gl p.tables e below F (T25.setTop (mkF m 213 #[.val (.int p1), .val (.long q2), .second, .val (.long q3), .second, .val (.long q4), .second, .val (.long q5), .second, .val (.long q6), .second, .val (.long va), .second, .val (.long vb), .second, .val (.long vc), .second, .val (.long vd), .second, .val (.long ve), .second, .val (.int (4 : Int32)), .val (.long (own_max (own_min va vb) (own_min vc vd))), .second, .val (.long (own_min (own_max va vb) (own_max vc vd))), .second, .val (.ref b21), .unset, .unset] []))
    refine own_go (fun _ k => XS.lload X25.here hx rfl (hb hby at_213) rfl k) ?_
    show own_Gl p.tables e below F (T25.setTop (mkF m 215 #[.val (.int p1), .val (.long q2), .second, .val (.long q3), .second, .val (.long q4), .second, .val (.long q5), .second, .val (.long q6), .second, .val (.long va), .second, .val (.long vb), .second, .val (.long vc), .second, .val (.long vd), .second, .val (.long ve), .second, .val (.int (4 : Int32)), .val (.long (own_max (own_min va vb) (own_min vc vd))), .second, .val (.long (own_min (own_max va vb) (own_max vc vd))), .second, .val (.ref b21), .unset, .unset] [(.long (own_max (own_min va vb) (own_min vc vd)))]))
    refine own_go (fun _ k => XS.lload X25.here hx rfl (hb hby at_215) rfl k) ?_
    show own_Gl p.tables e below F (T25.setTop (mkF m 217 #[.val (.int p1), .val (.long q2), .second, .val (.long q3), .second, .val (.long q4), .second, .val (.long q5), .second, .val (.long q6), .second, .val (.long va), .second, .val (.long vb), .second, .val (.long vc), .second, .val (.long vd), .second, .val (.long ve), .second, .val (.int (4 : Int32)), .val (.long (own_max (own_min va vb) (own_min vc vd))), .second, .val (.long (own_min (own_max va vb) (own_max vc vd))), .second, .val (.ref b21), .unset, .unset] [(.long (own_min (own_max va vb) (own_max vc vd))), (.long (own_max (own_min va vb) (own_min vc vd)))]))
    obtain ⟨_, _, ⟨T26, L26, k26, n26⟩, -, X26, ⟨Lc26, hQ26, ll26, y26, z26⟩, st26⟩ := Jvm.LawKit.callS X25 hx (y := (⟨"com/example/cores_from_twigs/coresfromtwigs/MainMedianMicrosPinLaw", "mean", "(JJ)J"⟩ : MethodName)) hown (mvT hZ (hw _ (List.mem_of_getElem? (i := 19) rfl))) (mvT hZ (hw _ (List.mem_of_getElem? (i := 20) rfl))) (mvT hZ (hw _ (List.mem_of_getElem? (i := 21) rfl))) (mvT hZ (hw _ (List.mem_of_getElem? (i := 22) rfl))) (by decide) (backOf (W := 0) (rm5 l Z a0 hw [] (own_max (own_min va vb) (own_min vc vd)) (own_min (own_max va vb) (own_max vc vd))  h25 n0 Z25 ) hZ (hw _ (List.mem_of_getElem? (i := 22) rfl)) (hw _ (List.mem_of_getElem? (i := 21) rfl)) (by decide) (by decide)) (g := (mkF m 217 #[.val (.int p1), .val (.long q2), .second, .val (.long q3), .second, .val (.long q4), .second, .val (.long q5), .second, .val (.long q6), .second, .val (.long va), .second, .val (.long vb), .second, .val (.long vc), .second, .val (.long vd), .second, .val (.long ve), .second, .val (.int (4 : Int32)), .val (.long (own_max (own_min va vb) (own_min vc vd))), .second, .val (.long (own_min (own_max va vb) (own_max vc vd))), .second, .val (.ref b21), .unset, .unset] [(.long (own_min (own_max va vb) (own_max vc vd))), (.long (own_max (own_min va vb) (own_min vc vd)))])) rfl (by rw [hml]; rfl) (argsL := [(.long (own_max (own_min va vb) (own_min vc vd))), (.long (own_min (own_max va vb) (own_max vc vd)))]) (rest := []) (lenOf pd_0 rfl) rfl (by show 2 * 0 + _ ≤ _; exact Nat.le_of_eq rfl) (hb hby at_217) (fun _ _ => ⟨rfl, e25, (by first | decide | exact Nat.le_of_ble_eq_true rfl), (by first | decide | exact Nat.le_of_ble_eq_true rfl)⟩)
    dsimp only [Pt.U, Pt.locs, Pt.cells, Pt.slots] at X26 ll26 y26 z26 st26 hQ26
    have X26 := own_sn X26 (k' := 1) (n' := 4) y26 z26
    obtain ⟨hv26, N26, e26⟩ := hQ26
    rw [hv26] at st26
    have NF26 := own_fr ll26 N25 N26
    refine own_go st26 ?_
    show own_Gl p.tables e below F (T26.setTop (mkF m 220 #[.val (.int p1), .val (.long q2), .second, .val (.long q3), .second, .val (.long q4), .second, .val (.long q5), .second, .val (.long q6), .second, .val (.long va), .second, .val (.long vb), .second, .val (.long vc), .second, .val (.long vd), .second, .val (.long ve), .second, .val (.int (4 : Int32)), .val (.long (own_max (own_min va vb) (own_min vc vd))), .second, .val (.long (own_min (own_max va vb) (own_max vc vd))), .second, .val (.ref b21), .unset, .unset] [(.long (own_mean (own_max (own_min va vb) (own_min vc vd)) (own_min (own_max va vb) (own_max vc vd))))]))
    refine own_go (fun _ k => XS.lstore X26.here hx rfl (hb hby at_220) rfl (l' := #[.val (.int p1), .val (.long q2), .second, .val (.long q3), .second, .val (.long q4), .second, .val (.long q5), .second, .val (.long q6), .second, .val (.long va), .second, .val (.long vb), .second, .val (.long vc), .second, .val (.long vd), .second, .val (.long ve), .second, .val (.int (4 : Int32)), .val (.long (own_max (own_min va vb) (own_min vc vd))), .second, .val (.long (own_min (own_max va vb) (own_max vc vd))), .second, .val (.ref b21), .val (.long (own_mean (own_max (own_min va vb) (own_min vc vd)) (own_min (own_max va vb) (own_max vc vd)))), .second]) rfl k) ?_
    show own_Gl p.tables e below F (T26.setTop (mkF m 222 #[.val (.int p1), .val (.long q2), .second, .val (.long q3), .second, .val (.long q4), .second, .val (.long q5), .second, .val (.long q6), .second, .val (.long va), .second, .val (.long vb), .second, .val (.long vc), .second, .val (.long vd), .second, .val (.long ve), .second, .val (.int (4 : Int32)), .val (.long (own_max (own_min va vb) (own_min vc vd))), .second, .val (.long (own_min (own_max va vb) (own_max vc vd))), .second, .val (.ref b21), .val (.long (own_mean (own_max (own_min va vb) (own_min vc vd)) (own_min (own_max va vb) (own_max vc vd)))), .second] []))
    refine own_go (fun _ k => XS.goto X26.here hx rfl (pc0 := 222) (pc' := 266) rfl (hb hby at_222) (by decide) (by decide) k) ?_
    show own_Gl p.tables e below F (T26.setTop (mkF m 266 #[.val (.int p1), .val (.long q2), .second, .val (.long q3), .second, .val (.long q4), .second, .val (.long q5), .second, .val (.long q6), .second, .val (.long va), .second, .val (.long vb), .second, .val (.long vc), .second, .val (.long vd), .second, .val (.long ve), .second, .val (.int (4 : Int32)), .val (.long (own_max (own_min va vb) (own_min vc vd))), .second, .val (.long (own_min (own_max va vb) (own_max vc vd))), .second, .val (.ref b21), .val (.long (own_mean (own_max (own_min va vb) (own_min vc vd)) (own_min (own_max va vb) (own_max vc vd)))), .second] []))
    refine own_go (fun _ k => XS.aload X26.here hx rfl (hb hby at_266) rfl rfl k) ?_
    show own_Gl p.tables e below F (T26.setTop (mkF m 268 #[.val (.int p1), .val (.long q2), .second, .val (.long q3), .second, .val (.long q4), .second, .val (.long q5), .second, .val (.long q6), .second, .val (.long va), .second, .val (.long vb), .second, .val (.long vc), .second, .val (.long vd), .second, .val (.long ve), .second, .val (.int (4 : Int32)), .val (.long (own_max (own_min va vb) (own_min vc vd))), .second, .val (.long (own_min (own_max va vb) (own_max vc vd))), .second, .val (.ref b21), .val (.long (own_mean (own_max (own_min va vb) (own_min vc vd)) (own_min (own_max va vb) (own_max vc vd)))), .second] [(.ref b21)]))
    have VL : own_A Z h25 b21 .long (4 : Int32) (own_fl (own_l va vb vc vd ve)) := V25.of (by
      intro j hj
      have hj' : j < 4 := hj
      rcases (by omega : j = 0 ∨ j = 1 ∨ j = 2 ∨ j = 3) with rfl | rfl | rfl | rfl
      all_goals rfl)
    obtain ⟨_, _, ⟨T27, L27, k27, n27⟩, -, X27, ⟨Lc27, hQ27, ll27, y27, z27⟩, st27⟩ := Jvm.LawKit.callS X26 hx (y := (⟨"com/example/cores_from_twigs/coresfromtwigs/Main", "medianMicros", "([J)J"⟩ : MethodName)) hown (mvT hZ (hw _ (List.mem_of_getElem? (i := 10) rfl))) (mvT hZ (hw _ (List.mem_of_getElem? (i := 11) rfl))) (mvT hZ (hw _ (List.mem_of_getElem? (i := 12) rfl))) (mvT hZ (hw _ (List.mem_of_getElem? (i := 13) rfl))) (by decide) (backOf (W := 0) (rmed4 l Z a0 hw [] b21 (own_l va vb vc vd ve) h25 n0 Z25 VL ge_b21) hZ (hw _ (List.mem_of_getElem? (i := 13) rfl)) (hw _ (List.mem_of_getElem? (i := 12) rfl)) (by decide) (by decide)) (g := (mkF m 268 #[.val (.int p1), .val (.long q2), .second, .val (.long q3), .second, .val (.long q4), .second, .val (.long q5), .second, .val (.long q6), .second, .val (.long va), .second, .val (.long vb), .second, .val (.long vc), .second, .val (.long vd), .second, .val (.long ve), .second, .val (.int (4 : Int32)), .val (.long (own_max (own_min va vb) (own_min vc vd))), .second, .val (.long (own_min (own_max va vb) (own_max vc vd))), .second, .val (.ref b21), .val (.long (own_mean (own_max (own_min va vb) (own_min vc vd)) (own_min (own_max va vb) (own_max vc vd)))), .second] [(.ref b21)])) rfl (by rw [hml]; rfl) (argsL := [(.ref b21)]) (rest := []) (lenOf pd_2 rfl) rfl (by show 2 * 0 + _ ≤ _; exact Nat.le_of_eq rfl) (hb hby at_268) (fun _ _ => ⟨rfl, e26, (by first | decide | exact Nat.le_of_ble_eq_true rfl), (by first | decide | exact Nat.le_of_ble_eq_true rfl)⟩)
    dsimp only [Pt.U, Pt.locs, Pt.cells, Pt.slots] at X27 ll27 y27 z27 st27 hQ27
    have X27 := own_sn X27 (k' := 1) (n' := 4) y27 z27
    obtain ⟨m27, l27, rk27, rl27, hv27, N27⟩ := hQ27
    rw [hv27] at st27
    have NF27 := own_fr ll27 NF26 N27
    refine own_go st27 ?_
    show own_Gl p.tables e below F (T27.setTop (mkF m 271 #[.val (.int p1), .val (.long q2), .second, .val (.long q3), .second, .val (.long q4), .second, .val (.long q5), .second, .val (.long q6), .second, .val (.long va), .second, .val (.long vb), .second, .val (.long vc), .second, .val (.long vd), .second, .val (.long ve), .second, .val (.int (4 : Int32)), .val (.long (own_max (own_min va vb) (own_min vc vd))), .second, .val (.long (own_min (own_max va vb) (own_max vc vd))), .second, .val (.ref b21), .val (.long (own_mean (own_max (own_min va vb) (own_min vc vd)) (own_min (own_max va vb) (own_max vc vd)))), .second] [(.long ((l27 + ((m27 - l27) / (2 : Int64))) / (1000 : Int64)))]))
    refine own_go (fun _ k => XS.lload X27.here hx rfl (hb hby at_271) rfl k) ?_
    show own_Gl p.tables e below F (T27.setTop (mkF m 273 #[.val (.int p1), .val (.long q2), .second, .val (.long q3), .second, .val (.long q4), .second, .val (.long q5), .second, .val (.long q6), .second, .val (.long va), .second, .val (.long vb), .second, .val (.long vc), .second, .val (.long vd), .second, .val (.long ve), .second, .val (.int (4 : Int32)), .val (.long (own_max (own_min va vb) (own_min vc vd))), .second, .val (.long (own_min (own_max va vb) (own_max vc vd))), .second, .val (.ref b21), .val (.long (own_mean (own_max (own_min va vb) (own_min vc vd)) (own_min (own_max va vb) (own_max vc vd)))), .second] [(.long (own_mean (own_max (own_min va vb) (own_min vc vd)) (own_min (own_max va vb) (own_max vc vd)))), (.long ((l27 + ((m27 - l27) / (2 : Int64))) / (1000 : Int64)))]))
    refine own_go (fun _ k => X27.ldc2J hx hown (mvT hZ (hw _ (List.mem_of_getElem? (i := 18) rfl))) rfl (hb hby at_273) k) ?_
    show own_Gl p.tables e below F (T27.setTop (mkF m 276 #[.val (.int p1), .val (.long q2), .second, .val (.long q3), .second, .val (.long q4), .second, .val (.long q5), .second, .val (.long q6), .second, .val (.long va), .second, .val (.long vb), .second, .val (.long vc), .second, .val (.long vd), .second, .val (.long ve), .second, .val (.int (4 : Int32)), .val (.long (own_max (own_min va vb) (own_min vc vd))), .second, .val (.long (own_min (own_max va vb) (own_max vc vd))), .second, .val (.ref b21), .val (.long (own_mean (own_max (own_min va vb) (own_min vc vd)) (own_min (own_max va vb) (own_max vc vd)))), .second] [(.long (1000 : Int64)), (.long (own_mean (own_max (own_min va vb) (own_min vc vd)) (own_min (own_max va vb) (own_max vc vd)))), (.long ((l27 + ((m27 - l27) / (2 : Int64))) / (1000 : Int64)))]))
    refine own_go (fun _ k => XS.ldiv X27.here hx rfl (hb hby at_276) rfl (by decide) k) ?_
    show own_Gl p.tables e below F (T27.setTop (mkF m 277 #[.val (.int p1), .val (.long q2), .second, .val (.long q3), .second, .val (.long q4), .second, .val (.long q5), .second, .val (.long q6), .second, .val (.long va), .second, .val (.long vb), .second, .val (.long vc), .second, .val (.long vd), .second, .val (.long ve), .second, .val (.int (4 : Int32)), .val (.long (own_max (own_min va vb) (own_min vc vd))), .second, .val (.long (own_min (own_max va vb) (own_max vc vd))), .second, .val (.ref b21), .val (.long (own_mean (own_max (own_min va vb) (own_min vc vd)) (own_min (own_max va vb) (own_max vc vd)))), .second] [(.long ((own_mean (own_max (own_min va vb) (own_min vc vd)) (own_min (own_max va vb) (own_max vc vd))) / (1000 : Int64))), (.long ((l27 + ((m27 - l27) / (2 : Int64))) / (1000 : Int64)))]))
    refine own_go (fun _ k => XS.lcmp X27.here hx rfl (hb hby at_277) rfl k) ?_
    show own_Gl p.tables e below F (T27.setTop (mkF m 278 #[.val (.int p1), .val (.long q2), .second, .val (.long q3), .second, .val (.long q4), .second, .val (.long q5), .second, .val (.long q6), .second, .val (.long va), .second, .val (.long vb), .second, .val (.long vc), .second, .val (.long vd), .second, .val (.long ve), .second, .val (.int (4 : Int32)), .val (.long (own_max (own_min va vb) (own_min vc vd))), .second, .val (.long (own_min (own_max va vb) (own_max vc vd))), .second, .val (.ref b21), .val (.long (own_mean (own_max (own_min va vb) (own_min vc vd)) (own_min (own_max va vb) (own_max vc vd)))), .second] [(.int (XT.cmpL ((l27 + ((m27 - l27) / (2 : Int64))) / (1000 : Int64)) ((own_mean (own_max (own_min va vb) (own_min vc vd)) (own_min (own_max va vb) (own_max vc vd))) / (1000 : Int64))))]))
    have hEQ : (l27 + ((m27 - l27) / (2 : Int64))) = (own_mean (own_max (own_min va vb) (own_min vc vd)) (own_min (own_max va vb) (own_max vc vd))) := by
      have rk1 : 3 ≤ (decide (va.toInt ≤ m27.toInt)).toNat + (decide (vb.toInt ≤ m27.toInt)).toNat + (decide (vc.toInt ≤ m27.toInt)).toNat + (decide (vd.toInt ≤ m27.toInt)).toNat := by have q := rk27.1; simpa [own_cnt, own_lep, own_l] using q
      have rk2 : 2 ≤ (decide (m27.toInt ≤ va.toInt)).toNat + (decide (m27.toInt ≤ vb.toInt)).toNat + (decide (m27.toInt ≤ vc.toInt)).toNat + (decide (m27.toInt ≤ vd.toInt)).toNat := by have q := rk27.2; simpa [own_cnt, own_gep, own_l] using q
      apply Int64.toInt_inj.mp
      have rl1 : 2 ≤ (decide (va.toInt ≤ l27.toInt)).toNat + (decide (vb.toInt ≤ l27.toInt)).toNat + (decide (vc.toInt ≤ l27.toInt)).toNat + (decide (vd.toInt ≤ l27.toInt)).toNat := by have q := rl27.1; simpa [own_cnt, own_lep, own_l] using q
      have rl2 : 3 ≤ (decide (l27.toInt ≤ va.toInt)).toNat + (decide (l27.toInt ≤ vb.toInt)).toNat + (decide (l27.toInt ≤ vc.toInt)).toNat + (decide (l27.toInt ≤ vd.toInt)).toNat := by have q := rl27.2; simpa [own_cnt, own_gep, own_l] using q
      have u1 := own_four_hi rk1 rk2
      have u2 := own_four_lo rl1 rl2
      have x1 := own_max_i (own_min va vb) (own_min vc vd)
      have x2 := own_min_i (own_max va vb) (own_max vc vd)
      rw [own_min_i, own_min_i] at x1; rw [own_max_i, own_max_i] at x2
      rw [own_half (by omega) (by omega), own_mean_i (by omega) (by omega), x1, x2]; omega
    refine own_go (fun _ k => XS.ifNo X27.here hx rfl (hb hby at_278) rfl (XT.ll_ne_f (congrArg (· / (1000 : Int64)) hEQ)) k) ?_
    show own_Gl p.tables e below F (T27.setTop (mkF m 281 #[.val (.int p1), .val (.long q2), .second, .val (.long q3), .second, .val (.long q4), .second, .val (.long q5), .second, .val (.long q6), .second, .val (.long va), .second, .val (.long vb), .second, .val (.long vc), .second, .val (.long vd), .second, .val (.long ve), .second, .val (.int (4 : Int32)), .val (.long (own_max (own_min va vb) (own_min vc vd))), .second, .val (.long (own_min (own_max va vb) (own_max vc vd))), .second, .val (.ref b21), .val (.long (own_mean (own_max (own_min va vb) (own_min vc vd)) (own_min (own_max va vb) (own_max vc vd)))), .second] []))
    refine own_go (fun _ k => XS.iconst X27.here hx rfl (hb hby at_281) k) ?_
    show own_Gl p.tables e below F (T27.setTop (mkF m 282 #[.val (.int p1), .val (.long q2), .second, .val (.long q3), .second, .val (.long q4), .second, .val (.long q5), .second, .val (.long q6), .second, .val (.long va), .second, .val (.long vb), .second, .val (.long vc), .second, .val (.long vd), .second, .val (.long ve), .second, .val (.int (4 : Int32)), .val (.long (own_max (own_min va vb) (own_min vc vd))), .second, .val (.long (own_min (own_max va vb) (own_max vc vd))), .second, .val (.ref b21), .val (.long (own_mean (own_max (own_min va vb) (own_min vc vd)) (own_min (own_max va vb) (own_max vc vd)))), .second] [(.int (1 : Int32))]))
    refine own_go (fun _ k => XS.goto X27.here hx rfl (pc0 := 282) (pc' := 286) rfl (hb hby at_282) (by decide) (by decide) k) ?_
    show own_Gl p.tables e below F (T27.setTop (mkF m 286 #[.val (.int p1), .val (.long q2), .second, .val (.long q3), .second, .val (.long q4), .second, .val (.long q5), .second, .val (.long q6), .second, .val (.long va), .second, .val (.long vb), .second, .val (.long vc), .second, .val (.long vd), .second, .val (.long ve), .second, .val (.int (4 : Int32)), .val (.long (own_max (own_min va vb) (own_min vc vd))), .second, .val (.long (own_min (own_max va vb) (own_max vc vd))), .second, .val (.ref b21), .val (.long (own_mean (own_max (own_min va vb) (own_min vc vd)) (own_min (own_max va vb) (own_max vc vd)))), .second] [(.int (1 : Int32))]))
    obtain ⟨fs, hr, hrun, hended, hW, hsame⟩ := X27.leave (v := some (.int (1 : Int32))) (fun h => by rw [Bd.returns] at h; cases h)
    subst hF
    refine own_fin ?_ ⟨hrun, hended, _, _, rfl, ?_, ⟨_, rfl⟩, hW, hsame.mono (by first | decide | exact Nat.le_of_ble_eq_true rfl) (by first | decide | exact Nat.le_of_ble_eq_true rfl)⟩
    · exact own_retN X27 hx (t := .boolean) Bd.returns (by simp) rfl (hb hby at_286) hr
    · show Q_rm0 Z _ _ _ _ _ _ h0 n0 _ T27.heap _
      exact ⟨rfl, NF27⟩
  · show own_Gl p.tables e below F (T6.setTop (mkF m 86 #[.val (.int p1), .val (.long q2), .second, .val (.long q3), .second, .val (.long q4), .second, .val (.long q5), .second, .val (.long q6), .second, .val (.long va), .second, .val (.long vb), .second, .val (.long vc), .second, .val (.long vd), .second, .val (.long ve), .second, .val (.int (5 : Int32)), .val (.long (own_max (own_min va vb) (own_min vc vd))), .second, .val (.long (own_min (own_max va vb) (own_max vc vd))), .second, .unset, .unset, .unset] []))
    refine own_go (fun _ k => XS.iload X6.here hx rfl (hb hby at_86) rfl k) ?_
    show own_Gl p.tables e below F (T6.setTop (mkF m 88 #[.val (.int p1), .val (.long q2), .second, .val (.long q3), .second, .val (.long q4), .second, .val (.long q5), .second, .val (.long q6), .second, .val (.long va), .second, .val (.long vb), .second, .val (.long vc), .second, .val (.long vd), .second, .val (.long ve), .second, .val (.int (5 : Int32)), .val (.long (own_max (own_min va vb) (own_min vc vd))), .second, .val (.long (own_min (own_max va vb) (own_max vc vd))), .second, .unset, .unset, .unset] [(.int (5 : Int32))]))
    refine own_go (fun _ k => XS.iconst X6.here hx rfl (hb hby at_88) k) ?_
    show own_Gl p.tables e below F (T6.setTop (mkF m 89 #[.val (.int p1), .val (.long q2), .second, .val (.long q3), .second, .val (.long q4), .second, .val (.long q5), .second, .val (.long q6), .second, .val (.long va), .second, .val (.long vb), .second, .val (.long vc), .second, .val (.long vd), .second, .val (.long ve), .second, .val (.int (5 : Int32)), .val (.long (own_max (own_min va vb) (own_min vc vd))), .second, .val (.long (own_min (own_max va vb) (own_max vc vd))), .second, .unset, .unset, .unset] [(.int (1 : Int32)), (.int (5 : Int32))]))
    refine own_go (fun _ k => XS.icmpYes X6.here hx rfl (pc0 := 89) (pc' := 109) rfl (hb hby at_89) rfl (XT.ii_ne_t (by decide)) (by decide) (by decide) k) ?_
    show own_Gl p.tables e below F (T6.setTop (mkF m 109 #[.val (.int p1), .val (.long q2), .second, .val (.long q3), .second, .val (.long q4), .second, .val (.long q5), .second, .val (.long q6), .second, .val (.long va), .second, .val (.long vb), .second, .val (.long vc), .second, .val (.long vd), .second, .val (.long ve), .second, .val (.int (5 : Int32)), .val (.long (own_max (own_min va vb) (own_min vc vd))), .second, .val (.long (own_min (own_max va vb) (own_max vc vd))), .second, .unset, .unset, .unset] []))
    refine own_go (fun _ k => XS.iload X6.here hx rfl (hb hby at_109) rfl k) ?_
    show own_Gl p.tables e below F (T6.setTop (mkF m 111 #[.val (.int p1), .val (.long q2), .second, .val (.long q3), .second, .val (.long q4), .second, .val (.long q5), .second, .val (.long q6), .second, .val (.long va), .second, .val (.long vb), .second, .val (.long vc), .second, .val (.long vd), .second, .val (.long ve), .second, .val (.int (5 : Int32)), .val (.long (own_max (own_min va vb) (own_min vc vd))), .second, .val (.long (own_min (own_max va vb) (own_max vc vd))), .second, .unset, .unset, .unset] [(.int (5 : Int32))]))
    refine own_go (fun _ k => XS.iconst X6.here hx rfl (hb hby at_111) k) ?_
    show own_Gl p.tables e below F (T6.setTop (mkF m 112 #[.val (.int p1), .val (.long q2), .second, .val (.long q3), .second, .val (.long q4), .second, .val (.long q5), .second, .val (.long q6), .second, .val (.long va), .second, .val (.long vb), .second, .val (.long vc), .second, .val (.long vd), .second, .val (.long ve), .second, .val (.int (5 : Int32)), .val (.long (own_max (own_min va vb) (own_min vc vd))), .second, .val (.long (own_min (own_max va vb) (own_max vc vd))), .second, .unset, .unset, .unset] [(.int (2 : Int32)), (.int (5 : Int32))]))
    refine own_go (fun _ k => XS.icmpYes X6.here hx rfl (pc0 := 112) (pc' := 142) rfl (hb hby at_112) rfl (XT.ii_ne_t (by decide)) (by decide) (by decide) k) ?_
    show own_Gl p.tables e below F (T6.setTop (mkF m 142 #[.val (.int p1), .val (.long q2), .second, .val (.long q3), .second, .val (.long q4), .second, .val (.long q5), .second, .val (.long q6), .second, .val (.long va), .second, .val (.long vb), .second, .val (.long vc), .second, .val (.long vd), .second, .val (.long ve), .second, .val (.int (5 : Int32)), .val (.long (own_max (own_min va vb) (own_min vc vd))), .second, .val (.long (own_min (own_max va vb) (own_max vc vd))), .second, .unset, .unset, .unset] []))
    refine own_go (fun _ k => XS.iload X6.here hx rfl (hb hby at_142) rfl k) ?_
    show own_Gl p.tables e below F (T6.setTop (mkF m 144 #[.val (.int p1), .val (.long q2), .second, .val (.long q3), .second, .val (.long q4), .second, .val (.long q5), .second, .val (.long q6), .second, .val (.long va), .second, .val (.long vb), .second, .val (.long vc), .second, .val (.long vd), .second, .val (.long ve), .second, .val (.int (5 : Int32)), .val (.long (own_max (own_min va vb) (own_min vc vd))), .second, .val (.long (own_min (own_max va vb) (own_max vc vd))), .second, .unset, .unset, .unset] [(.int (5 : Int32))]))
    refine own_go (fun _ k => XS.iconst X6.here hx rfl (hb hby at_144) k) ?_
    show own_Gl p.tables e below F (T6.setTop (mkF m 145 #[.val (.int p1), .val (.long q2), .second, .val (.long q3), .second, .val (.long q4), .second, .val (.long q5), .second, .val (.long q6), .second, .val (.long va), .second, .val (.long vb), .second, .val (.long vc), .second, .val (.long vd), .second, .val (.long ve), .second, .val (.int (5 : Int32)), .val (.long (own_max (own_min va vb) (own_min vc vd))), .second, .val (.long (own_min (own_max va vb) (own_max vc vd))), .second, .unset, .unset, .unset] [(.int (3 : Int32)), (.int (5 : Int32))]))
    refine own_go (fun _ k => XS.icmpYes X6.here hx rfl (pc0 := 145) (pc' := 182) rfl (hb hby at_145) rfl (XT.ii_ne_t (by decide)) (by decide) (by decide) k) ?_
    show own_Gl p.tables e below F (T6.setTop (mkF m 182 #[.val (.int p1), .val (.long q2), .second, .val (.long q3), .second, .val (.long q4), .second, .val (.long q5), .second, .val (.long q6), .second, .val (.long va), .second, .val (.long vb), .second, .val (.long vc), .second, .val (.long vd), .second, .val (.long ve), .second, .val (.int (5 : Int32)), .val (.long (own_max (own_min va vb) (own_min vc vd))), .second, .val (.long (own_min (own_max va vb) (own_max vc vd))), .second, .unset, .unset, .unset] []))
    refine own_go (fun _ k => XS.iload X6.here hx rfl (hb hby at_182) rfl k) ?_
    show own_Gl p.tables e below F (T6.setTop (mkF m 184 #[.val (.int p1), .val (.long q2), .second, .val (.long q3), .second, .val (.long q4), .second, .val (.long q5), .second, .val (.long q6), .second, .val (.long va), .second, .val (.long vb), .second, .val (.long vc), .second, .val (.long vd), .second, .val (.long ve), .second, .val (.int (5 : Int32)), .val (.long (own_max (own_min va vb) (own_min vc vd))), .second, .val (.long (own_min (own_max va vb) (own_max vc vd))), .second, .unset, .unset, .unset] [(.int (5 : Int32))]))
    refine own_go (fun _ k => XS.iconst X6.here hx rfl (hb hby at_184) k) ?_
    show own_Gl p.tables e below F (T6.setTop (mkF m 185 #[.val (.int p1), .val (.long q2), .second, .val (.long q3), .second, .val (.long q4), .second, .val (.long q5), .second, .val (.long q6), .second, .val (.long va), .second, .val (.long vb), .second, .val (.long vc), .second, .val (.long vd), .second, .val (.long ve), .second, .val (.int (5 : Int32)), .val (.long (own_max (own_min va vb) (own_min vc vd))), .second, .val (.long (own_min (own_max va vb) (own_max vc vd))), .second, .unset, .unset, .unset] [(.int (4 : Int32)), (.int (5 : Int32))]))
    refine own_go (fun _ k => XS.icmpYes X6.here hx rfl (pc0 := 185) (pc' := 225) rfl (hb hby at_185) rfl (XT.ii_ne_t (by decide)) (by decide) (by decide) k) ?_
    show own_Gl p.tables e below F (T6.setTop (mkF m 225 #[.val (.int p1), .val (.long q2), .second, .val (.long q3), .second, .val (.long q4), .second, .val (.long q5), .second, .val (.long q6), .second, .val (.long va), .second, .val (.long vb), .second, .val (.long vc), .second, .val (.long vd), .second, .val (.long ve), .second, .val (.int (5 : Int32)), .val (.long (own_max (own_min va vb) (own_min vc vd))), .second, .val (.long (own_min (own_max va vb) (own_max vc vd))), .second, .unset, .unset, .unset] []))
    refine own_go (fun _ k => XS.iconst X6.here hx rfl (hb hby at_225) k) ?_
    show own_Gl p.tables e below F (T6.setTop (mkF m 226 #[.val (.int p1), .val (.long q2), .second, .val (.long q3), .second, .val (.long q4), .second, .val (.long q5), .second, .val (.long q6), .second, .val (.long va), .second, .val (.long vb), .second, .val (.long vc), .second, .val (.long vd), .second, .val (.long ve), .second, .val (.int (5 : Int32)), .val (.long (own_max (own_min va vb) (own_min vc vd))), .second, .val (.long (own_min (own_max va vb) (own_max vc vd))), .second, .unset, .unset, .unset] [(.int (5 : Int32))]))
    obtain ⟨T28, h28, k28, X28, e28, E28, A28, st28⟩ := newP X6 hx hZ (hw _ (List.mem_of_getElem? (i := 9) rfl)) e6 (g := (mkF m 226 #[.val (.int p1), .val (.long q2), .second, .val (.long q3), .second, .val (.long q4), .second, .val (.long q5), .second, .val (.long q6), .second, .val (.long va), .second, .val (.long vb), .second, .val (.long vc), .second, .val (.long vd), .second, .val (.long ve), .second, .val (.int (5 : Int32)), .val (.long (own_max (own_min va vb) (own_min vc vd))), .second, .val (.long (own_min (own_max va vb) (own_max vc vd))), .second, .unset, .unset, .unset] [(.int (5 : Int32))])) rfl (hb hby at_226) rfl (by decide) (cap := 5) (by decide) (by decide) (by decide) (by decide)
    obtain ⟨b28, g28⟩ : ∃ z, z = h0.size := ⟨_, rfl⟩
    rw [← g28] at A28 st28
    have ge_b28 : n0 ≤ b28 := Nat.le_trans Z0 (Nat.le_of_eq g28.symm)
    have sz_b28 : h0.size ≤ b28 := Nat.le_trans ((Keep.refl h0 [])).1 (Nat.le_of_eq g28.symm)
    have Z28 : n0 ≤ h28.size := Nat.le_trans Z0 E28.1
    have K28 := Keep.ext (Keep.refl h0 []) E28
    have V28 : own_A Z h28 b28 .long (5 : Int32) (fun _ => (.long (0 : Int64))) := own_A.new A28 (by decide)
    have X28 : Stand _ _ _ _ _ _ _ _ _ _ _ _ 1 5 := X28
    refine own_go st28 ?_
    show own_Gl p.tables e below F (T28.setTop (mkF m 228 #[.val (.int p1), .val (.long q2), .second, .val (.long q3), .second, .val (.long q4), .second, .val (.long q5), .second, .val (.long q6), .second, .val (.long va), .second, .val (.long vb), .second, .val (.long vc), .second, .val (.long vd), .second, .val (.long ve), .second, .val (.int (5 : Int32)), .val (.long (own_max (own_min va vb) (own_min vc vd))), .second, .val (.long (own_min (own_max va vb) (own_max vc vd))), .second, .unset, .unset, .unset] [(.ref b28)]))
    refine own_go (fun _ k => XS.dup X28.here hx rfl (hb hby at_228) rfl rfl k) ?_
    show own_Gl p.tables e below F (T28.setTop (mkF m 229 #[.val (.int p1), .val (.long q2), .second, .val (.long q3), .second, .val (.long q4), .second, .val (.long q5), .second, .val (.long q6), .second, .val (.long va), .second, .val (.long vb), .second, .val (.long vc), .second, .val (.long vd), .second, .val (.long ve), .second, .val (.int (5 : Int32)), .val (.long (own_max (own_min va vb) (own_min vc vd))), .second, .val (.long (own_min (own_max va vb) (own_max vc vd))), .second, .unset, .unset, .unset] [(.ref b28), (.ref b28)]))
    refine own_go (fun _ k => XS.iconst X28.here hx rfl (hb hby at_229) k) ?_
    show own_Gl p.tables e below F (T28.setTop (mkF m 230 #[.val (.int p1), .val (.long q2), .second, .val (.long q3), .second, .val (.long q4), .second, .val (.long q5), .second, .val (.long q6), .second, .val (.long va), .second, .val (.long vb), .second, .val (.long vc), .second, .val (.long vd), .second, .val (.long ve), .second, .val (.int (5 : Int32)), .val (.long (own_max (own_min va vb) (own_min vc vd))), .second, .val (.long (own_min (own_max va vb) (own_max vc vd))), .second, .unset, .unset, .unset] [(.int (0 : Int32)), (.ref b28), (.ref b28)]))
    refine own_go (fun _ k => XS.lload X28.here hx rfl (hb hby at_230) rfl k) ?_
    show own_Gl p.tables e below F (T28.setTop (mkF m 232 #[.val (.int p1), .val (.long q2), .second, .val (.long q3), .second, .val (.long q4), .second, .val (.long q5), .second, .val (.long q6), .second, .val (.long va), .second, .val (.long vb), .second, .val (.long vc), .second, .val (.long vd), .second, .val (.long ve), .second, .val (.int (5 : Int32)), .val (.long (own_max (own_min va vb) (own_min vc vd))), .second, .val (.long (own_min (own_max va vb) (own_max vc vd))), .second, .unset, .unset, .unset] [(.long va), (.int (0 : Int32)), (.ref b28), (.ref b28)]))
    obtain ⟨cl29, Ar29, aS29, aN29, aH29⟩ := id V28
    have hin29 : ¬ ((0 : Int32) < 0 ∨ cl29.slots.size ≤ ((0 : Int32)).toNatClampNeg) := inb_of aS29 ⟨by decide, by decide⟩
    obtain ⟨T29, h29, X29, e29, W29, st29⟩ := stJ X28 hx hZ e28 Ar29 (j := (0 : Int32)) hin29 (g := (mkF m 232 #[.val (.int p1), .val (.long q2), .second, .val (.long q3), .second, .val (.long q4), .second, .val (.long q5), .second, .val (.long q6), .second, .val (.long va), .second, .val (.long vb), .second, .val (.long vc), .second, .val (.long vd), .second, .val (.long ve), .second, .val (.int (5 : Int32)), .val (.long (own_max (own_min va vb) (own_min vc vd))), .second, .val (.long (own_min (own_max va vb) (own_max vc vd))), .second, .unset, .unset, .unset] [(.long va), (.int (0 : Int32)), (.ref b28), (.ref b28)])) rfl rfl (hb hby at_232)
    have V29 : own_A Z h29 b28 .long (5 : Int32) (fun k => if k = ((0 : Int32)).toNatClampNeg then (.long va) else (fun _ => (.long (0 : Int64))) k) := own_A.set (g := (fun _ => (.long (0 : Int64)))) ⟨cl29, Ar29, aS29, aN29, aH29⟩ W29
    have Z29 : n0 ≤ h29.size := by rw [W29.size]; exact Z28
    have K29 := Keep.wr K28 W29 (Or.inr sz_b28)
    have N29 := Fr.snoc X29 NF6 ge_b28
    refine own_go st29 ?_
    show own_Gl p.tables e below F (T29.setTop (mkF m 233 #[.val (.int p1), .val (.long q2), .second, .val (.long q3), .second, .val (.long q4), .second, .val (.long q5), .second, .val (.long q6), .second, .val (.long va), .second, .val (.long vb), .second, .val (.long vc), .second, .val (.long vd), .second, .val (.long ve), .second, .val (.int (5 : Int32)), .val (.long (own_max (own_min va vb) (own_min vc vd))), .second, .val (.long (own_min (own_max va vb) (own_max vc vd))), .second, .unset, .unset, .unset] [(.ref b28)]))
    refine own_go (fun _ k => XS.dup X29.here hx rfl (hb hby at_233) rfl rfl k) ?_
    show own_Gl p.tables e below F (T29.setTop (mkF m 234 #[.val (.int p1), .val (.long q2), .second, .val (.long q3), .second, .val (.long q4), .second, .val (.long q5), .second, .val (.long q6), .second, .val (.long va), .second, .val (.long vb), .second, .val (.long vc), .second, .val (.long vd), .second, .val (.long ve), .second, .val (.int (5 : Int32)), .val (.long (own_max (own_min va vb) (own_min vc vd))), .second, .val (.long (own_min (own_max va vb) (own_max vc vd))), .second, .unset, .unset, .unset] [(.ref b28), (.ref b28)]))
    refine own_go (fun _ k => XS.iconst X29.here hx rfl (hb hby at_234) k) ?_
    show own_Gl p.tables e below F (T29.setTop (mkF m 235 #[.val (.int p1), .val (.long q2), .second, .val (.long q3), .second, .val (.long q4), .second, .val (.long q5), .second, .val (.long q6), .second, .val (.long va), .second, .val (.long vb), .second, .val (.long vc), .second, .val (.long vd), .second, .val (.long ve), .second, .val (.int (5 : Int32)), .val (.long (own_max (own_min va vb) (own_min vc vd))), .second, .val (.long (own_min (own_max va vb) (own_max vc vd))), .second, .unset, .unset, .unset] [(.int (1 : Int32)), (.ref b28), (.ref b28)]))
    refine own_go (fun _ k => XS.lload X29.here hx rfl (hb hby at_235) rfl k) ?_
    show own_Gl p.tables e below F (T29.setTop (mkF m 237 #[.val (.int p1), .val (.long q2), .second, .val (.long q3), .second, .val (.long q4), .second, .val (.long q5), .second, .val (.long q6), .second, .val (.long va), .second, .val (.long vb), .second, .val (.long vc), .second, .val (.long vd), .second, .val (.long ve), .second, .val (.int (5 : Int32)), .val (.long (own_max (own_min va vb) (own_min vc vd))), .second, .val (.long (own_min (own_max va vb) (own_max vc vd))), .second, .unset, .unset, .unset] [(.long vb), (.int (1 : Int32)), (.ref b28), (.ref b28)]))
    obtain ⟨cl30, Ar30, aS30, aN30, aH30⟩ := id V29
    have hin30 : ¬ ((1 : Int32) < 0 ∨ cl30.slots.size ≤ ((1 : Int32)).toNatClampNeg) := inb_of aS30 ⟨by decide, by decide⟩
    obtain ⟨T30, h30, X30, e30, W30, st30⟩ := stJ X29 hx hZ e29 Ar30 (j := (1 : Int32)) hin30 (g := (mkF m 237 #[.val (.int p1), .val (.long q2), .second, .val (.long q3), .second, .val (.long q4), .second, .val (.long q5), .second, .val (.long q6), .second, .val (.long va), .second, .val (.long vb), .second, .val (.long vc), .second, .val (.long vd), .second, .val (.long ve), .second, .val (.int (5 : Int32)), .val (.long (own_max (own_min va vb) (own_min vc vd))), .second, .val (.long (own_min (own_max va vb) (own_max vc vd))), .second, .unset, .unset, .unset] [(.long vb), (.int (1 : Int32)), (.ref b28), (.ref b28)])) rfl rfl (hb hby at_237)
    have V30 : own_A Z h30 b28 .long (5 : Int32) (fun k => if k = ((1 : Int32)).toNatClampNeg then (.long vb) else (fun k => if k = ((0 : Int32)).toNatClampNeg then (.long va) else (fun _ => (.long (0 : Int64))) k) k) := own_A.set (g := (fun k => if k = ((0 : Int32)).toNatClampNeg then (.long va) else (fun _ => (.long (0 : Int64))) k)) ⟨cl30, Ar30, aS30, aN30, aH30⟩ W30
    have Z30 : n0 ≤ h30.size := by rw [W30.size]; exact Z29
    have K30 := Keep.wr K29 W30 (Or.inr sz_b28)
    have N30 := Fr.snoc X30 N29 ge_b28
    refine own_go st30 ?_
    show own_Gl p.tables e below F (T30.setTop (mkF m 238 #[.val (.int p1), .val (.long q2), .second, .val (.long q3), .second, .val (.long q4), .second, .val (.long q5), .second, .val (.long q6), .second, .val (.long va), .second, .val (.long vb), .second, .val (.long vc), .second, .val (.long vd), .second, .val (.long ve), .second, .val (.int (5 : Int32)), .val (.long (own_max (own_min va vb) (own_min vc vd))), .second, .val (.long (own_min (own_max va vb) (own_max vc vd))), .second, .unset, .unset, .unset] [(.ref b28)]))
    refine own_go (fun _ k => XS.dup X30.here hx rfl (hb hby at_238) rfl rfl k) ?_
    show own_Gl p.tables e below F (T30.setTop (mkF m 239 #[.val (.int p1), .val (.long q2), .second, .val (.long q3), .second, .val (.long q4), .second, .val (.long q5), .second, .val (.long q6), .second, .val (.long va), .second, .val (.long vb), .second, .val (.long vc), .second, .val (.long vd), .second, .val (.long ve), .second, .val (.int (5 : Int32)), .val (.long (own_max (own_min va vb) (own_min vc vd))), .second, .val (.long (own_min (own_max va vb) (own_max vc vd))), .second, .unset, .unset, .unset] [(.ref b28), (.ref b28)]))
    refine own_go (fun _ k => XS.iconst X30.here hx rfl (hb hby at_239) k) ?_
    show own_Gl p.tables e below F (T30.setTop (mkF m 240 #[.val (.int p1), .val (.long q2), .second, .val (.long q3), .second, .val (.long q4), .second, .val (.long q5), .second, .val (.long q6), .second, .val (.long va), .second, .val (.long vb), .second, .val (.long vc), .second, .val (.long vd), .second, .val (.long ve), .second, .val (.int (5 : Int32)), .val (.long (own_max (own_min va vb) (own_min vc vd))), .second, .val (.long (own_min (own_max va vb) (own_max vc vd))), .second, .unset, .unset, .unset] [(.int (2 : Int32)), (.ref b28), (.ref b28)]))
    refine own_go (fun _ k => XS.lload X30.here hx rfl (hb hby at_240) rfl k) ?_
    show own_Gl p.tables e below F (T30.setTop (mkF m 242 #[.val (.int p1), .val (.long q2), .second, .val (.long q3), .second, .val (.long q4), .second, .val (.long q5), .second, .val (.long q6), .second, .val (.long va), .second, .val (.long vb), .second, .val (.long vc), .second, .val (.long vd), .second, .val (.long ve), .second, .val (.int (5 : Int32)), .val (.long (own_max (own_min va vb) (own_min vc vd))), .second, .val (.long (own_min (own_max va vb) (own_max vc vd))), .second, .unset, .unset, .unset] [(.long vc), (.int (2 : Int32)), (.ref b28), (.ref b28)]))
    obtain ⟨cl31, Ar31, aS31, aN31, aH31⟩ := id V30
    have hin31 : ¬ ((2 : Int32) < 0 ∨ cl31.slots.size ≤ ((2 : Int32)).toNatClampNeg) := inb_of aS31 ⟨by decide, by decide⟩
    obtain ⟨T31, h31, X31, e31, W31, st31⟩ := stJ X30 hx hZ e30 Ar31 (j := (2 : Int32)) hin31 (g := (mkF m 242 #[.val (.int p1), .val (.long q2), .second, .val (.long q3), .second, .val (.long q4), .second, .val (.long q5), .second, .val (.long q6), .second, .val (.long va), .second, .val (.long vb), .second, .val (.long vc), .second, .val (.long vd), .second, .val (.long ve), .second, .val (.int (5 : Int32)), .val (.long (own_max (own_min va vb) (own_min vc vd))), .second, .val (.long (own_min (own_max va vb) (own_max vc vd))), .second, .unset, .unset, .unset] [(.long vc), (.int (2 : Int32)), (.ref b28), (.ref b28)])) rfl rfl (hb hby at_242)
    have V31 : own_A Z h31 b28 .long (5 : Int32) (fun k => if k = ((2 : Int32)).toNatClampNeg then (.long vc) else (fun k => if k = ((1 : Int32)).toNatClampNeg then (.long vb) else (fun k => if k = ((0 : Int32)).toNatClampNeg then (.long va) else (fun _ => (.long (0 : Int64))) k) k) k) := own_A.set (g := (fun k => if k = ((1 : Int32)).toNatClampNeg then (.long vb) else (fun k => if k = ((0 : Int32)).toNatClampNeg then (.long va) else (fun _ => (.long (0 : Int64))) k) k)) ⟨cl31, Ar31, aS31, aN31, aH31⟩ W31
    have Z31 : n0 ≤ h31.size := by rw [W31.size]; exact Z30
    have K31 := Keep.wr K30 W31 (Or.inr sz_b28)
    have N31 := Fr.snoc X31 N30 ge_b28
    refine own_go st31 ?_
    show own_Gl p.tables e below F (T31.setTop (mkF m 243 #[.val (.int p1), .val (.long q2), .second, .val (.long q3), .second, .val (.long q4), .second, .val (.long q5), .second, .val (.long q6), .second, .val (.long va), .second, .val (.long vb), .second, .val (.long vc), .second, .val (.long vd), .second, .val (.long ve), .second, .val (.int (5 : Int32)), .val (.long (own_max (own_min va vb) (own_min vc vd))), .second, .val (.long (own_min (own_max va vb) (own_max vc vd))), .second, .unset, .unset, .unset] [(.ref b28)]))
    refine own_go (fun _ k => XS.dup X31.here hx rfl (hb hby at_243) rfl rfl k) ?_
    show own_Gl p.tables e below F (T31.setTop (mkF m 244 #[.val (.int p1), .val (.long q2), .second, .val (.long q3), .second, .val (.long q4), .second, .val (.long q5), .second, .val (.long q6), .second, .val (.long va), .second, .val (.long vb), .second, .val (.long vc), .second, .val (.long vd), .second, .val (.long ve), .second, .val (.int (5 : Int32)), .val (.long (own_max (own_min va vb) (own_min vc vd))), .second, .val (.long (own_min (own_max va vb) (own_max vc vd))), .second, .unset, .unset, .unset] [(.ref b28), (.ref b28)]))
    refine own_go (fun _ k => XS.iconst X31.here hx rfl (hb hby at_244) k) ?_
    show own_Gl p.tables e below F (T31.setTop (mkF m 245 #[.val (.int p1), .val (.long q2), .second, .val (.long q3), .second, .val (.long q4), .second, .val (.long q5), .second, .val (.long q6), .second, .val (.long va), .second, .val (.long vb), .second, .val (.long vc), .second, .val (.long vd), .second, .val (.long ve), .second, .val (.int (5 : Int32)), .val (.long (own_max (own_min va vb) (own_min vc vd))), .second, .val (.long (own_min (own_max va vb) (own_max vc vd))), .second, .unset, .unset, .unset] [(.int (3 : Int32)), (.ref b28), (.ref b28)]))
    refine own_go (fun _ k => XS.lload X31.here hx rfl (hb hby at_245) rfl k) ?_
    show own_Gl p.tables e below F (T31.setTop (mkF m 247 #[.val (.int p1), .val (.long q2), .second, .val (.long q3), .second, .val (.long q4), .second, .val (.long q5), .second, .val (.long q6), .second, .val (.long va), .second, .val (.long vb), .second, .val (.long vc), .second, .val (.long vd), .second, .val (.long ve), .second, .val (.int (5 : Int32)), .val (.long (own_max (own_min va vb) (own_min vc vd))), .second, .val (.long (own_min (own_max va vb) (own_max vc vd))), .second, .unset, .unset, .unset] [(.long vd), (.int (3 : Int32)), (.ref b28), (.ref b28)]))
    obtain ⟨cl32, Ar32, aS32, aN32, aH32⟩ := id V31
    have hin32 : ¬ ((3 : Int32) < 0 ∨ cl32.slots.size ≤ ((3 : Int32)).toNatClampNeg) := inb_of aS32 ⟨by decide, by decide⟩
    obtain ⟨T32, h32, X32, e32, W32, st32⟩ := stJ X31 hx hZ e31 Ar32 (j := (3 : Int32)) hin32 (g := (mkF m 247 #[.val (.int p1), .val (.long q2), .second, .val (.long q3), .second, .val (.long q4), .second, .val (.long q5), .second, .val (.long q6), .second, .val (.long va), .second, .val (.long vb), .second, .val (.long vc), .second, .val (.long vd), .second, .val (.long ve), .second, .val (.int (5 : Int32)), .val (.long (own_max (own_min va vb) (own_min vc vd))), .second, .val (.long (own_min (own_max va vb) (own_max vc vd))), .second, .unset, .unset, .unset] [(.long vd), (.int (3 : Int32)), (.ref b28), (.ref b28)])) rfl rfl (hb hby at_247)
    have V32 : own_A Z h32 b28 .long (5 : Int32) (fun k => if k = ((3 : Int32)).toNatClampNeg then (.long vd) else (fun k => if k = ((2 : Int32)).toNatClampNeg then (.long vc) else (fun k => if k = ((1 : Int32)).toNatClampNeg then (.long vb) else (fun k => if k = ((0 : Int32)).toNatClampNeg then (.long va) else (fun _ => (.long (0 : Int64))) k) k) k) k) := own_A.set (g := (fun k => if k = ((2 : Int32)).toNatClampNeg then (.long vc) else (fun k => if k = ((1 : Int32)).toNatClampNeg then (.long vb) else (fun k => if k = ((0 : Int32)).toNatClampNeg then (.long va) else (fun _ => (.long (0 : Int64))) k) k) k)) ⟨cl32, Ar32, aS32, aN32, aH32⟩ W32
    have Z32 : n0 ≤ h32.size := by rw [W32.size]; exact Z31
    have K32 := Keep.wr K31 W32 (Or.inr sz_b28)
    have N32 := Fr.snoc X32 N31 ge_b28
    refine own_go st32 ?_
    show own_Gl p.tables e below F (T32.setTop (mkF m 248 #[.val (.int p1), .val (.long q2), .second, .val (.long q3), .second, .val (.long q4), .second, .val (.long q5), .second, .val (.long q6), .second, .val (.long va), .second, .val (.long vb), .second, .val (.long vc), .second, .val (.long vd), .second, .val (.long ve), .second, .val (.int (5 : Int32)), .val (.long (own_max (own_min va vb) (own_min vc vd))), .second, .val (.long (own_min (own_max va vb) (own_max vc vd))), .second, .unset, .unset, .unset] [(.ref b28)]))
    refine own_go (fun _ k => XS.dup X32.here hx rfl (hb hby at_248) rfl rfl k) ?_
    show own_Gl p.tables e below F (T32.setTop (mkF m 249 #[.val (.int p1), .val (.long q2), .second, .val (.long q3), .second, .val (.long q4), .second, .val (.long q5), .second, .val (.long q6), .second, .val (.long va), .second, .val (.long vb), .second, .val (.long vc), .second, .val (.long vd), .second, .val (.long ve), .second, .val (.int (5 : Int32)), .val (.long (own_max (own_min va vb) (own_min vc vd))), .second, .val (.long (own_min (own_max va vb) (own_max vc vd))), .second, .unset, .unset, .unset] [(.ref b28), (.ref b28)]))
    refine own_go (fun _ k => XS.iconst X32.here hx rfl (hb hby at_249) k) ?_
    show own_Gl p.tables e below F (T32.setTop (mkF m 250 #[.val (.int p1), .val (.long q2), .second, .val (.long q3), .second, .val (.long q4), .second, .val (.long q5), .second, .val (.long q6), .second, .val (.long va), .second, .val (.long vb), .second, .val (.long vc), .second, .val (.long vd), .second, .val (.long ve), .second, .val (.int (5 : Int32)), .val (.long (own_max (own_min va vb) (own_min vc vd))), .second, .val (.long (own_min (own_max va vb) (own_max vc vd))), .second, .unset, .unset, .unset] [(.int (4 : Int32)), (.ref b28), (.ref b28)]))
    refine own_go (fun _ k => XS.lload X32.here hx rfl (hb hby at_250) rfl k) ?_
    show own_Gl p.tables e below F (T32.setTop (mkF m 252 #[.val (.int p1), .val (.long q2), .second, .val (.long q3), .second, .val (.long q4), .second, .val (.long q5), .second, .val (.long q6), .second, .val (.long va), .second, .val (.long vb), .second, .val (.long vc), .second, .val (.long vd), .second, .val (.long ve), .second, .val (.int (5 : Int32)), .val (.long (own_max (own_min va vb) (own_min vc vd))), .second, .val (.long (own_min (own_max va vb) (own_max vc vd))), .second, .unset, .unset, .unset] [(.long ve), (.int (4 : Int32)), (.ref b28), (.ref b28)]))
    obtain ⟨cl33, Ar33, aS33, aN33, aH33⟩ := id V32
    have hin33 : ¬ ((4 : Int32) < 0 ∨ cl33.slots.size ≤ ((4 : Int32)).toNatClampNeg) := inb_of aS33 ⟨by decide, by decide⟩
    obtain ⟨T33, h33, X33, e33, W33, st33⟩ := stJ X32 hx hZ e32 Ar33 (j := (4 : Int32)) hin33 (g := (mkF m 252 #[.val (.int p1), .val (.long q2), .second, .val (.long q3), .second, .val (.long q4), .second, .val (.long q5), .second, .val (.long q6), .second, .val (.long va), .second, .val (.long vb), .second, .val (.long vc), .second, .val (.long vd), .second, .val (.long ve), .second, .val (.int (5 : Int32)), .val (.long (own_max (own_min va vb) (own_min vc vd))), .second, .val (.long (own_min (own_max va vb) (own_max vc vd))), .second, .unset, .unset, .unset] [(.long ve), (.int (4 : Int32)), (.ref b28), (.ref b28)])) rfl rfl (hb hby at_252)
    have V33 : own_A Z h33 b28 .long (5 : Int32) (fun k => if k = ((4 : Int32)).toNatClampNeg then (.long ve) else (fun k => if k = ((3 : Int32)).toNatClampNeg then (.long vd) else (fun k => if k = ((2 : Int32)).toNatClampNeg then (.long vc) else (fun k => if k = ((1 : Int32)).toNatClampNeg then (.long vb) else (fun k => if k = ((0 : Int32)).toNatClampNeg then (.long va) else (fun _ => (.long (0 : Int64))) k) k) k) k) k) := own_A.set (g := (fun k => if k = ((3 : Int32)).toNatClampNeg then (.long vd) else (fun k => if k = ((2 : Int32)).toNatClampNeg then (.long vc) else (fun k => if k = ((1 : Int32)).toNatClampNeg then (.long vb) else (fun k => if k = ((0 : Int32)).toNatClampNeg then (.long va) else (fun _ => (.long (0 : Int64))) k) k) k) k)) ⟨cl33, Ar33, aS33, aN33, aH33⟩ W33
    have Z33 : n0 ≤ h33.size := by rw [W33.size]; exact Z32
    have K33 := Keep.wr K32 W33 (Or.inr sz_b28)
    have N33 := Fr.snoc X33 N32 ge_b28
    refine own_go st33 ?_
    show own_Gl p.tables e below F (T33.setTop (mkF m 253 #[.val (.int p1), .val (.long q2), .second, .val (.long q3), .second, .val (.long q4), .second, .val (.long q5), .second, .val (.long q6), .second, .val (.long va), .second, .val (.long vb), .second, .val (.long vc), .second, .val (.long vd), .second, .val (.long ve), .second, .val (.int (5 : Int32)), .val (.long (own_max (own_min va vb) (own_min vc vd))), .second, .val (.long (own_min (own_max va vb) (own_max vc vd))), .second, .unset, .unset, .unset] [(.ref b28)]))
    refine own_go (fun _ k => XS.astore X33.here hx rfl (hb hby at_253) rfl rfl (l' := #[.val (.int p1), .val (.long q2), .second, .val (.long q3), .second, .val (.long q4), .second, .val (.long q5), .second, .val (.long q6), .second, .val (.long va), .second, .val (.long vb), .second, .val (.long vc), .second, .val (.long vd), .second, .val (.long ve), .second, .val (.int (5 : Int32)), .val (.long (own_max (own_min va vb) (own_min vc vd))), .second, .val (.long (own_min (own_max va vb) (own_max vc vd))), .second, .val (.ref b28), .unset, .unset]) rfl k) ?_
    show own_Gl p.tables e below F (T33.setTop (mkF m 255 #[.val (.int p1), .val (.long q2), .second, .val (.long q3), .second, .val (.long q4), .second, .val (.long q5), .second, .val (.long q6), .second, .val (.long va), .second, .val (.long vb), .second, .val (.long vc), .second, .val (.long vd), .second, .val (.long ve), .second, .val (.int (5 : Int32)), .val (.long (own_max (own_min va vb) (own_min vc vd))), .second, .val (.long (own_min (own_max va vb) (own_max vc vd))), .second, .val (.ref b28), .unset, .unset] []))
    refine own_go (fun _ k => XS.lload X33.here hx rfl (hb hby at_255) rfl k) ?_
    show own_Gl p.tables e below F (T33.setTop (mkF m 257 #[.val (.int p1), .val (.long q2), .second, .val (.long q3), .second, .val (.long q4), .second, .val (.long q5), .second, .val (.long q6), .second, .val (.long va), .second, .val (.long vb), .second, .val (.long vc), .second, .val (.long vd), .second, .val (.long ve), .second, .val (.int (5 : Int32)), .val (.long (own_max (own_min va vb) (own_min vc vd))), .second, .val (.long (own_min (own_max va vb) (own_max vc vd))), .second, .val (.ref b28), .unset, .unset] [(.long ve)]))
    refine own_go (fun _ k => XS.lload X33.here hx rfl (hb hby at_257) rfl k) ?_
    show own_Gl p.tables e below F (T33.setTop (mkF m 259 #[.val (.int p1), .val (.long q2), .second, .val (.long q3), .second, .val (.long q4), .second, .val (.long q5), .second, .val (.long q6), .second, .val (.long va), .second, .val (.long vb), .second, .val (.long vc), .second, .val (.long vd), .second, .val (.long ve), .second, .val (.int (5 : Int32)), .val (.long (own_max (own_min va vb) (own_min vc vd))), .second, .val (.long (own_min (own_max va vb) (own_max vc vd))), .second, .val (.ref b28), .unset, .unset] [(.long (own_max (own_min va vb) (own_min vc vd))), (.long ve)]))
    refine own_go (fun _ k => XS.lload X33.here hx rfl (hb hby at_259) rfl k) ?_
    show own_Gl p.tables e below F (T33.setTop (mkF m 261 #[.val (.int p1), .val (.long q2), .second, .val (.long q3), .second, .val (.long q4), .second, .val (.long q5), .second, .val (.long q6), .second, .val (.long va), .second, .val (.long vb), .second, .val (.long vc), .second, .val (.long vd), .second, .val (.long ve), .second, .val (.int (5 : Int32)), .val (.long (own_max (own_min va vb) (own_min vc vd))), .second, .val (.long (own_min (own_max va vb) (own_max vc vd))), .second, .val (.ref b28), .unset, .unset] [(.long (own_min (own_max va vb) (own_max vc vd))), (.long (own_max (own_min va vb) (own_min vc vd))), (.long ve)]))
    obtain ⟨_, _, ⟨T34, L34, k34, n34⟩, -, X34, ⟨Lc34, hQ34, ll34, y34, z34⟩, st34⟩ := Jvm.LawKit.callS X33 hx (y := (⟨"com/example/cores_from_twigs/coresfromtwigs/MainMedianMicrosPinLaw", "med3", "(JJJ)J"⟩ : MethodName)) hown (mvT hZ (hw _ (List.mem_of_getElem? (i := 24) rfl))) (mvT hZ (hw _ (List.mem_of_getElem? (i := 25) rfl))) (mvT hZ (hw _ (List.mem_of_getElem? (i := 21) rfl))) (mvT hZ (hw _ (List.mem_of_getElem? (i := 26) rfl))) (by decide) (backOf (W := 0) (rm6 l Z a0 hw [] ve (own_max (own_min va vb) (own_min vc vd)) (own_min (own_max va vb) (own_max vc vd))  h33 n0 Z33 ) hZ (hw _ (List.mem_of_getElem? (i := 26) rfl)) (hw _ (List.mem_of_getElem? (i := 21) rfl)) (by decide) (by decide)) (g := (mkF m 261 #[.val (.int p1), .val (.long q2), .second, .val (.long q3), .second, .val (.long q4), .second, .val (.long q5), .second, .val (.long q6), .second, .val (.long va), .second, .val (.long vb), .second, .val (.long vc), .second, .val (.long vd), .second, .val (.long ve), .second, .val (.int (5 : Int32)), .val (.long (own_max (own_min va vb) (own_min vc vd))), .second, .val (.long (own_min (own_max va vb) (own_max vc vd))), .second, .val (.ref b28), .unset, .unset] [(.long (own_min (own_max va vb) (own_max vc vd))), (.long (own_max (own_min va vb) (own_min vc vd))), (.long ve)])) rfl (by rw [hml]; rfl) (argsL := [(.long ve), (.long (own_max (own_min va vb) (own_min vc vd))), (.long (own_min (own_max va vb) (own_max vc vd)))]) (rest := []) (lenOf pd_3 rfl) rfl (by show 2 * 0 + _ ≤ _; exact Nat.le_of_eq rfl) (hb hby at_261) (fun _ _ => ⟨rfl, e33, (by first | decide | exact Nat.le_of_ble_eq_true rfl), (by first | decide | exact Nat.le_of_ble_eq_true rfl)⟩)
    dsimp only [Pt.U, Pt.locs, Pt.cells, Pt.slots] at X34 ll34 y34 z34 st34 hQ34
    have X34 := own_sn X34 (k' := 1) (n' := 5) y34 z34
    obtain ⟨hv34, N34, e34⟩ := hQ34
    rw [hv34] at st34
    have NF34 := own_fr ll34 N33 N34
    refine own_go st34 ?_
    show own_Gl p.tables e below F (T34.setTop (mkF m 264 #[.val (.int p1), .val (.long q2), .second, .val (.long q3), .second, .val (.long q4), .second, .val (.long q5), .second, .val (.long q6), .second, .val (.long va), .second, .val (.long vb), .second, .val (.long vc), .second, .val (.long vd), .second, .val (.long ve), .second, .val (.int (5 : Int32)), .val (.long (own_max (own_min va vb) (own_min vc vd))), .second, .val (.long (own_min (own_max va vb) (own_max vc vd))), .second, .val (.ref b28), .unset, .unset] [(.long (own_med3 ve (own_max (own_min va vb) (own_min vc vd)) (own_min (own_max va vb) (own_max vc vd))))]))
    refine own_go (fun _ k => XS.lstore X34.here hx rfl (hb hby at_264) rfl (l' := #[.val (.int p1), .val (.long q2), .second, .val (.long q3), .second, .val (.long q4), .second, .val (.long q5), .second, .val (.long q6), .second, .val (.long va), .second, .val (.long vb), .second, .val (.long vc), .second, .val (.long vd), .second, .val (.long ve), .second, .val (.int (5 : Int32)), .val (.long (own_max (own_min va vb) (own_min vc vd))), .second, .val (.long (own_min (own_max va vb) (own_max vc vd))), .second, .val (.ref b28), .val (.long (own_med3 ve (own_max (own_min va vb) (own_min vc vd)) (own_min (own_max va vb) (own_max vc vd)))), .second]) rfl k) ?_
    show own_Gl p.tables e below F (T34.setTop (mkF m 266 #[.val (.int p1), .val (.long q2), .second, .val (.long q3), .second, .val (.long q4), .second, .val (.long q5), .second, .val (.long q6), .second, .val (.long va), .second, .val (.long vb), .second, .val (.long vc), .second, .val (.long vd), .second, .val (.long ve), .second, .val (.int (5 : Int32)), .val (.long (own_max (own_min va vb) (own_min vc vd))), .second, .val (.long (own_min (own_max va vb) (own_max vc vd))), .second, .val (.ref b28), .val (.long (own_med3 ve (own_max (own_min va vb) (own_min vc vd)) (own_min (own_max va vb) (own_max vc vd)))), .second] []))
    refine own_go (fun _ k => XS.aload X34.here hx rfl (hb hby at_266) rfl rfl k) ?_
    show own_Gl p.tables e below F (T34.setTop (mkF m 268 #[.val (.int p1), .val (.long q2), .second, .val (.long q3), .second, .val (.long q4), .second, .val (.long q5), .second, .val (.long q6), .second, .val (.long va), .second, .val (.long vb), .second, .val (.long vc), .second, .val (.long vd), .second, .val (.long ve), .second, .val (.int (5 : Int32)), .val (.long (own_max (own_min va vb) (own_min vc vd))), .second, .val (.long (own_min (own_max va vb) (own_max vc vd))), .second, .val (.ref b28), .val (.long (own_med3 ve (own_max (own_min va vb) (own_min vc vd)) (own_min (own_max va vb) (own_max vc vd)))), .second] [(.ref b28)]))
    have VL : own_A Z h33 b28 .long (5 : Int32) (own_fl (own_l va vb vc vd ve)) := V33.of (by
      intro j hj
      have hj' : j < 5 := hj
      rcases (by omega : j = 0 ∨ j = 1 ∨ j = 2 ∨ j = 3 ∨ j = 4) with rfl | rfl | rfl | rfl | rfl
      all_goals rfl)
    obtain ⟨_, _, ⟨T35, L35, k35, n35⟩, -, X35, ⟨Lc35, hQ35, ll35, y35, z35⟩, st35⟩ := Jvm.LawKit.callS X34 hx (y := (⟨"com/example/cores_from_twigs/coresfromtwigs/Main", "medianMicros", "([J)J"⟩ : MethodName)) hown (mvT hZ (hw _ (List.mem_of_getElem? (i := 10) rfl))) (mvT hZ (hw _ (List.mem_of_getElem? (i := 11) rfl))) (mvT hZ (hw _ (List.mem_of_getElem? (i := 12) rfl))) (mvT hZ (hw _ (List.mem_of_getElem? (i := 13) rfl))) (by decide) (backOf (W := 0) (rmed5 l Z a0 hw [] b28 (own_l va vb vc vd ve) h33 n0 Z33 VL ge_b28) hZ (hw _ (List.mem_of_getElem? (i := 13) rfl)) (hw _ (List.mem_of_getElem? (i := 12) rfl)) (by decide) (by decide)) (g := (mkF m 268 #[.val (.int p1), .val (.long q2), .second, .val (.long q3), .second, .val (.long q4), .second, .val (.long q5), .second, .val (.long q6), .second, .val (.long va), .second, .val (.long vb), .second, .val (.long vc), .second, .val (.long vd), .second, .val (.long ve), .second, .val (.int (5 : Int32)), .val (.long (own_max (own_min va vb) (own_min vc vd))), .second, .val (.long (own_min (own_max va vb) (own_max vc vd))), .second, .val (.ref b28), .val (.long (own_med3 ve (own_max (own_min va vb) (own_min vc vd)) (own_min (own_max va vb) (own_max vc vd)))), .second] [(.ref b28)])) rfl (by rw [hml]; rfl) (argsL := [(.ref b28)]) (rest := []) (lenOf pd_2 rfl) rfl (by show 2 * 0 + _ ≤ _; exact Nat.le_of_eq rfl) (hb hby at_268) (fun _ _ => ⟨rfl, e34, (by first | decide | exact Nat.le_of_ble_eq_true rfl), (by first | decide | exact Nat.le_of_ble_eq_true rfl)⟩)
    dsimp only [Pt.U, Pt.locs, Pt.cells, Pt.slots] at X35 ll35 y35 z35 st35 hQ35
    have X35 := own_sn X35 (k' := 1) (n' := 5) y35 z35
    obtain ⟨m35, rk35, hv35, N35⟩ := hQ35
    rw [hv35] at st35
    have NF35 := own_fr ll35 NF34 N35
    refine own_go st35 ?_
    show own_Gl p.tables e below F (T35.setTop (mkF m 271 #[.val (.int p1), .val (.long q2), .second, .val (.long q3), .second, .val (.long q4), .second, .val (.long q5), .second, .val (.long q6), .second, .val (.long va), .second, .val (.long vb), .second, .val (.long vc), .second, .val (.long vd), .second, .val (.long ve), .second, .val (.int (5 : Int32)), .val (.long (own_max (own_min va vb) (own_min vc vd))), .second, .val (.long (own_min (own_max va vb) (own_max vc vd))), .second, .val (.ref b28), .val (.long (own_med3 ve (own_max (own_min va vb) (own_min vc vd)) (own_min (own_max va vb) (own_max vc vd)))), .second] [(.long (m35 / (1000 : Int64)))]))
    refine own_go (fun _ k => XS.lload X35.here hx rfl (hb hby at_271) rfl k) ?_
    show own_Gl p.tables e below F (T35.setTop (mkF m 273 #[.val (.int p1), .val (.long q2), .second, .val (.long q3), .second, .val (.long q4), .second, .val (.long q5), .second, .val (.long q6), .second, .val (.long va), .second, .val (.long vb), .second, .val (.long vc), .second, .val (.long vd), .second, .val (.long ve), .second, .val (.int (5 : Int32)), .val (.long (own_max (own_min va vb) (own_min vc vd))), .second, .val (.long (own_min (own_max va vb) (own_max vc vd))), .second, .val (.ref b28), .val (.long (own_med3 ve (own_max (own_min va vb) (own_min vc vd)) (own_min (own_max va vb) (own_max vc vd)))), .second] [(.long (own_med3 ve (own_max (own_min va vb) (own_min vc vd)) (own_min (own_max va vb) (own_max vc vd)))), (.long (m35 / (1000 : Int64)))]))
    refine own_go (fun _ k => X35.ldc2J hx hown (mvT hZ (hw _ (List.mem_of_getElem? (i := 18) rfl))) rfl (hb hby at_273) k) ?_
    show own_Gl p.tables e below F (T35.setTop (mkF m 276 #[.val (.int p1), .val (.long q2), .second, .val (.long q3), .second, .val (.long q4), .second, .val (.long q5), .second, .val (.long q6), .second, .val (.long va), .second, .val (.long vb), .second, .val (.long vc), .second, .val (.long vd), .second, .val (.long ve), .second, .val (.int (5 : Int32)), .val (.long (own_max (own_min va vb) (own_min vc vd))), .second, .val (.long (own_min (own_max va vb) (own_max vc vd))), .second, .val (.ref b28), .val (.long (own_med3 ve (own_max (own_min va vb) (own_min vc vd)) (own_min (own_max va vb) (own_max vc vd)))), .second] [(.long (1000 : Int64)), (.long (own_med3 ve (own_max (own_min va vb) (own_min vc vd)) (own_min (own_max va vb) (own_max vc vd)))), (.long (m35 / (1000 : Int64)))]))
    refine own_go (fun _ k => XS.ldiv X35.here hx rfl (hb hby at_276) rfl (by decide) k) ?_
    show own_Gl p.tables e below F (T35.setTop (mkF m 277 #[.val (.int p1), .val (.long q2), .second, .val (.long q3), .second, .val (.long q4), .second, .val (.long q5), .second, .val (.long q6), .second, .val (.long va), .second, .val (.long vb), .second, .val (.long vc), .second, .val (.long vd), .second, .val (.long ve), .second, .val (.int (5 : Int32)), .val (.long (own_max (own_min va vb) (own_min vc vd))), .second, .val (.long (own_min (own_max va vb) (own_max vc vd))), .second, .val (.ref b28), .val (.long (own_med3 ve (own_max (own_min va vb) (own_min vc vd)) (own_min (own_max va vb) (own_max vc vd)))), .second] [(.long ((own_med3 ve (own_max (own_min va vb) (own_min vc vd)) (own_min (own_max va vb) (own_max vc vd))) / (1000 : Int64))), (.long (m35 / (1000 : Int64)))]))
    refine own_go (fun _ k => XS.lcmp X35.here hx rfl (hb hby at_277) rfl k) ?_
    show own_Gl p.tables e below F (T35.setTop (mkF m 278 #[.val (.int p1), .val (.long q2), .second, .val (.long q3), .second, .val (.long q4), .second, .val (.long q5), .second, .val (.long q6), .second, .val (.long va), .second, .val (.long vb), .second, .val (.long vc), .second, .val (.long vd), .second, .val (.long ve), .second, .val (.int (5 : Int32)), .val (.long (own_max (own_min va vb) (own_min vc vd))), .second, .val (.long (own_min (own_max va vb) (own_max vc vd))), .second, .val (.ref b28), .val (.long (own_med3 ve (own_max (own_min va vb) (own_min vc vd)) (own_min (own_max va vb) (own_max vc vd)))), .second] [(.int (XT.cmpL (m35 / (1000 : Int64)) ((own_med3 ve (own_max (own_min va vb) (own_min vc vd)) (own_min (own_max va vb) (own_max vc vd))) / (1000 : Int64))))]))
    have hEQ : m35 = (own_med3 ve (own_max (own_min va vb) (own_min vc vd)) (own_min (own_max va vb) (own_max vc vd))) := by
      have rk1 : 3 ≤ (decide (va.toInt ≤ m35.toInt)).toNat + (decide (vb.toInt ≤ m35.toInt)).toNat + (decide (vc.toInt ≤ m35.toInt)).toNat + (decide (vd.toInt ≤ m35.toInt)).toNat + (decide (ve.toInt ≤ m35.toInt)).toNat := by have q := rk35.1; simpa [own_cnt, own_lep, own_l] using q
      have rk2 : 3 ≤ (decide (m35.toInt ≤ va.toInt)).toNat + (decide (m35.toInt ≤ vb.toInt)).toNat + (decide (m35.toInt ≤ vc.toInt)).toNat + (decide (m35.toInt ≤ vd.toInt)).toNat + (decide (m35.toInt ≤ ve.toInt)).toNat := by have q := rk35.2; simpa [own_cnt, own_gep, own_l] using q
      apply Int64.toInt_inj.mp
      rw [own_five rk1 rk2]; simp only [own_med3, own_max_i, own_min_i]
    refine own_go (fun _ k => XS.ifNo X35.here hx rfl (hb hby at_278) rfl (XT.ll_ne_f (congrArg (· / (1000 : Int64)) hEQ)) k) ?_
    show own_Gl p.tables e below F (T35.setTop (mkF m 281 #[.val (.int p1), .val (.long q2), .second, .val (.long q3), .second, .val (.long q4), .second, .val (.long q5), .second, .val (.long q6), .second, .val (.long va), .second, .val (.long vb), .second, .val (.long vc), .second, .val (.long vd), .second, .val (.long ve), .second, .val (.int (5 : Int32)), .val (.long (own_max (own_min va vb) (own_min vc vd))), .second, .val (.long (own_min (own_max va vb) (own_max vc vd))), .second, .val (.ref b28), .val (.long (own_med3 ve (own_max (own_min va vb) (own_min vc vd)) (own_min (own_max va vb) (own_max vc vd)))), .second] []))
    refine own_go (fun _ k => XS.iconst X35.here hx rfl (hb hby at_281) k) ?_
    show own_Gl p.tables e below F (T35.setTop (mkF m 282 #[.val (.int p1), .val (.long q2), .second, .val (.long q3), .second, .val (.long q4), .second, .val (.long q5), .second, .val (.long q6), .second, .val (.long va), .second, .val (.long vb), .second, .val (.long vc), .second, .val (.long vd), .second, .val (.long ve), .second, .val (.int (5 : Int32)), .val (.long (own_max (own_min va vb) (own_min vc vd))), .second, .val (.long (own_min (own_max va vb) (own_max vc vd))), .second, .val (.ref b28), .val (.long (own_med3 ve (own_max (own_min va vb) (own_min vc vd)) (own_min (own_max va vb) (own_max vc vd)))), .second] [(.int (1 : Int32))]))
    refine own_go (fun _ k => XS.goto X35.here hx rfl (pc0 := 282) (pc' := 286) rfl (hb hby at_282) (by decide) (by decide) k) ?_
    show own_Gl p.tables e below F (T35.setTop (mkF m 286 #[.val (.int p1), .val (.long q2), .second, .val (.long q3), .second, .val (.long q4), .second, .val (.long q5), .second, .val (.long q6), .second, .val (.long va), .second, .val (.long vb), .second, .val (.long vc), .second, .val (.long vd), .second, .val (.long ve), .second, .val (.int (5 : Int32)), .val (.long (own_max (own_min va vb) (own_min vc vd))), .second, .val (.long (own_min (own_max va vb) (own_max vc vd))), .second, .val (.ref b28), .val (.long (own_med3 ve (own_max (own_min va vb) (own_min vc vd)) (own_min (own_max va vb) (own_max vc vd)))), .second] [(.int (1 : Int32))]))
    obtain ⟨fs, hr, hrun, hended, hW, hsame⟩ := X35.leave (v := some (.int (1 : Int32))) (fun h => by rw [Bd.returns] at h; cases h)
    subst hF
    refine own_fin ?_ ⟨hrun, hended, _, _, rfl, ?_, ⟨_, rfl⟩, hW, hsame.mono (by first | decide | exact Nat.le_of_ble_eq_true rfl) (by first | decide | exact Nat.le_of_ble_eq_true rfl)⟩
    · exact own_retN X35 hx (t := .boolean) Bd.returns (by simp) rfl (hb hby at_286) hr
    · show Q_rm0 Z _ _ _ _ _ _ h0 n0 _ T35.heap _
      exact ⟨rfl, NF35⟩
theorem own_args {args : Array Value} (hs : args.size = 6) : ∃ w0 w1 w2 w3 w4 w5 : Value, args = #[w0, w1, w2, w3, w4, w5] := by
  obtain ⟨L⟩ := args
  match L, hs with
  | [w0, w1, w2, w3, w4, w5], _ => exact ⟨w0, w1, w2, w3, w4, w5, rfl⟩
set_option maxRecDepth 65536 in
set_option maxHeartbeats 40000000 in
theorem comes_1 {Post : Tables → Env → Array Value → State → Outcome → State → Prop} (hpost : ∀ tb e args s v u, (limb_1_1.after args s (.returned v) u = true ∧ limb_1_2.after args s (.returned v) u = true ∧ True) → FrameEnd s (.returned v) u (Jvm.fieldLocs frame_1_writes args s ++ Jvm.arrayLocs frame_1_arrays args s ++ Jvm.staticLocs frame_1_statics s) 16 128 → Post tb e args s (.returned v) u) :
    ArmFor flags0 classFile x code maxLocals ret World_1 tables_1 room_1 Calls_1 rest_1 Pre_1 Post := by
  intro l hfl _ _ p e ha hc hk s m args below hf hA hF happ hP
  obtain ⟨hcalls, hrest, hpre⟩ := hP
  obtain ⟨-, -, -, hnamed, -, -, -, hat⟩ := (Spec.applies_iff hf).mp happ
  obtain ⟨hg, hn⟩ := and_e (Cond.before_iff.mp (show (Jvm.Cond.and given_1 narrow_1).before args s = true from hpre))
  obtain ⟨gv1, gv2⟩ := and_e hg
  obtain ⟨gv3, gv4⟩ := and_e gv2
  obtain ⟨gv5, gv6⟩ := and_e gv4
  obtain ⟨gv7, gv8⟩ := and_e gv6
  obtain ⟨gv9, gv10⟩ := and_e gv8
  obtain ⟨gv11, gv12⟩ := and_e gv10
  obtain ⟨w0, w1, w2, w3, w4, w5, rfl⟩ := own_args (args := args) (by simpa [Cond.value, given_1] using gv1)
  have hw := fun d (hd : d ∈ tables_1) => atoms_spec (ws := Jvm.Cond.code x code maxLocals ret :: tables_1) hat d (List.mem_cons_of_mem _ hd)
  have hfit : Fit s := fun {y c} hc i hi => by
    obtain ⟨ha, rfl⟩ := Array.getElem?_eq_some_iff.mp hc
    have q := List.all_eq_true.mp ((Array.all_eq_true_iff_forall_mem.mp hF) _ (Array.getElem_mem ha)) i (List.mem_range.mpr hi)
    simpa [Array.getElem?_eq_getElem hi] using q
  obtain ⟨i0, ei0⟩ := is_v gv3
  obtain rfl : w0 = (.int i0) := Option.some.inj ei0
  obtain ⟨i1, ei1⟩ := isL_v gv5
  obtain rfl : w1 = (.long i1) := Option.some.inj ei1
  obtain ⟨i2, ei2⟩ := isL_v gv7
  obtain rfl : w2 = (.long i2) := Option.some.inj ei2
  obtain ⟨i3, ei3⟩ := isL_v gv9
  obtain rfl : w3 = (.long i3) := Option.some.inj ei3
  obtain ⟨i4, ei4⟩ := isL_v gv11
  obtain rfl : w4 = (.long i4) := Option.some.inj ei4
  obtain ⟨i5, ei5⟩ := isL_v gv12
  obtain rfl : w5 = (.long i5) := Option.some.inj ei5
  obtain ⟨n, o, h1, h2, h3, _, L, rfl, ⟨rfl, N⟩, hq⟩ := rm0 l s _ hw tables_1 i0 i1 i2 i3 i4 i5  s.heap s.heap.size (Nat.le_refl _)  p e ha hc hk s m _ below hf ((Spec.applies_iff_loose hf).mp happ).1 ⟨rfl, State.Warmed39.refl s, rfl⟩ trivial
  refine ⟨n, _, h1, h2, h3, hpost _ _ _ _ _ _ ⟨Cond.after_iff.mpr rfl, Cond.after_iff.mpr (eq_i res_at (Term.int_eval (1)) rfl), trivial⟩ ⟨hq.1, hq.2.1, (hq.2.2.sift fun y hy => Or.inr (N y hy)).mono (by decide) (by decide)⟩⟩
theorem main_1_1 : Claimed_1_1 := comes_1 fun _ _ _ _ _ _ h hF => ⟨h.1, hF⟩
theorem main_1_2 : Claimed_1_2 := comes_1 fun _ _ _ _ _ _ h hF => ⟨h.2.1, hF⟩
end Jvm.Pilot.@@N@@
namespace Jvm.Pilot.@@N@@
open Jvm Jvm.ClassFile Sem Op Lib Jvm.Free Jvm.Stand Jvm.Pilot.@@N@@.Jvm.D
/-! MADE BY PROGRAM (witnessworld.py) out of the Statement's table words and the real class files: 12 classes; the members and pool entries that the words name. The judged class is class 1, her method 3. -/
namespace start1
open Jvm.ClassFile
def u (s : String) : CpInfo := .utf8 (stringToUtf16 s)
/-- a pool by its gaps: so many unusable entries, then the entry; so many at the end -/
def gap : Nat → List CpInfo → List CpInfo
  | 0, r => r
  | n + 1, r => .unusable :: gap n r
def poolList (es : List (Nat × CpInfo)) (last : Nat) : List CpInfo := es.foldr (fun e r => gap e.1 (e.2 :: r)) (gap last [])
def pool (es : List (Nat × CpInfo)) (last : Nat) : Array CpInfo := ⟨poolList es last⟩
def fileOf (pool : Array CpInfo) (this : Nat) (attrs : Array Attribute := #[]) (ms : Array MethodInfo := #[]) (fl : Nat := 33) (sup : Nat := 0) (ifs : Array Nat := #[]) (fds : Array FieldInfo := #[]) : ClassFile where
  minorVersion := 0
  majorVersion := 65
  constantPool := pool
  accessFlags := fl
  thisClass := this
  superClass := sup
  interfaces := ifs
  fields := fds
  methods := ms
  attributes := attrs
def plain (name : String) (sup : Option ClassId) : Class where
  name := name
  kind := .ordinary
  loader := none
  accessFlags := 33
  super := sup
  interfaces := #[]
  cf := none
  fields := #[]
  methods := #[]
  instanceTypes := #[]
  staticTypes := #[]
  resolved := #[]
  callSites := []
  init := .initialized
  statics := none
  mirror := none

def pool0 : Array CpInfo := pool [(5, u "<init>"), (0, u "()V"), (1, .class_ 10), (1, u "java/lang/Object")] 113

def k0m0 : Method := { name := "<init>", desc := "()V", sig := { parameters := [], returnType := none }, accessFlags := 1, code := none }
/-- java/lang/Object -/
def k0 : Class := { plain "java/lang/Object" none with
  accessFlags := 33
  interfaces := #[]
  cf := some (fileOf pool0 8 #[] #[{ accessFlags := 1, nameIndex := 5, descriptorIndex := 6, attributes := #[] }] 33 0 #[] #[])
  fields := #[]
  methods := #[k0m0]
  instanceTypes := #[]
  staticTypes := #[]
  resolved := Array.replicate 124 none
  statics := none }

def pool1 : Array CpInfo := pool [(2, .class_ 4), (1, u "java/lang/Object"), (0, u "<init>"), (0, u "()V"), (0, .methodref 8 9), (0, .class_ 10), (0, .nameAndType 11 12), (0, u "java/lang/Math"), (0, u "min"), (0, u "(JJ)J"), (0, .methodref 8 14), (0, .nameAndType 15 12), (0, u "max"), (2, .long 9223372036854775807), (1, .integer 2147483647), (0, .methodref 22 23), (0, .class_ 24), (0, .nameAndType 25 12), (0, u "com/example/cores_from_twigs/coresfromtwigs/MainMedianMicrosPinLaw"), (0, u "mean"), (0, .methodref 22 27), (0, .nameAndType 28 29), (0, u "med3"), (0, u "(JJJ)J"), (0, .methodref 31 32), (0, .class_ 33), (0, .nameAndType 34 35), (0, u "com/example/cores_from_twigs/coresfromtwigs/Main"), (0, u "medianMicros"), (0, u "([J)J"), (0, .long 1000), (3, u "law"), (0, u "(IJJJJJ)Z")] 5

def k1m0 : Method := { name := "<init>", desc := "()V", sig := { parameters := [], returnType := none }, accessFlags := 2, code := none }
def k1c1 : Code := { maxStack := 6, maxLocals := 4, code := method_2_code, exceptionTable := #[], attributes := #[] }
def k1m1 : Method := { name := "mean", desc := "(JJ)J", sig := { parameters := [.long, .long], returnType := some .long }, accessFlags := 10, code := some k1c1 }
def k1c2 : Code := { maxStack := 6, maxLocals := 6, code := method_3_code, exceptionTable := #[], attributes := #[] }
def k1m2 : Method := { name := "med3", desc := "(JJJ)J", sig := { parameters := [.long, .long, .long], returnType := some .long }, accessFlags := 10, code := some k1c2 }
def k1c3 : Code := { maxStack := 6, maxLocals := 29, code := code, exceptionTable := #[], attributes := #[] }
def k1m3 : Method := { name := "law", desc := "(IJJJJJ)Z", sig := { parameters := [.int, .long, .long, .long, .long, .long], returnType := some .boolean }, accessFlags := 9, code := some k1c3 }
/-- com/example/cores_from_twigs/coresfromtwigs/MainMedianMicrosPinLaw -/
def k1 : Class := { plain "com/example/cores_from_twigs/coresfromtwigs/MainMedianMicrosPinLaw" (some 0) with
  accessFlags := 49
  interfaces := #[]
  cf := some (fileOf pool1 22 #[] #[{ accessFlags := 2, nameIndex := 5, descriptorIndex := 6, attributes := #[] }, { accessFlags := 10, nameIndex := 25, descriptorIndex := 12, attributes := #[] }, { accessFlags := 10, nameIndex := 28, descriptorIndex := 29, attributes := #[] }, { accessFlags := 9, nameIndex := 40, descriptorIndex := 41, attributes := #[] }] 49 2 #[] #[])
  fields := #[]
  methods := #[k1m0, k1m1, k1m2, k1m3]
  instanceTypes := #[]
  staticTypes := #[]
  resolved := Array.replicate 47 none
  statics := none }

def pool2 : Array CpInfo := pool [(1, .class_ 2), (0, u "java/lang/Math"), (1, .class_ 6), (1, u "java/lang/Object"), (0, u "<init>"), (0, u "()V"), (89, .class_ 100), (1, u "java/lang/Math$RandomNumberGeneratorHolder"), (20, u "(JJ)J"), (50, u "negativeZeroFloatBits"), (0, u "J"), (2, u "negativeZeroDoubleBits"), (21, u "max"), (2, u "min"), (43, u "$assertionsDisabled"), (0, u "Z"), (91, u "twoToTheDoubleScaleDown"), (0, u "D"), (4, u "twoToTheDoubleScaleUp"), (9, u "E"), (3, u "PI"), (2, u "TAU"), (2, u "DEGREES_TO_RADIANS"), (0, u "RADIANS_TO_DEGREES")] 94

def k2m0 : Method := { name := "<init>", desc := "()V", sig := { parameters := [], returnType := none }, accessFlags := 2, code := none }
def k2c1 : Code := { maxStack := 4, maxLocals := 4, code := jdk_29_method_66_code, exceptionTable := #[], attributes := #[] }
def k2m1 : Method := { name := "max", desc := "(JJ)J", sig := { parameters := [.long, .long], returnType := some .long }, accessFlags := 9, code := some k2c1 }
def k2c2 : Code := { maxStack := 4, maxLocals := 4, code := jdk_29_method_70_code, exceptionTable := #[], attributes := #[] }
def k2m2 : Method := { name := "min", desc := "(JJ)J", sig := { parameters := [.long, .long], returnType := some .long }, accessFlags := 9, code := some k2c2 }
/-- java/lang/Math -/
def k2 : Class := { plain "java/lang/Math" (some 0) with
  accessFlags := 49
  interfaces := #[]
  cf := some (fileOf pool2 1 #[.nestMembers #[98]] #[{ accessFlags := 2, nameIndex := 7, descriptorIndex := 8, attributes := #[] }, { accessFlags := 9, nameIndex := 198, descriptorIndex := 121, attributes := #[] }, { accessFlags := 9, nameIndex := 201, descriptorIndex := 121, attributes := #[] }] 49 4 #[] #[{ accessFlags := 25, nameIndex := 354, descriptorIndex := 339, attributes := #[] }, { accessFlags := 25, nameIndex := 358, descriptorIndex := 339, attributes := #[] }, { accessFlags := 25, nameIndex := 361, descriptorIndex := 339, attributes := #[] }, { accessFlags := 26, nameIndex := 364, descriptorIndex := 339, attributes := #[] }, { accessFlags := 26, nameIndex := 365, descriptorIndex := 339, attributes := #[] }, { accessFlags := 26, nameIndex := 172, descriptorIndex := 173, attributes := #[] }, { accessFlags := 26, nameIndex := 176, descriptorIndex := 173, attributes := #[] }, { accessFlags := 8, nameIndex := 344, descriptorIndex := 339, attributes := #[] }, { accessFlags := 8, nameIndex := 338, descriptorIndex := 339, attributes := #[] }, { accessFlags := 4120, nameIndex := 245, descriptorIndex := 246, attributes := #[] }])
  fields := #[{ name := "E", type := .double, accessFlags := 25, slot := 0, constantValue := 0 }, { name := "PI", type := .double, accessFlags := 25, slot := 1, constantValue := 0 }, { name := "TAU", type := .double, accessFlags := 25, slot := 2, constantValue := 0 }, { name := "DEGREES_TO_RADIANS", type := .double, accessFlags := 26, slot := 3, constantValue := 0 }, { name := "RADIANS_TO_DEGREES", type := .double, accessFlags := 26, slot := 4, constantValue := 0 }, { name := "negativeZeroFloatBits", type := .long, accessFlags := 26, slot := 5, constantValue := 0 }, { name := "negativeZeroDoubleBits", type := .long, accessFlags := 26, slot := 6, constantValue := 0 }, { name := "twoToTheDoubleScaleUp", type := .double, accessFlags := 8, slot := 7, constantValue := 0 }, { name := "twoToTheDoubleScaleDown", type := .double, accessFlags := 8, slot := 8, constantValue := 0 }, { name := "$assertionsDisabled", type := .boolean, accessFlags := 4120, slot := 9, constantValue := 0 }]
  methods := #[k2m0, k2m1, k2m2]
  instanceTypes := #[]
  staticTypes := #[.double, .double, .double, .double, .double, .long, .long, .double, .double, .boolean]
  resolved := Array.replicate 460 none
  statics := none }

def pool3 : Array CpInfo := pool [(1, .class_ 2), (0, u "com/example/cores_from_twigs/coresfromtwigs/Main"), (1, .class_ 6), (1, u "java/lang/Object"), (0, u "<init>"), (0, u "()V"), (91, .class_ 101), (0, u "com/example/cores_from_twigs/coresfromtwigs/Main$CommandFailure"), (8, .class_ 111), (0, u "com/example/cores_from_twigs/coresfromtwigs/Main$ConstraintSources"), (66, .class_ 180), (1, u "java/lang/Math"), (0, u "max"), (40, .class_ 224), (1, u "com/example/cores_from_twigs/coresfromtwigs/Main$QueryRelation"), (98, .class_ 324), (0, u "com/example/cores_from_twigs/coresfromtwigs/Main$Minimized"), (6, u "Ljava/lang/String;"), (18, u "medianMicros"), (0, u "([J)J"), (3, .methodref 1 356), (0, .nameAndType 357 358), (0, u "selectInPlace"), (0, u "([JI)J"), (0, .methodref 178 360), (0, .nameAndType 181 361), (0, u "(JJ)J"), (0, .long 2), (1, .long 1000), (11, u "I"), (39, u "SUCCESS"), (2, u "LINE_FAILED"), (1, u "NO"), (0, u "MATCHES_NOTHING"), (0, u "INVALID"), (1, u "USAGE_START"), (2, u "DTD_SOURCE"), (2, u "MINE_SOURCE"), (2, u "SOURCES"), (2, u "PRINTED_SOURCES"), (2, u "MINIMIZE_USAGE"), (0, u "COMPARE_USAGE"), (2, u "CONSTRAINTS_USAGE"), (0, u "USAGE"), (2, u "TOO_LARGE"), (2, u "TOO_LARGE_TO_COMPARE"), (0, u "TOO_MANY_RUNS"), (2, u "TOO_MANY_CONSTRAINTS"), (2, u "DTD_TOO_LARGE"), (2, u "DOCUMENTS_TOO_LARGE"), (2, u "OUT_OF_MEMORY"), (0, u "TOO_MANY_PLACEMENTS"), (2, u "PLACEMENTS_TO_MINIMIZE"), (2, u "PLACEMENTS_TO_COMPARE"), (0, u "MOST_REPEATS"), (0, u "REPEAT_TAKES"), (2, u "UNDECODABLE"), (0, u "C")] 75

def k3m0 : Method := { name := "<init>", desc := "()V", sig := { parameters := [], returnType := none }, accessFlags := 2, code := none }
def k3c1 : Code := { maxStack := 6, maxLocals := 7, code := prog_1_method_12_code, exceptionTable := #[], attributes := #[] }
def k3m1 : Method := { name := "medianMicros", desc := "([J)J", sig := { parameters := [(.array .long)], returnType := some .long }, accessFlags := 8, code := some k3c1 }
def k3c2 : Code := { maxStack := 4, maxLocals := 10, code := prog_1_method_13_code, exceptionTable := #[], attributes := #[] }
def k3m2 : Method := { name := "selectInPlace", desc := "([JI)J", sig := { parameters := [(.array .long), .int], returnType := some .long }, accessFlags := 10, code := some k3c2 }
/-- com/example/cores_from_twigs/coresfromtwigs/Main -/
def k3 : Class := { plain "com/example/cores_from_twigs/coresfromtwigs/Main" (some 0) with
  accessFlags := 49
  interfaces := #[]
  cf := some (fileOf pool3 1 #[.nestMembers #[323, 100, 110, 222]] #[{ accessFlags := 2, nameIndex := 7, descriptorIndex := 8, attributes := #[] }, { accessFlags := 8, nameIndex := 350, descriptorIndex := 351, attributes := #[] }, { accessFlags := 10, nameIndex := 357, descriptorIndex := 358, attributes := #[] }] 49 4 #[] #[{ accessFlags := 26, nameIndex := 416, descriptorIndex := 376, attributes := #[] }, { accessFlags := 26, nameIndex := 419, descriptorIndex := 376, attributes := #[] }, { accessFlags := 26, nameIndex := 421, descriptorIndex := 376, attributes := #[] }, { accessFlags := 26, nameIndex := 422, descriptorIndex := 376, attributes := #[] }, { accessFlags := 26, nameIndex := 423, descriptorIndex := 376, attributes := #[] }, { accessFlags := 26, nameIndex := 425, descriptorIndex := 331, attributes := #[] }, { accessFlags := 26, nameIndex := 428, descriptorIndex := 331, attributes := #[] }, { accessFlags := 26, nameIndex := 431, descriptorIndex := 331, attributes := #[] }, { accessFlags := 26, nameIndex := 434, descriptorIndex := 331, attributes := #[] }, { accessFlags := 26, nameIndex := 437, descriptorIndex := 331, attributes := #[] }, { accessFlags := 26, nameIndex := 440, descriptorIndex := 331, attributes := #[] }, { accessFlags := 26, nameIndex := 441, descriptorIndex := 331, attributes := #[] }, { accessFlags := 26, nameIndex := 444, descriptorIndex := 331, attributes := #[] }, { accessFlags := 26, nameIndex := 445, descriptorIndex := 331, attributes := #[] }, { accessFlags := 26, nameIndex := 448, descriptorIndex := 331, attributes := #[] }, { accessFlags := 26, nameIndex := 451, descriptorIndex := 331, attributes := #[] }, { accessFlags := 26, nameIndex := 452, descriptorIndex := 331, attributes := #[] }, { accessFlags := 26, nameIndex := 455, descriptorIndex := 331, attributes := #[] }, { accessFlags := 26, nameIndex := 458, descriptorIndex := 331, attributes := #[] }, { accessFlags := 26, nameIndex := 461, descriptorIndex := 331, attributes := #[] }, { accessFlags := 26, nameIndex := 464, descriptorIndex := 331, attributes := #[] }, { accessFlags := 26, nameIndex := 465, descriptorIndex := 331, attributes := #[] }, { accessFlags := 26, nameIndex := 468, descriptorIndex := 331, attributes := #[] }, { accessFlags := 26, nameIndex := 471, descriptorIndex := 331, attributes := #[] }, { accessFlags := 26, nameIndex := 472, descriptorIndex := 376, attributes := #[] }, { accessFlags := 26, nameIndex := 473, descriptorIndex := 331, attributes := #[] }, { accessFlags := 26, nameIndex := 476, descriptorIndex := 477, attributes := #[] }])
  fields := #[{ name := "SUCCESS", type := .int, accessFlags := 26, slot := 0, constantValue := 0 }, { name := "LINE_FAILED", type := .int, accessFlags := 26, slot := 1, constantValue := 0 }, { name := "NO", type := .int, accessFlags := 26, slot := 2, constantValue := 0 }, { name := "MATCHES_NOTHING", type := .int, accessFlags := 26, slot := 3, constantValue := 0 }, { name := "INVALID", type := .int, accessFlags := 26, slot := 4, constantValue := 0 }, { name := "USAGE_START", type := (.object "java/lang/String"), accessFlags := 26, slot := 5, constantValue := 0 }, { name := "DTD_SOURCE", type := (.object "java/lang/String"), accessFlags := 26, slot := 6, constantValue := 0 }, { name := "MINE_SOURCE", type := (.object "java/lang/String"), accessFlags := 26, slot := 7, constantValue := 0 }, { name := "SOURCES", type := (.object "java/lang/String"), accessFlags := 26, slot := 8, constantValue := 0 }, { name := "PRINTED_SOURCES", type := (.object "java/lang/String"), accessFlags := 26, slot := 9, constantValue := 0 }, { name := "MINIMIZE_USAGE", type := (.object "java/lang/String"), accessFlags := 26, slot := 10, constantValue := 0 }, { name := "COMPARE_USAGE", type := (.object "java/lang/String"), accessFlags := 26, slot := 11, constantValue := 0 }, { name := "CONSTRAINTS_USAGE", type := (.object "java/lang/String"), accessFlags := 26, slot := 12, constantValue := 0 }, { name := "USAGE", type := (.object "java/lang/String"), accessFlags := 26, slot := 13, constantValue := 0 }, { name := "TOO_LARGE", type := (.object "java/lang/String"), accessFlags := 26, slot := 14, constantValue := 0 }, { name := "TOO_LARGE_TO_COMPARE", type := (.object "java/lang/String"), accessFlags := 26, slot := 15, constantValue := 0 }, { name := "TOO_MANY_RUNS", type := (.object "java/lang/String"), accessFlags := 26, slot := 16, constantValue := 0 }, { name := "TOO_MANY_CONSTRAINTS", type := (.object "java/lang/String"), accessFlags := 26, slot := 17, constantValue := 0 }, { name := "DTD_TOO_LARGE", type := (.object "java/lang/String"), accessFlags := 26, slot := 18, constantValue := 0 }, { name := "DOCUMENTS_TOO_LARGE", type := (.object "java/lang/String"), accessFlags := 26, slot := 19, constantValue := 0 }, { name := "OUT_OF_MEMORY", type := (.object "java/lang/String"), accessFlags := 26, slot := 20, constantValue := 0 }, { name := "TOO_MANY_PLACEMENTS", type := (.object "java/lang/String"), accessFlags := 26, slot := 21, constantValue := 0 }, { name := "PLACEMENTS_TO_MINIMIZE", type := (.object "java/lang/String"), accessFlags := 26, slot := 22, constantValue := 0 }, { name := "PLACEMENTS_TO_COMPARE", type := (.object "java/lang/String"), accessFlags := 26, slot := 23, constantValue := 0 }, { name := "MOST_REPEATS", type := .int, accessFlags := 26, slot := 24, constantValue := 0 }, { name := "REPEAT_TAKES", type := (.object "java/lang/String"), accessFlags := 26, slot := 25, constantValue := 0 }, { name := "UNDECODABLE", type := .char, accessFlags := 26, slot := 26, constantValue := 0 }]
  methods := #[k3m0, k3m1, k3m2]
  instanceTypes := #[]
  staticTypes := #[.int, .int, .int, .int, .int, (.object "java/lang/String"), (.object "java/lang/String"), (.object "java/lang/String"), (.object "java/lang/String"), (.object "java/lang/String"), (.object "java/lang/String"), (.object "java/lang/String"), (.object "java/lang/String"), (.object "java/lang/String"), (.object "java/lang/String"), (.object "java/lang/String"), (.object "java/lang/String"), (.object "java/lang/String"), (.object "java/lang/String"), (.object "java/lang/String"), (.object "java/lang/String"), (.object "java/lang/String"), (.object "java/lang/String"), (.object "java/lang/String"), .int, (.object "java/lang/String"), .char]
  resolved := Array.replicate 553 none
  statics := none }

def pool4 : Array CpInfo := pool [(1, u "java/lang/Cloneable"), (0, .class_ 1), (0, u "java/lang/Object"), (0, .class_ 3)] 3

/-- java/lang/Cloneable -/
def k4 : Class := { plain "java/lang/Cloneable" (some 0) with
  accessFlags := 1537
  interfaces := #[]
  cf := some (fileOf pool4 2 #[] #[] 1537 4 #[] #[])
  fields := #[]
  methods := #[]
  instanceTypes := #[]
  staticTypes := #[]
  resolved := Array.replicate 8 none
  statics := none }

def pool5 : Array CpInfo := pool [(1, u "java/io/Serializable"), (0, .class_ 1), (0, u "java/lang/Object"), (0, .class_ 3)] 3

/-- java/io/Serializable -/
def k5 : Class := { plain "java/io/Serializable" (some 0) with
  accessFlags := 1537
  interfaces := #[]
  cf := some (fileOf pool5 2 #[] #[] 1537 4 #[] #[])
  fields := #[]
  methods := #[]
  instanceTypes := #[]
  staticTypes := #[]
  resolved := Array.replicate 8 none
  statics := none }

/-- the primitive byte -/
def k6 : Class := { plain "byte" none with kind := .primitive 'B', accessFlags := 0x411 }
/-- [B -/
def k7 : Class := { plain "[B" (some 0) with kind := .array 6 .byte, interfaces := #[4, 5], accessFlags := 1041 }

/-- the primitive int -/
def k8 : Class := { plain "int" none with kind := .primitive 'I', accessFlags := 0x411 }
/-- [I -/
def k9 : Class := { plain "[I" (some 0) with kind := .array 8 .int, interfaces := #[4, 5], accessFlags := 1041 }

/-- the primitive long -/
def k10 : Class := { plain "long" none with kind := .primitive 'J', accessFlags := 0x411 }
/-- [J -/
def k11 : Class := { plain "[J" (some 0) with kind := .array 10 .long, interfaces := #[4, 5], accessFlags := 1041 }

def heap : Heap := #[]
def classes : Array Class := #[k0, k1, k2, k3, k4, k5, k6, k7, k8, k9, k10, k11]
def interned : List (Array UInt16 × Addr) := []
def slotsUsed : Nat := 0
def theMethod : MethodId := ⟨1, 3⟩
def args0 : Array Value := #[.int 2, .long 5, .long 3, .long 9, .long 7, .long 1]
def aboutOver (below : List Frame) : State where
  vm := { classes := classes, interned := interned.toArray }
  heap := heap
  slotsUsed := slotsUsed
  threads := #[{ frames := .invoking theMethod args0 :: below }]
def below0 : List Frame := [.native { method := ⟨0, 0⟩, args := #[] }]
def about1 : State := aboutOver below0
def p0 : Program := .bare "" "" ""
def e0 : Env := launch0.env 0 0 0
theorem w_frames : about1.frames = Frame.invoking theMethod args0 :: below0 := rfl
set_option maxRecDepth 65536 in
theorem w_args : argsFit about1.vm theMethod args0 = true := by decide +kernel
set_option maxRecDepth 65536 in
theorem w_heap : heapFits about1 = true := by decide +kernel
set_option maxRecDepth 65536 in
theorem w_runnable : about1.curStatus? = some .runnable := by decide +kernel
set_option maxRecDepth 65536 in
theorem w_alone : about1.alone = true := by decide +kernel
set_option maxRecDepth 65536 in
theorem w_named : about1.methodNamed? x = some theMethod := by decide +kernel
set_option maxRecDepth 65536 in
theorem w_hears : about1.hears theMethod below0 = true := by decide +kernel
set_option maxRecDepth 65536 in
theorem w_ripe : about1.ripe theMethod args0 below0 = true := by decide +kernel
theorem w_running : about1.status = .running := rfl
set_option maxRecDepth 65536 in
theorem w_room : about1.hasRoom e0.platform room_1 = true :=
  launch0.hasRoom_least _ room_1 (by decide +kernel) (by decide +kernel) (by decide +kernel) (by decide +kernel) (by decide +kernel) (by decide +kernel)
theorem allAtoms_all (ts : List Jvm.Cond) (a : Array Jvm.Value) (st : Jvm.State) : (allAtoms ts).before a st = ts.all (fun c => c.before a st) := by
  induction ts with
  | nil => rfl
  | cons c t ih =>
    show (Jvm.Cond.and c (allAtoms t)).before a st = _
    rw [Jvm.Cond.before_and, ih, List.all_cons]
def words1 : List Jvm.Cond := Jvm.Cond.code x code maxLocals ret :: tables_1
/-- a 'code' word, met by the world's own term for the bytes: nothing is compared byte by byte -/
theorem code_word {y : MethodName} {bytes : ByteArray} {mx : Nat} {rt : Option FieldType} {a : Array Value} {s : State} {m : MethodId} {meth : Method} {c : Code} (h1 : s.methodNamed? y = some m) (h2 : s.vm.method? m = some meth) (h3 : meth.code = some c) (h4 : c.code = bytes)
    (h5 : (c.maxLocals == mx && c.exceptionTable.isEmpty && decide (c.maxStack ≤ mostOperands) && decide (meth.sig.returnType = rt) && !meth.locks && decide (parseMethodDescriptor y.desc = some meth.sig)) = true) : (Jvm.Cond.code y bytes mx rt).before a s = true := by
  simp only [Bool.and_eq_true, beq_iff_eq, Bool.not_eq_true', decide_eq_true_eq] at h5
  obtain ⟨⟨⟨⟨⟨g1, g2⟩, g3⟩, g4⟩, g5⟩, g6⟩ := h5
  simp [Cond.before, Cond.holds, Cond.value, h1, h2, h3, h4, g1, g2, g3, g4, g5, g6]
def isCode : Jvm.Cond → Bool
  | .code _ _ _ _ => true
  | _ => false
theorem all_split {L : List Jvm.Cond} {P : Jvm.Cond → Bool} (h1 : L.all (fun c => isCode c || P c) = true) (h2 : ∀ c ∈ L.filter isCode, P c = true) : L.all P = true := by
  refine List.all_eq_true.mpr fun c hc => ?_
  have h := List.all_eq_true.mp h1 c hc
  rcases Bool.eq_false_or_eq_true (isCode c) with hi | hi
  · exact h2 c (List.mem_filter.mpr ⟨hc, hi⟩)
  · simpa [hi] using h
set_option maxRecDepth 65536 in
theorem w_c0 : (Jvm.Cond.code x code maxLocals ret).before args0 about1 = true := code_word (m := ⟨1, 3⟩) (meth := k1m3) (c := k1c3) (by decide +kernel) rfl rfl rfl (by decide +kernel)
set_option maxRecDepth 65536 in
theorem w_c1 : (Jvm.Cond.code ({ cls := "java/lang/Math", name := "min", desc := "(JJ)J" } : Jvm.MethodName) jdk_29_method_70_code (4 : Nat) (Option.some Jvm.ClassFile.FieldType.long)).before args0 about1 = true := code_word (m := ⟨2, 2⟩) (meth := k2m2) (c := k2c2) (by decide +kernel) rfl rfl rfl (by decide +kernel)
set_option maxRecDepth 65536 in
theorem w_c2 : (Jvm.Cond.code ({ cls := "java/lang/Math", name := "max", desc := "(JJ)J" } : Jvm.MethodName) jdk_29_method_66_code (4 : Nat) (Option.some Jvm.ClassFile.FieldType.long)).before args0 about1 = true := code_word (m := ⟨2, 1⟩) (meth := k2m1) (c := k2c1) (by decide +kernel) rfl rfl rfl (by decide +kernel)
set_option maxRecDepth 65536 in
theorem w_c3 : (Jvm.Cond.code ({ cls := "com/example/cores_from_twigs/coresfromtwigs/Main", name := "medianMicros", desc := "([J)J" } : Jvm.MethodName) prog_1_method_12_code (7 : Nat) (Option.some Jvm.ClassFile.FieldType.long)).before args0 about1 = true := code_word (m := ⟨3, 1⟩) (meth := k3m1) (c := k3c1) (by decide +kernel) rfl rfl rfl (by decide +kernel)
set_option maxRecDepth 65536 in
theorem w_c4 : (Jvm.Cond.code ({ cls := "com/example/cores_from_twigs/coresfromtwigs/Main", name := "selectInPlace", desc := "([JI)J" } : Jvm.MethodName) prog_1_method_13_code (10 : Nat) (Option.some Jvm.ClassFile.FieldType.long)).before args0 about1 = true := code_word (m := ⟨3, 2⟩) (meth := k3m2) (c := k3c2) (by decide +kernel) rfl rfl rfl (by decide +kernel)
set_option maxRecDepth 65536 in
theorem w_c5 : (Jvm.Cond.code ({ cls := "com/example/cores_from_twigs/coresfromtwigs/MainMedianMicrosPinLaw", name := "mean", desc := "(JJ)J" } : Jvm.MethodName) method_2_code (4 : Nat) (Option.some Jvm.ClassFile.FieldType.long)).before args0 about1 = true := code_word (m := ⟨1, 1⟩) (meth := k1m1) (c := k1c1) (by decide +kernel) rfl rfl rfl (by decide +kernel)
set_option maxRecDepth 65536 in
theorem w_c6 : (Jvm.Cond.code ({ cls := "com/example/cores_from_twigs/coresfromtwigs/MainMedianMicrosPinLaw", name := "med3", desc := "(JJJ)J" } : Jvm.MethodName) method_3_code (6 : Nat) (Option.some Jvm.ClassFile.FieldType.long)).before args0 about1 = true := code_word (m := ⟨1, 2⟩) (meth := k1m2) (c := k1c2) (by decide +kernel) rfl rfl rfl (by decide +kernel)
def codes1 : List Jvm.Cond := [Jvm.Cond.code x code maxLocals ret, Jvm.Cond.code ({ cls := "java/lang/Math", name := "min", desc := "(JJ)J" } : Jvm.MethodName) jdk_29_method_70_code (4 : Nat) (Option.some Jvm.ClassFile.FieldType.long), Jvm.Cond.code ({ cls := "java/lang/Math", name := "max", desc := "(JJ)J" } : Jvm.MethodName) jdk_29_method_66_code (4 : Nat) (Option.some Jvm.ClassFile.FieldType.long), Jvm.Cond.code ({ cls := "com/example/cores_from_twigs/coresfromtwigs/Main", name := "medianMicros", desc := "([J)J" } : Jvm.MethodName) prog_1_method_12_code (7 : Nat) (Option.some Jvm.ClassFile.FieldType.long), Jvm.Cond.code ({ cls := "com/example/cores_from_twigs/coresfromtwigs/Main", name := "selectInPlace", desc := "([JI)J" } : Jvm.MethodName) prog_1_method_13_code (10 : Nat) (Option.some Jvm.ClassFile.FieldType.long), Jvm.Cond.code ({ cls := "com/example/cores_from_twigs/coresfromtwigs/MainMedianMicrosPinLaw", name := "mean", desc := "(JJ)J" } : Jvm.MethodName) method_2_code (4 : Nat) (Option.some Jvm.ClassFile.FieldType.long), Jvm.Cond.code ({ cls := "com/example/cores_from_twigs/coresfromtwigs/MainMedianMicrosPinLaw", name := "med3", desc := "(JJJ)J" } : Jvm.MethodName) method_3_code (6 : Nat) (Option.some Jvm.ClassFile.FieldType.long)]
set_option maxRecDepth 65536 in
theorem codes_eq : words1.filter isCode = codes1 := rfl
theorem w_codes : ∀ c ∈ words1.filter isCode, c.before args0 about1 = true := by
  rw [codes_eq]
  intro c hc
  simp only [codes1, List.mem_cons, List.not_mem_nil, or_false] at hc
  rcases hc with rfl | rfl | rfl | rfl | rfl | rfl | rfl
  · exact w_c0
  · exact w_c1
  · exact w_c2
  · exact w_c3
  · exact w_c4
  · exact w_c5
  · exact w_c6
set_option maxRecDepth 65536 in
theorem w_t1 : (words1.take 24).all (fun c => isCode c || c.before args0 about1) = true := by decide +kernel
set_option maxRecDepth 65536 in
theorem w_t2 : (words1.drop 24).all (fun c => isCode c || c.before args0 about1) = true := by decide +kernel
theorem w_tables : (allAtoms (Jvm.Cond.code x code maxLocals ret :: tables_1)).before args0 about1 = true := by
  rw [allAtoms_all]
  show words1.all (fun c => c.before args0 about1) = true
  refine all_split ?_ w_codes
  rw [← List.take_append_drop 24 words1, List.all_append, w_t1, w_t2]
  rfl
set_option maxRecDepth 65536 in
theorem w_case : (Jvm.Cond.and given_1 narrow_1).before args0 about1 = true := by decide +kernel
theorem w_applies : (headSpec (Jvm.Cond.code x code maxLocals ret :: tables_1) room_1).applies x e0.platform about1 = true :=
  (Spec.applies_iff w_frames).mpr ⟨w_running, w_runnable, w_alone, w_named, w_hears, w_ripe, w_room, w_tables⟩
theorem atStart : AtStart classFile x code maxLocals ret World_1 tables_1 room_1 Calls_1 rest_1 Pre_1 launch0 p0 e0 about1 theMethod args0 below0 :=
  ⟨lists_1, trivial, launch0.admits_env _ _ _, launch0.least_env, fairChoices_fair.cas, fairChoices_fair.clock, w_frames, w_args, w_heap, w_applies, trivial, trivial, w_case⟩
end start1
theorem witness_1 : WitnessClaimed_1 := ⟨start1.p0, start1.e0, start1.about1, start1.theMethod, start1.args0, start1.below0, start1.atStart⟩
end Jvm.Pilot.@@N@@
