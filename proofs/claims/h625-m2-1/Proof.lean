import JvmDerived
import JvmDerived.Pilot.@@N@@Statement
import JvmDerived.Pilot.@@N@@Code
set_option linter.unusedVariables false
set_option linter.unusedSimpArgs false
namespace Jvm.RoadKit
open Sem ClassFile Op Lib Jvm.Stand Jvm.Free Jvm.LawKit
section New
variable {p : Program} {l : Launch} {e : Env} {R : Room} {s : State} {m : MethodId} {args : Array Value} {below : List Frame} {meth : Method} {c : Code} {T : State} {locs : List Loc} {cells slots : Nat}
theorem retI (X : Stand p l e R s m args below meth c T locs cells slots) (hx : p.tables.exec = Jvm.exec) {pc : Nat} {Ls : Array Slot} {z : Int32} {rest : List Value} (hret : meth.sig.returnType = some .int) (hd : decode c.code pc = .ok (.ireturn, 1)) {fs : List Frame}
    (hl : ∀ (f : JFrame) (acts : List Action), f.method = m → f.locked = none → f.entered = [] → (doReturn e (T.setTop f) acts (some (.int z))).1 = T.setFrames fs) : Steps p.tables e below (T.setTop (mkF m pc Ls (.int z :: rest))) (T.setFrames fs) := by
  have hm' : T.vm.method? m = some meth := X.method'
  have hn : narrow .int (.int z) = .int z := rfl
  show Steps p.tables e below (T.setTop { method := m, pc := pc, locals := Ls, stack := _ :: rest, locked := none }) _
  jvm_step X.here [X.here.top, hx, hd, hm', hret, hn]
  first | (intro acts; rw [hl _ acts rfl rfl rfl]) | rw [hl _ _ rfl rfl rfl]
  exact Steps.refl _
theorem own_retJ (X : Stand p l e R s m args below meth c T locs cells slots) (hx : p.tables.exec = Jvm.exec) {pc : Nat} {Ls : Array Slot} {z : Int64} {rest : List Value} (hret : meth.sig.returnType = some .long) (hd : decode c.code pc = .ok (.lreturn, 1)) {fs : List Frame}
    (hl : ∀ (f : JFrame) (acts : List Action), f.method = m → f.locked = none → f.entered = [] → (doReturn e (T.setTop f) acts (some (.long z))).1 = T.setFrames fs) : Steps p.tables e below (T.setTop (mkF m pc Ls (.long z :: rest))) (T.setFrames fs) :=
  retOut X hx hret rfl (Or.inr (Or.inl ⟨rfl, rfl, z, rfl⟩)) hd hl
theorem own_retA (X : Stand p l e R s m args below meth c T locs cells slots) (hx : p.tables.exec = Jvm.exec) {pc : Nat} {Ls : Array Slot} {w : Value} {t : FieldType} {rest : List Value} (hret : meth.sig.returnType = some t) (ht : t.isReference = true) (hw : w.isRef = true) (hd : decode c.code pc = .ok (.areturn, 1)) {fs : List Frame}
    (hl : ∀ (f : JFrame) (acts : List Action), f.method = m → f.locked = none → f.entered = [] → (doReturn e (T.setTop f) acts (some w)).1 = T.setFrames fs) : Steps p.tables e below (T.setTop (mkF m pc Ls (w :: rest))) (T.setFrames fs) :=
  retOut X hx hret (by rcases ref_cases hw with rfl | ⟨a, rfl⟩ <;> cases t <;> first | rfl | (simp [FieldType.isReference] at ht)) (Or.inr (Or.inr (Or.inr (Or.inr ⟨rfl, ht, hw⟩)))) hd hl
theorem own_retN (X : Stand p l e R s m args below meth c T locs cells slots) (hx : p.tables.exec = Jvm.exec) {pc : Nat} {Ls : Array Slot} {z z' : Int32} {t : FieldType} {rest : List Value} (hret : meth.sig.returnType = some t) (ht : t = .boolean ∨ t = .byte ∨ t = .char ∨ t = .short) (hz : nar t z = z')
    (hd : decode c.code pc = .ok (.ireturn, 1)) {fs : List Frame} (hl : ∀ (f : JFrame) (acts : List Action), f.method = m → f.locked = none → f.entered = [] → (doReturn e (T.setTop f) acts (some (.int z'))).1 = T.setFrames fs) :
    Steps p.tables e below (T.setTop (mkF m pc Ls (.int z :: rest))) (T.setFrames fs) := by subst hz; exact retN X hx hret ht hd hl
/-- from a state, some run leads to an end that F takes -/
def own_Gl (tb : Tables) (e : Env) (below : List Frame) (F : State → Outcome → Prop) (st : State) : Prop := ∃ s₂ o, Steps tb e below st s₂ ∧ F s₂ o
theorem own_go {tb : Tables} {F : State → Outcome → Prop} {st st' : State} (h : ∀ t, Steps tb e below st' t → Steps tb e below st t) (g : own_Gl tb e below F st') : own_Gl tb e below F st := by
  obtain ⟨t, o, k, r⟩ := g; exact ⟨t, o, h t k, r⟩
theorem own_fin {tb : Tables} {F : State → Outcome → Prop} {st t : State} {o : Outcome} (h : Steps tb e below st t) (r : F t o) : own_Gl tb e below F st := ⟨t, o, h, r⟩
theorem own_start {tb : Tables} {G : State → Outcome → Prop} {g g' : JFrame} (q : g = g') (k : ∀ F, F = G → own_Gl tb e below F (T.setTop g')) : ∃ s₂ o, Steps tb e below (T.setTop g) s₂ ∧ G s₂ o := by subst q; exact k G rfl
/-- the counts of a stand as plain numbers -/
theorem own_sn {k k' n n' : Nat} {L : List Loc} (X : Stand p l e R s m args below meth c T L k n) (hk : k = k') (hn : n = n') : Stand p l e R s m args below meth c T L k' n' := by subst hk hn; exact X
theorem own_fr {n0 : Nat} {L A B : List Loc} (q : L = A ++ B) (NA : Fr n0 A) (NB : Fr n0 B) : Fr n0 L := by subst q; exact Fr.app NA NB
theorem own_frn {n0 : Nat} {L : List Loc} (q : L = []) : Fr n0 L := by subst q; exact Fr.nil n0
end New
/-- an array of length z whose place j holds g j -/
def own_A (Z : State) (h : Heap) (a : Addr) (ty : FieldType) (z : Int32) (g : Nat → Value) : Prop := ∃ c : Cell, Arr Z h a c ty ∧ c.slots.size = z.toNatClampNeg ∧ ¬ z < 0 ∧ ∀ j, j < c.slots.size → c.slots[j]? = some (g j)
section OwnA
variable {Z : State} {h h' : Heap} {a b : Addr} {ty : FieldType} {z : Int32} {g : Nat → Value} {sl : Nat} {v : Value} {ws : List Addr}
theorem own_A.lt (F : own_A Z h a ty z g) : a < h.size := by obtain ⟨c, A, -⟩ := F; exact A.lt
theorem own_A.ext (F : own_A Z h a ty z g) (E : Ext h h') : own_A Z h' a ty z g := by obtain ⟨c, A, r⟩ := F; exact ⟨c, A.ext E, r⟩
theorem own_A.other (F : own_A Z h b ty z g) (W : Wr h h' a sl v) (q : b ≠ a) : own_A Z h' b ty z g := by obtain ⟨c, A, r⟩ := F; exact ⟨c, A.other W q, r⟩
theorem own_A.keep (F : own_A Z h a ty z g) (K : Keep h h' ws) (q : a ∉ ws) : own_A Z h' a ty z g := by obtain ⟨c, A, r⟩ := F; exact ⟨c, ⟨K.2.1 a c A.1 q, A.2⟩, r⟩
theorem own_A.set (F : own_A Z h a ty z g) {i : Nat} (W : Wr h h' a i v) : own_A Z h' a ty z (fun k => if k = i then v else g k) := by
  obtain ⟨c, A, S, N, H⟩ := F
  refine ⟨_, A.same W, by rw [sz_set]; exact S, N, fun j hj => ?_⟩
  rw [sz_set] at hj
  by_cases u : j = i
  · subst u; simp [Cell.setSlot, hj]
  · show _ = some (if j = i then v else g j)
    rw [if_neg u]; simp only [Cell.setSlot]; rw [Array.getElem?_setIfInBounds_ne (fun q => u q.symm)]; exact H j hj
theorem own_A.new {k : ClassId} (A : Arr Z h a (newA k ty z) ty) (q : ¬ z < 0) : own_A Z h a ty z (fun _ => defaultValue ty) := by
  obtain ⟨c, A', -, S, N, H, -⟩ := Arv.new A q
  exact ⟨c, A', S, N, fun j hj => H j hj⟩
theorem own_A.of (F : own_A Z h a ty z g) {g' : Nat → Value} (q : ∀ j, j < z.toNatClampNeg → g j = g' j) : own_A Z h a ty z g' := by
  obtain ⟨c, A, S, N, H⟩ := F; exact ⟨c, A, S, N, fun j hj => by rw [← q j (S ▸ hj)]; exact H j hj⟩
end OwnA
end Jvm.RoadKit
/- laws to paste: Road.backV (cut by pick.py; bodies as the Statement names them) -/
namespace Jvm.Pilot.@@N@@
namespace StrChars
open Jvm Sem ClassFile Op Lib Jvm.Stand Jvm.Free.XT Jvm.Free.ALB Jvm.Free.JM Jvm.Free
open Jvm.Lib.Cold (StaticIs)
/-- a char array whose places are chars -/
def Ch (a : Addr) (A : Cell) (U : State) : Prop := Arr .char a A U ∧ Typed .char A
theorem Ch.mv {a : Addr} {A : Cell} {U U' : State} (h : Ch a A U) (hal : U.vm.Alike U'.vm) (hh : U'.heap = U.heap) : Ch a A U' := ⟨h.1.mv hal hh, h.2⟩
theorem Ch.keep {a : Addr} {A : Cell} {U U' : State} (h : Ch a A U) (hal : U.vm.Alike U'.vm) (hk : U'.heap[a]? = some A) : Ch a A U' := ⟨h.1.keep hal hk, h.2⟩
/-- what place i of a char[]'s cell holds -/
def cv (A : Cell) (i : Nat) : Int32 := match A.slots[i]? with | some (.int x) => x | _ => 0
theorem Ch.get {a : Addr} {A : Cell} {U : State} (h : Ch a A U) {i : Nat} (hi : i < A.slots.size) : A.slots[i]? = some (.int (cv A i)) := by
  have e := Array.getElem?_eq_getElem hi
  have f := h.2 i _ e
  unfold cv; rw [e]
  generalize A.slots[i] = v at f
  cases v <;> simp [fits] at f ⊢
/-- the byte that i2b leaves of a char -/
def lo8 (x : Int32) : Int32 := x.toInt8.toInt32
theorem fits_lo8 (y : Int32) : fits .byte (.int (lo8 y)) = true := by
  have h1 := y.toInt8.le_toInt
  have h2 := y.toInt8.toInt_lt
  simp only [lo8, fits, Bool.and_eq_true, decide_eq_true_eq, Int32.le_iff_toInt_le, Int8.toInt_toInt32, show (-128 : Int32).toInt = -128 from by decide, show (127 : Int32).toInt = 127 from by decide]
  omega
/-- A' is A but that each place j of lo .. hi - 1 holds f j -/
def Laid (A A' : Cell) (lo hi : Nat) (f : Nat → Value) : Prop := A'.cls = A.cls ∧ A'.vm = A.vm ∧ A'.slots.size = A.slots.size ∧ ∀ i, A'.slots[i]? = if lo ≤ i ∧ i < hi then some (f i) else A.slots[i]?
theorem Laid.zero (A : Cell) (lo : Nat) (f : Nat → Value) : Laid A A lo (lo + 0) f := ⟨rfl, rfl, rfl, fun i => by rw [if_neg (by omega)]⟩
theorem Laid.step {A Ak : Cell} {lo k : Nat} {f : Nat → Value} {v : Value} (h : Laid A Ak lo k f) (hlo : lo ≤ k) (hk : k < Ak.slots.size) (hv : v = f k) : Laid A (Ak.setSlot k v) lo (k + 1) f := by
  refine ⟨h.1, h.2.1, by simpa [Cell.setSlot] using h.2.2.1, fun i => ?_⟩
  by_cases e : k = i
  · subst e; rw [Cell.slots_setSlot_self v hk, if_pos (by omega), hv]
  · rw [Cell.slots_setSlot_ne v e, h.2.2.2 i]
    by_cases q : lo ≤ i ∧ i < k
    · rw [if_pos q, if_pos (by omega)]
    · rw [if_neg q, if_neg (by omega)]
def U16 : String := "java/lang/StringUTF16"
namespace Cmp5
def yN : MethodName := ⟨"java/lang/StringUTF16", "compress", "([CI[BII)I"⟩
abbrev yB : ByteArray := jdk_52_method_21_code
theorem d0 : decode yB 0 = .ok (.iconst 0, 1) := by decide +kernel
theorem d1 : decode yB 1 = .ok (.istore 5, 2) := by decide +kernel
theorem d3 : decode yB 3 = .ok (.iload 5, 2) := by decide +kernel
theorem d5 : decode yB 5 = .ok (.iload 4, 2) := by decide +kernel
theorem d7 : decode yB 7 = .ok (.if_icmp (.ge) 37, 3) := by decide +kernel
theorem d10 : decode yB 10 = .ok (.aload_n 0, 1) := by decide +kernel
theorem d11 : decode yB 11 = .ok (.iload_n 1, 1) := by decide +kernel
theorem d12 : decode yB 12 = .ok (.caload, 1) := by decide +kernel
theorem d13 : decode yB 13 = .ok (.istore 6, 2) := by decide +kernel
theorem d15 : decode yB 15 = .ok (.iload 6, 2) := by decide +kernel
theorem d17 : decode yB 17 = .ok (.sipush 255, 3) := by decide +kernel
theorem d20 : decode yB 20 = .ok (.if_icmp (.le) 6, 3) := by decide +kernel
theorem d26 : decode yB 26 = .ok (.aload_n 2, 1) := by decide +kernel
theorem d27 : decode yB 27 = .ok (.iload_n 3, 1) := by decide +kernel
theorem d28 : decode yB 28 = .ok (.iload 6, 2) := by decide +kernel
theorem d30 : decode yB 30 = .ok (.i2b, 1) := by decide +kernel
theorem d31 : decode yB 31 = .ok (.bastore, 1) := by decide +kernel
theorem d32 : decode yB 32 = .ok (.iinc 1 1, 3) := by decide +kernel
theorem d35 : decode yB 35 = .ok (.iinc 3 1, 3) := by decide +kernel
theorem d38 : decode yB 38 = .ok (.iinc 5 1, 3) := by decide +kernel
theorem d41 : decode yB 41 = .ok (.goto (-38), 3) := by decide +kernel
theorem d44 : decode yB 44 = .ok (.iload 4, 2) := by decide +kernel
theorem d46 : decode yB 46 = .ok (.ireturn, 1) := by decide +kernel
def site : List Cond := []
def tab : Cond := tabOf yN yB 7 (some .int) site
def P (b : Addr) (A : Cell) (d : Addr) (B : Cell) (o q len : Nat) (args : Array Value) (s : State) : Prop := args = #[.ref b, .int (Int32.ofNat o), .ref d, .int (Int32.ofNat q), .int (Int32.ofNat len)] ∧ Ch b A s ∧ Arr .byte d B s ∧ b ≠ d ∧ o + len ≤ A.slots.size ∧ q + len ≤ B.slots.size ∧ ∀ i, i < len → ¬ 255 < cv A (o + i)
def E (b : Addr) (A : Cell) (d : Addr) (B : Cell) (o q len : Nat) (r : Option Value) (s u : State) : Prop := r = some (.int (Int32.ofNat len)) ∧ ∃ B', Put d B' s u ∧ Laid B B' q (q + len) (fun j => Value.int (lo8 (cv A (o + (j - q)))))
/-- no char of the range above 255: len; the places written hold each char's low byte -/
theorem law (l : Launch) (b : Addr) (A : Cell) (d : Addr) (B : Cell) (o q len : Nat) : Law l yN 5 5 0 0 yB 7 (some .int) site (P b A d B o q len) (E b A d B o q len) (copyLocs d q len) 0 0 := by
  refine Law.of_walk (plainFor_of_name (by decide +kernel)) (by decide +kernel) (by decide +kernel) (by decide) (fun _ _ h => by rw [h.1]; rfl) (fun _ U U' hal hh h => ⟨h.1, h.2.1.mv hal hh, h.2.2.1.mv hal hh, h.2.2.2⟩) (fun r U U' V V' h1 hal h2 h => ⟨h.1, h.2.elim fun B' q => ⟨B', q.1.mv h1 h2, q.2⟩⟩) ?_
  intro p e s m args below meth c s₁ X0 hexec hbytes hml hret hlk hnm hown hh0 W hP
  obtain ⟨rfl, hA, hB, hne, l1, l2, hp⟩ := hP
  have c1 : Steps p.tables e below (s₁.setTop (entryFrame m #[.ref b, .int (Int32.ofNat o), .ref d, .int (Int32.ofNat q), .int (Int32.ofNat len)] 7)) (s₁.setTop (mkF m 0 #[.val (.ref b), .val (.int (Int32.ofNat o)), .val (.ref d), .val (.int (Int32.ofNat q)), .val (.int (Int32.ofNat len)), .unset, .unset] [])) := entry rfl
  have hA0 := hA.1.mv X0.warmed.alike hh0
  have hB0 := hB.mv X0.warmed.alike hh0
  have a31 := hA.1.2.2.2
  have c2 : Steps p.tables e below (s₁.setTop (entryFrame m #[.ref b, .int (Int32.ofNat o), .ref d, .int (Int32.ofNat q), .int (Int32.ofNat len)] 7)) (s₁.setTop (mkF m 3 #[.val (.ref b), .val (.int (Int32.ofNat o)), .val (.ref d), .val (.int (Int32.ofNat q)), .val (.int (Int32.ofNat len)), .val (.int 0), .unset] [])) := c1.trans (by
    refine iconstV X0.here hexec rfl 0 (hb hbytes d0) (by decide) ?_
    refine XS.istore X0.here hexec rfl (hb hbytes d1) rfl rfl ?_
    exact Steps.refl _)
  have loop : ∀ (r i : Nat), i + r = len → ∀ (z : Slot), (z = .unset ∨ ∃ w, z = .val w ∧ w.category = 1) → ∀ (Tl : State) (Bk : Cell), Stand p l e { frames := 0, locals := 0, cells := 0, slots := 0 } s m #[.ref b, .int (Int32.ofNat o), .ref d, .int (Int32.ofNat q), .int (Int32.ofNat len)] below meth c Tl ([] ++ copyLocs d q i) 0 0 → Put d Bk s₁ Tl → Laid B Bk q (q + i) (fun j => Value.int (lo8 (cv A (o + (j - q))))) →
      Steps p.tables e below (s₁.setTop (entryFrame m #[.ref b, .int (Int32.ofNat o), .ref d, .int (Int32.ofNat q), .int (Int32.ofNat len)] 7)) (Tl.setTop (mkF m 3 #[.val (.ref b), .val (.int (Int32.ofNat (o + i))), .val (.ref d), .val (.int (Int32.ofNat (q + i))), .val (.int (Int32.ofNat len)), .val (.int (Int32.ofNat i)), z] [])) → ∃ (T' : State) (B' : Cell) (z' : Slot), Stand p l e { frames := 0, locals := 0, cells := 0, slots := 0 } s m #[.ref b, .int (Int32.ofNat o), .ref d, .int (Int32.ofNat q), .int (Int32.ofNat len)] below meth c T' ([] ++ copyLocs d q len) 0 0 ∧ Put d B' s₁ T' ∧ Laid B B' q (q + len) (fun j => Value.int (lo8 (cv A (o + (j - q))))) ∧
      Steps p.tables e below (s₁.setTop (entryFrame m #[.ref b, .int (Int32.ofNat o), .ref d, .int (Int32.ofNat q), .int (Int32.ofNat len)] 7)) (T'.setTop (mkF m 3 #[.val (.ref b), .val (.int (Int32.ofNat (o + len))), .val (.ref d), .val (.int (Int32.ofNat (q + len))), .val (.int (Int32.ofNat len)), .val (.int (Int32.ofNat len)), z'] [])) := by
    intro r
    induction r with
    | zero =>
      intro i hi z hz Tl Bk Xl pl fl cl
      have hil : i = len := by omega
      rw [hil] at Xl fl cl
      exact ⟨Tl, Bk, z, Xl, pl, fl, cl⟩
    | succ r ih =>
      intro i hi z hz Tl Bk Xl pl fl cl
      have all := X0.warmed.alike.symm.trans Xl.warmed.alike
      have hAl := hA0.keep all (pl.other hne hA0.1)
      have hBk := hB0.like all pl.1 fl.1 fl.2.1 fl.2.2.1
      have hlt : q + i < Bk.slots.size := by rw [fl.2.2.1]; omega
      have c3 : Steps p.tables e below (s₁.setTop (entryFrame m #[.ref b, .int (Int32.ofNat o), .ref d, .int (Int32.ofNat q), .int (Int32.ofNat len)] 7)) (Tl.setTop (mkF m 12 #[.val (.ref b), .val (.int (Int32.ofNat (o + i))), .val (.ref d), .val (.int (Int32.ofNat (q + i))), .val (.int (Int32.ofNat len)), .val (.int (Int32.ofNat i)), z] [.int (Int32.ofNat (o + i)), .ref b])) := cl.trans (by
        refine XS.iload Xl.here hexec rfl (hb hbytes d3) rfl ?_
        refine XS.iload Xl.here hexec rfl (hb hbytes d5) rfl ?_
        refine XS.icmpNo Xl.here hexec rfl (hb hbytes d7) rfl (ii_ge_f (lt32 (by omega) (by omega))) ?_
        refine XS.aloadN Xl.here hexec rfl (hb hbytes d10) rfl rfl ?_
        refine XS.iloadN Xl.here hexec rfl (hb hbytes d11) rfl ?_
        exact Steps.refl _)
      have c4 : Steps p.tables e below (s₁.setTop (entryFrame m #[.ref b, .int (Int32.ofNat o), .ref d, .int (Int32.ofNat q), .int (Int32.ofNat len)] 7)) (Tl.setTop (mkF m 13 #[.val (.ref b), .val (.int (Int32.ofNat (o + i))), .val (.ref d), .val (.int (Int32.ofNat (q + i))), .val (.int (Int32.ofNat len)), .val (.int (Int32.ofNat i)), z] [.int (cv A (o + i))])) := c3.trans (by
        refine Xl.aget hexec hAl rfl (hA.get (i := o + i) (by omega)) rfl rfl (hb hbytes d12) ?_
        exact Steps.refl _)
      have c5 : Steps p.tables e below (s₁.setTop (entryFrame m #[.ref b, .int (Int32.ofNat o), .ref d, .int (Int32.ofNat q), .int (Int32.ofNat len)] 7)) (Tl.setTop (mkF m 15 #[.val (.ref b), .val (.int (Int32.ofNat (o + i))), .val (.ref d), .val (.int (Int32.ofNat (q + i))), .val (.int (Int32.ofNat len)), .val (.int (Int32.ofNat i)), .val (.int (cv A (o + i)))] [])) := c4.trans (by
        refine XS.istoreS Xl.here hexec rfl (hb hbytes d13) rfl rfl hz ?_
        exact Steps.refl _)
      have c6 : Steps p.tables e below (s₁.setTop (entryFrame m #[.ref b, .int (Int32.ofNat o), .ref d, .int (Int32.ofNat q), .int (Int32.ofNat len)] 7)) (Tl.setTop (mkF m 31 #[.val (.ref b), .val (.int (Int32.ofNat (o + i))), .val (.ref d), .val (.int (Int32.ofNat (q + i))), .val (.int (Int32.ofNat len)), .val (.int (Int32.ofNat i)), .val (.int (cv A (o + i)))] [.int (lo8 (cv A (o + i))), .int (Int32.ofNat (q + i)), .ref d])) := c5.trans (by
        refine XS.iload Xl.here hexec rfl (hb hbytes d15) rfl ?_
        refine sipushV Xl.here hexec rfl 255 (hb hbytes d17) (by decide) ?_
        refine XS.icmpYes Xl.here hexec rfl (pc0 := 20) rfl (hb hbytes d20) rfl (ii_le_t (hp i (by omega))) (by decide) rfl ?_
        refine XS.aloadN Xl.here hexec rfl (hb hbytes d26) rfl rfl ?_
        refine XS.iloadN Xl.here hexec rfl (hb hbytes d27) rfl ?_
        refine XS.iload Xl.here hexec rfl (hb hbytes d28) rfl ?_
        refine i2b Xl.here hexec rfl (hb hbytes d30) rfl ?_
        exact Steps.refl _)
      obtain ⟨T7, X7, p7, st7⟩ := Xl.aput hexec hBk rfl hlt rfl (fits_lo8 (cv A (o + i))) (g := (mkF m 31 #[.val (.ref b), .val (.int (Int32.ofNat (o + i))), .val (.ref d), .val (.int (Int32.ofNat (q + i))), .val (.int (Int32.ofNat len)), .val (.int (Int32.ofNat i)), .val (.int (cv A (o + i)))] [.int (lo8 (cv A (o + i))), .int (Int32.ofNat (q + i)), .ref d])) rfl (rest := []) rfl (hb hbytes d31)
      have c8 : Steps p.tables e below (s₁.setTop (entryFrame m #[.ref b, .int (Int32.ofNat o), .ref d, .int (Int32.ofNat q), .int (Int32.ofNat len)] 7)) (T7.setTop (mkF m 32 #[.val (.ref b), .val (.int (Int32.ofNat (o + i))), .val (.ref d), .val (.int (Int32.ofNat (q + i))), .val (.int (Int32.ofNat len)), .val (.int (Int32.ofNat i)), .val (.int (cv A (o + i)))] [])) := c6.trans (st7 _ (Steps.refl _))
      have c9 : Steps p.tables e below (s₁.setTop (entryFrame m #[.ref b, .int (Int32.ofNat o), .ref d, .int (Int32.ofNat q), .int (Int32.ofNat len)] 7)) (T7.setTop (mkF m 3 #[.val (.ref b), .val (.int (Int32.ofNat (o + i) + 1)), .val (.ref d), .val (.int (Int32.ofNat (q + i) + 1)), .val (.int (Int32.ofNat len)), .val (.int (Int32.ofNat i + 1)), .val (.int (cv A (o + i)))] [])) := c8.trans (by
        refine iincV X7.here hexec rfl 1 (hb hbytes d32) (by decide) rfl rfl ?_
        refine iincV X7.here hexec rfl 1 (hb hbytes d35) (by decide) rfl rfl ?_
        refine iincV X7.here hexec rfl 1 (hb hbytes d38) (by decide) rfl rfl ?_
        refine XS.goto X7.here hexec rfl (pc0 := 41) rfl (hb hbytes d41) (by decide) rfl ?_
        exact Steps.refl _)
      have c10 : Steps p.tables e below (s₁.setTop (entryFrame m #[.ref b, .int (Int32.ofNat o), .ref d, .int (Int32.ofNat q), .int (Int32.ofNat len)] 7)) (T7.setTop (mkF m 3 #[.val (.ref b), .val (.int (Int32.ofNat (o + (i + 1)))), .val (.ref d), .val (.int (Int32.ofNat (q + (i + 1)))), .val (.int (Int32.ofNat len)), .val (.int (Int32.ofNat (i + 1))), .val (.int (cv A (o + i)))] [])) := by
        have := c9
        rw [succ32, succ32, succ32] at this
        exact this
      exact ih (i + 1) (by omega) _ (Or.inr ⟨_, rfl, rfl⟩) T7 _ (by rw [copyLocs_step, ← List.append_assoc]; exact X7) (pl.trans p7) (fl.step (by omega) hlt (by simp)) c10
  obtain ⟨T9, B9, z9, X9, p9, f9, g9⟩ := loop len 0 (by omega) .unset (Or.inl rfl) s₁ B (by simpa [copyLocs] using X0) ⟨hB0.1, fun _ _ => rfl, rfl⟩ (Laid.zero _ _ _) c2
  have c11 : Steps p.tables e below (s₁.setTop (entryFrame m #[.ref b, .int (Int32.ofNat o), .ref d, .int (Int32.ofNat q), .int (Int32.ofNat len)] 7)) (T9.setTop (mkF m 46 #[.val (.ref b), .val (.int (Int32.ofNat (o + len))), .val (.ref d), .val (.int (Int32.ofNat (q + len))), .val (.int (Int32.ofNat len)), .val (.int (Int32.ofNat len)), z9] [.int (Int32.ofNat len)])) := g9.trans (by
    refine XS.iload X9.here hexec rfl (hb hbytes d3) rfl ?_
    refine XS.iload X9.here hexec rfl (hb hbytes d5) rfl ?_
    refine XS.icmpYes X9.here hexec rfl (pc0 := 7) rfl (hb hbytes d7) rfl (ii_ge_t (nlt32 (by omega) (Nat.le_refl _))) (by decide) rfl ?_
    refine XS.iload X9.here hexec rfl (hb hbytes d44) rfl ?_
    exact Steps.refl _)
  exact ⟨T9, some (.int (Int32.ofNat len)), _, _, _, X9, by simp, rfl, rfl, (fun h => by cases h), ⟨rfl, B9, p9.from hh0, f9⟩, fun fs hl => c11.trans (X9.ireturnOut hexec hret rfl (Or.inl rfl) (hb hbytes d46) hl)⟩
end Cmp5
namespace Cmp3
def yN : MethodName := ⟨"java/lang/StringUTF16", "compress", "([CII)[B"⟩
abbrev yB : ByteArray := jdk_52_method_16_code
theorem d0 : decode yB 0 = .ok (.iload_n 2, 1) := by decide +kernel
theorem d1 : decode yB 1 = .ok (.newarray .byte, 2) := by decide +kernel
theorem d3 : decode yB 3 = .ok (.astore_n 3, 1) := by decide +kernel
theorem d4 : decode yB 4 = .ok (.aload_n 0, 1) := by decide +kernel
theorem d5 : decode yB 5 = .ok (.iload_n 1, 1) := by decide +kernel
theorem d6 : decode yB 6 = .ok (.aload_n 3, 1) := by decide +kernel
theorem d7 : decode yB 7 = .ok (.iconst 0, 1) := by decide +kernel
theorem d8 : decode yB 8 = .ok (.iload_n 2, 1) := by decide +kernel
theorem d9 : decode yB 9 = .ok (.invokestatic 115, 3) := by decide +kernel
theorem d12 : decode yB 12 = .ok (.istore 4, 2) := by decide +kernel
theorem d14 : decode yB 14 = .ok (.iload 4, 2) := by decide +kernel
theorem d16 : decode yB 16 = .ok (.iload_n 2, 1) := by decide +kernel
theorem d17 : decode yB 17 = .ok (.if_icmp (.eq) 40, 3) := by decide +kernel
theorem d57 : decode yB 57 = .ok (.aload_n 3, 1) := by decide +kernel
theorem d58 : decode yB 58 = .ok (.areturn, 1) := by decide +kernel
def site : List Cond := [.arrayClass .byte, Cmp5.tab] ++ staticW U16 115 Cmp5.yN
def tab : Cond := tabOf yN yB 6 (some (.array .byte)) site
def P (b : Addr) (A : Cell) (o len : Nat) (args : Array Value) (s : State) : Prop := args = #[.ref b, .int (Int32.ofNat o), .int (Int32.ofNat len)] ∧ Ch b A s ∧ o + len ≤ A.slots.size ∧ len ≤ 536870912 ∧ ∀ i, i < len → ¬ 255 < cv A (o + i)
def E (b : Addr) (A : Cell) (o len : Nat) (r : Option Value) (s u : State) : Prop := NewArr .byte "[B" len (fun j => .int (lo8 (cv A (o + j)))) r s u ∧ u.heap.size = s.heap.size + 1
/-- no char of the range above 255: a new byte[] of their low bytes -/
theorem law (l : Launch) (b : Addr) (A : Cell) (o len : Nat) : Law l yN 3 3 1 18 yB 6 (some (.array .byte)) site (P b A o len) (E b A o len) [] 1 len := by
  refine Law.of_walk (plainFor_of_name (by decide +kernel)) (by decide +kernel) (by decide +kernel) (by decide) (fun _ _ h => by rw [h.1]; rfl) (fun _ U U' hal hh h => ⟨h.1, h.2.1.mv hal hh, h.2.2⟩) (fun r U U' V V' h1 hal h2 h => ⟨NewArr.mv r U U' V V' h1 hal h2 h.1, by rw [h1, h2]; exact h.2⟩) ?_
  intro p e s m args below meth c s₁ X0 hexec hbytes hml hret hlk hnm hown hh0 W hP
  obtain ⟨rfl, hA, l1, l2, hp⟩ := hP
  have a31 := hA.1.2.2.2
  have c1 : Steps p.tables e below (s₁.setTop (entryFrame m #[.ref b, .int (Int32.ofNat o), .int (Int32.ofNat len)] 6)) (s₁.setTop (mkF m 0 #[.val (.ref b), .val (.int (Int32.ofNat o)), .val (.int (Int32.ofNat len)), .unset, .unset, .unset] [])) := entry rfl
  have c2 : Steps p.tables e below (s₁.setTop (entryFrame m #[.ref b, .int (Int32.ofNat o), .int (Int32.ofNat len)] 6)) (s₁.setTop (mkF m 1 #[.val (.ref b), .val (.int (Int32.ofNat o)), .val (.int (Int32.ofNat len)), .unset, .unset, .unset] [.int (Int32.ofNat len)])) := c1.trans (by
    refine XS.iloadN X0.here hexec rfl (hb hbytes d0) rfl ?_
    exact Steps.refl _)
  obtain ⟨T3, B3, X3, ba3, bs3, bv3, bh3, bf3, st3⟩ := X0.anew hexec (atype := .byte) (wk W (.arrayClass .byte)) rfl (by show len * 1 ≤ _; omega) (by omega) (g := (mkF m 1 #[.val (.ref b), .val (.int (Int32.ofNat o)), .val (.int (Int32.ofNat len)), .unset, .unset, .unset] [.int (Int32.ofNat len)])) rfl (hb hbytes d1) (rest := []) rfl (Nat.le_refl _) (by show 0 + len ≤ len; omega)
  rw [hh0] at ba3 st3
  have kp3 : XT.Kept s T3 := (XT.Kept.of_eq hh0).push bh3
  have hA3 := hA.keep X3.warmed.alike (kp3 _ _ hA.1.1)
  have hne : b ≠ s.heap.size := hA.1.ne
  have c4 : Steps p.tables e below (s₁.setTop (entryFrame m #[.ref b, .int (Int32.ofNat o), .int (Int32.ofNat len)] 6)) (T3.setTop (mkF m 3 #[.val (.ref b), .val (.int (Int32.ofNat o)), .val (.int (Int32.ofNat len)), .unset, .unset, .unset] [.ref s.heap.size])) := c2.trans (st3 _ (Steps.refl _))
  have c5 : Steps p.tables e below (s₁.setTop (entryFrame m #[.ref b, .int (Int32.ofNat o), .int (Int32.ofNat len)] 6)) (T3.setTop (mkF m 9 #[.val (.ref b), .val (.int (Int32.ofNat o)), .val (.int (Int32.ofNat len)), .val (.ref s.heap.size), .unset, .unset] [.int (Int32.ofNat len), .int 0, .ref s.heap.size, .int (Int32.ofNat o), .ref b])) := c4.trans (by
    refine XS.astoreN X3.here hexec rfl (hb hbytes d3) rfl rfl rfl ?_
    refine XS.aloadN X3.here hexec rfl (hb hbytes d4) rfl rfl ?_
    refine XS.iloadN X3.here hexec rfl (hb hbytes d5) rfl ?_
    refine XS.aloadN X3.here hexec rfl (hb hbytes d6) rfl rfl ?_
    refine iconstV X3.here hexec rfl 0 (hb hbytes d7) (by decide) ?_
    refine XS.iloadN X3.here hexec rfl (hb hbytes d8) rfl ?_
    exact Steps.refl _)
  obtain ⟨v6, T6, X6, E6, g6⟩ := X3.callS hexec (Cmp5.law l b A s.heap.size B3 o 0 len) hown (wks W (staticW U16 115 Cmp5.yN)) (wk W Cmp5.tab) (W := 0) (Nat.le_of_ble_eq_true rfl) (Nat.le_of_ble_eq_true rfl) (Nat.le_refl _) (by show 0 + len + 0 ≤ len; omega) (g := (mkF m 9 #[.val (.ref b), .val (.int (Int32.ofNat o)), .val (.int (Int32.ofNat len)), .val (.ref s.heap.size), .unset, .unset] [.int (Int32.ofNat len), .int (Int32.ofNat 0), .ref s.heap.size, .int (Int32.ofNat o), .ref b])) rfl (by rw [hml]; rfl) c5 (argsL := [.ref b, .int (Int32.ofNat o), .ref s.heap.size, .int (Int32.ofNat 0), .int (Int32.ofNat len)]) (rest := []) rfl rfl (by show 2 * 0 + 0 ≤ _; decide) (hb hbytes d9) (⟨rfl, hA3, ba3, hne, l1, by rw [bs3]; simp, hp⟩)
  obtain ⟨rfl, B6, p6, f6⟩ := E6
  have c7 : Steps p.tables e below (s₁.setTop (entryFrame m #[.ref b, .int (Int32.ofNat o), .int (Int32.ofNat len)] 6)) (T6.setTop (mkF m 12 #[.val (.ref b), .val (.int (Int32.ofNat o)), .val (.int (Int32.ofNat len)), .val (.ref s.heap.size), .unset, .unset] [.int (Int32.ofNat len)])) := g6
  have c8 : Steps p.tables e below (s₁.setTop (entryFrame m #[.ref b, .int (Int32.ofNat o), .int (Int32.ofNat len)] 6)) (T6.setTop (mkF m 58 #[.val (.ref b), .val (.int (Int32.ofNat o)), .val (.int (Int32.ofNat len)), .val (.ref s.heap.size), .val (.int (Int32.ofNat len)), .unset] [.ref s.heap.size])) := c7.trans (by
    refine XS.istore X6.here hexec rfl (hb hbytes d12) rfl rfl ?_
    refine XS.iload X6.here hexec rfl (hb hbytes d14) rfl ?_
    refine XS.iloadN X6.here hexec rfl (hb hbytes d16) rfl ?_
    refine XS.icmpYes X6.here hexec rfl (pc0 := 17) rfl (hb hbytes d17) rfl (ii_eq_t rfl) (by decide) rfl ?_
    refine XS.aloadN X6.here hexec rfl (hb hbytes d57) rfl rfl ?_
    exact Steps.refl _)
  have X8 := X6.wide (L' := []) (cells' := 1) (slots' := len) (fun x hx hlt => by
    simp only [List.nil_append, copyLocs, List.mem_map, List.mem_range] at hx
    obtain ⟨i, -, rfl⟩ := hx
    exact absurd hlt (Nat.lt_irrefl _)) (Nat.le_refl _) (by omega)
  exact ⟨T6, some (.ref s.heap.size), _, _, _, X8, rfl, rfl, rfl, (fun h => by cases h), ⟨⟨rfl, B6, ba3.like (X3.warmed.alike.symm.trans X6.warmed.alike) p6.1 f6.1 f6.2.1 f6.2.2.1, f6.2.1.trans bv3, by rw [X6.warmed.alike.findClass, f6.1]; exact bf3, by rw [f6.2.2.1, bs3]; simp, fun j hj => by rw [f6.2.2.2 j, if_pos (by omega)]; rfl, kp3.put p6 (Nat.le_refl _)⟩, by rw [p6.2.2, bh3, hh0]; simp⟩, fun fs hl => c8.trans (X8.areturnOut hexec rfl hret rfl (hb hbytes d58) hl)⟩
end Cmp3
namespace CodL
def yN : MethodName := ⟨"java/lang/StringUTF16", "coderFromArrayLen", "([BI)B"⟩
abbrev yB : ByteArray := jdk_52_method_15_code
theorem d0 : decode yB 0 = .ok (.iload_n 1, 1) := by decide +kernel
theorem d1 : decode yB 1 = .ok (.aload_n 0, 1) := by decide +kernel
theorem d2 : decode yB 2 = .ok (.arraylength, 1) := by decide +kernel
theorem d3 : decode yB 3 = .ok (.isub, 1) := by decide +kernel
theorem d4 : decode yB 4 = .ok (.bipush 31, 2) := by decide +kernel
theorem d6 : decode yB 6 = .ok (.iushr, 1) := by decide +kernel
theorem d7 : decode yB 7 = .ok (.i2b, 1) := by decide +kernel
theorem d8 : decode yB 8 = .ok (.ireturn, 1) := by decide +kernel
def site : List Cond := []
def tab : Cond := tabOf yN yB 2 (some .byte) site
def P (d : Addr) (B : Cell) (args : Array Value) (s : State) : Prop := args = #[.ref d, .int (Int32.ofNat B.slots.size)] ∧ Arr .byte d B s
def E (r : Option Value) (s u : State) : Prop := XT.PureE (some (.int 0)) r s u
/-- an array as long as the number of chars: LATIN1 -/
theorem law (l : Launch) (d : Addr) (B : Cell) : Law l yN 2 2 0 0 yB 2 (some .byte) site (P d B) E [] 0 0 := by
  refine Law.of_walk (plainFor_of_name (by decide +kernel)) (by decide +kernel) (by decide +kernel) (by decide) (fun _ _ h => by rw [h.1]; rfl) (fun _ U U' hal hh h => ⟨h.1, h.2.mv hal hh⟩) (fun r U U' V V' h1 hal h2 h => XT.PureE.mv r U U' V V' h1 hal h2 h) ?_
  intro p e s m args below meth c s₁ X0 hexec hbytes hml hret hlk hnm hown hh0 W hP
  obtain ⟨rfl, hB⟩ := hP
  have hB0 := hB.mv X0.warmed.alike hh0
  have c1 : Steps p.tables e below (s₁.setTop (entryFrame m #[.ref d, .int (Int32.ofNat B.slots.size)] 2)) (s₁.setTop (mkF m 0 #[.val (.ref d), .val (.int (Int32.ofNat B.slots.size))] [])) := entry rfl
  have c2 : Steps p.tables e below (s₁.setTop (entryFrame m #[.ref d, .int (Int32.ofNat B.slots.size)] 2)) (s₁.setTop (mkF m 2 #[.val (.ref d), .val (.int (Int32.ofNat B.slots.size))] [.ref d, .int (Int32.ofNat B.slots.size)])) := c1.trans (by
    refine XS.iloadN X0.here hexec rfl (hb hbytes d0) rfl ?_
    refine XS.aloadN X0.here hexec rfl (hb hbytes d1) rfl rfl ?_
    exact Steps.refl _)
  have c3 : Steps p.tables e below (s₁.setTop (entryFrame m #[.ref d, .int (Int32.ofNat B.slots.size)] 2)) (s₁.setTop (mkF m 8 #[.val (.ref d), .val (.int (Int32.ofNat B.slots.size))] [.int (lo8 (ushr (Int32.ofNat B.slots.size - Int32.ofNat B.slots.size) 31))])) := c2.trans (by
    refine X0.alen hexec hB0 rfl rfl (hb hbytes d2) ?_
    refine XS.isub X0.here hexec rfl (hb hbytes d3) rfl ?_
    refine bipushV X0.here hexec rfl 31 (hb hbytes d4) (by decide) ?_
    refine iushr X0.here hexec rfl (hb hbytes d6) rfl ?_
    refine i2b X0.here hexec rfl (hb hbytes d7) rfl ?_
    exact Steps.refl _)
  have e0 : lo8 (ushr (Int32.ofNat B.slots.size - Int32.ofNat B.slots.size) 31) = 0 := by rw [Int32.sub_self]; decide
  rw [e0] at c3
  exact ⟨s₁, some (.int 0), _, _, _, X0, rfl, rfl, rfl, (fun h => by cases h), ⟨rfl, hh0⟩, fun fs hl => c3.trans (X0.ireturnOut hexec hret rfl (Or.inr (Or.inr (Or.inl rfl))) (hb hbytes d8) hl)⟩
end CodL
/-- the String at a is Latin-1 over a new byte[] (the heap's one new cell): the low bytes of the len chars of A from o on; every cell but a is kept -/
def Got (a : Addr) (D : Cell) (fV fC : Field) (A : Cell) (o len : Nat) (r : Option Value) (s u : State) : Prop := r = none ∧ ∃ D' V : Cell, Blank "java/lang/String" a D' u ∧ Same D D' [fV.slot, fC.slot] ∧ D'.slots[fV.slot]? = some (.ref s.heap.size) ∧ D'.slots[fC.slot]? = some (.int 0) ∧ Arr .byte s.heap.size V u ∧ V.vm = .none ∧ u.vm.findClass "[B" = some V.cls ∧ V.slots.size = len ∧ (∀ j, j < len → V.slots[j]? = some (.int (lo8 (cv A (o + j))))) ∧ (∀ (y : Addr) (c : Cell), y ≠ a → s.heap[y]? = some c → u.heap[y]? = some c) ∧ u.heap.size = s.heap.size + 1
theorem Got.mv {a : Addr} {D A : Cell} {fV fC : Field} {o len : Nat} : ∀ r (U U' V V' : State), U'.heap = U.heap → V.vm.Alike V'.vm → V'.heap = V.heap → Got a D fV fC A o len r U V → Got a D fV fC A o len r U' V' :=
  fun r U U' V V' h1 hal h2 ⟨e0, D', X, a1, a2, a3, a4, a5, a6, a7, a8, a9, a10, a11⟩ => ⟨e0, D', X, a1.mv hal h2, a2, by rw [h1]; exact a3, a4, by rw [h1]; exact a5.mv hal h2, a6, by rw [hal.findClass]; exact a7, a8, a9, by rw [h1, h2]; exact a10, by rw [h1, h2]; exact a11⟩
namespace New4
def yN : MethodName := ⟨"java/lang/String", "<init>", "([CIILjava/lang/Void;)V"⟩
abbrev yB : ByteArray := jdk_42_method_149_code
theorem d0 : decode yB 0 = .ok (.aload_n 0, 1) := by decide +kernel
theorem d1 : decode yB 1 = .ok (.invokespecial 1, 3) := by decide +kernel
theorem d4 : decode yB 4 = .ok (.iload_n 3, 1) := by decide +kernel
theorem d5 : decode yB 5 = .ok (.ifCond (.ne) 22, 3) := by decide +kernel
theorem d27 : decode yB 27 = .ok (.getstatic 38, 3) := by decide +kernel
theorem d30 : decode yB 30 = .ok (.ifCond (.eq) 28, 3) := by decide +kernel
theorem d33 : decode yB 33 = .ok (.aload_n 1, 1) := by decide +kernel
theorem d34 : decode yB 34 = .ok (.iload_n 2, 1) := by decide +kernel
theorem d35 : decode yB 35 = .ok (.iload_n 3, 1) := by decide +kernel
theorem d36 : decode yB 36 = .ok (.invokestatic 177, 3) := by decide +kernel
theorem d39 : decode yB 39 = .ok (.astore 5, 2) := by decide +kernel
theorem d41 : decode yB 41 = .ok (.aload_n 0, 1) := by decide +kernel
theorem d42 : decode yB 42 = .ok (.aload 5, 2) := by decide +kernel
theorem d44 : decode yB 44 = .ok (.iload_n 3, 1) := by decide +kernel
theorem d45 : decode yB 45 = .ok (.invokestatic 47, 3) := by decide +kernel
theorem d48 : decode yB 48 = .ok (.putfield 15, 3) := by decide +kernel
theorem d51 : decode yB 51 = .ok (.aload_n 0, 1) := by decide +kernel
theorem d52 : decode yB 52 = .ok (.aload 5, 2) := by decide +kernel
theorem d54 : decode yB 54 = .ok (.putfield 9, 3) := by decide +kernel
theorem d57 : decode yB 57 = .ok (.return_, 1) := by decide +kernel
def site : List Cond := [.fieldLink "java/lang/String" 38 "java/lang/String" "COMPACT_STRINGS" "Z", Cmp3.tab, CodL.tab, .laysFinal "java/lang/String" "java/lang/String" "value" "[B", .fieldLink "java/lang/String" 9 "java/lang/String" "value" "[B", .laysFinal "java/lang/String" "java/lang/String" "coder" "B", .fieldLink "java/lang/String" 15 "java/lang/String" "coder" "B"] ++ objW "java/lang/String" 1 ++ staticW "java/lang/String" 177 Cmp3.yN ++ staticW "java/lang/String" 47 CodL.yN
def tab : Cond := tabOf yN yB 6 none site
def P (a : Addr) (D : Cell) (fV fC : Field) (b : Addr) (A : Cell) (z : Int32) (o len : Nat) (args : Array Value) (s : State) : Prop := args = #[.ref a, .ref b, .int (Int32.ofNat o), .int (Int32.ofNat len), .null] ∧ Blank "java/lang/String" a D s ∧ Found "java/lang/String" "value" "[B" fV s ∧ Found "java/lang/String" "coder" "B" fC s ∧ Ch b A s ∧ StaticIs s "java/lang/String" "COMPACT_STRINGS" "Z" (.int z) ∧ ¬ z = 0 ∧ 0 < len ∧ o + len ≤ A.slots.size ∧ len ≤ 536870912 ∧ ∀ i, i < len → ¬ 255 < cv A (o + i)
def E (a : Addr) (D : Cell) (fV fC : Field) (A : Cell) (o len : Nat) (r : Option Value) (s u : State) : Prop := Got a D fV fC A o len r s u
/-- len > 0, no char of the range above 255: a Latin-1 String of their low bytes -/
theorem law (l : Launch) (a : Addr) (D : Cell) (fV fC : Field) (b : Addr) (A : Cell) (z : Int32) (o len : Nat) : Law l yN 5 4 2 35 yB 6 none site (P a D fV fC b A z o len) (E a D fV fC A o len) [⟨a, fC.slot⟩, ⟨a, fV.slot⟩] 1 len := by
  refine Law.of_walk (plainFor_of_name (by decide +kernel)) (by decide +kernel) (by decide +kernel) (by decide) (fun _ _ h => by rw [h.1]; rfl) (fun _ U U' hal hh h => ⟨h.1, h.2.1.mv hal hh, h.2.2.1.al hal, h.2.2.2.1.al hal, h.2.2.2.2.1.mv hal hh, h.2.2.2.2.2.1.there hal hh, h.2.2.2.2.2.2⟩) (fun r U U' V V' h1 hal h2 h => Got.mv r U U' V V' h1 hal h2 h) ?_
  intro p e s m args below meth c s₁ X0 hexec hbytes hml hret hlk hnm hown hh0 W hP
  obtain ⟨rfl, hB, f1, f2, hA, s1, hz, l0, l1, l2, hp⟩ := hP
  have a31 := hA.1.2.2.2
  have c1 : Steps p.tables e below (s₁.setTop (entryFrame m #[.ref a, .ref b, .int (Int32.ofNat o), .int (Int32.ofNat len), .null] 6)) (s₁.setTop (mkF m 0 #[.val (.ref a), .val (.ref b), .val (.int (Int32.ofNat o)), .val (.int (Int32.ofNat len)), .val .null, .unset] [])) := entry rfl
  have c2 : Steps p.tables e below (s₁.setTop (entryFrame m #[.ref a, .ref b, .int (Int32.ofNat o), .int (Int32.ofNat len), .null] 6)) (s₁.setTop (mkF m 1 #[.val (.ref a), .val (.ref b), .val (.int (Int32.ofNat o)), .val (.int (Int32.ofNat len)), .val .null, .unset] [.ref a])) := c1.trans (by
    refine XS.aloadN X0.here hexec rfl (hb hbytes d0) rfl rfl ?_
    exact Steps.refl _)
  obtain ⟨T3, X3, q3, st3⟩ := X0.oinit hexec hown (wks W (objW "java/lang/String" 1)) (g := (mkF m 1 #[.val (.ref a), .val (.ref b), .val (.int (Int32.ofNat o)), .val (.int (Int32.ofNat len)), .val .null, .unset] [.ref a])) rfl (by rw [hml]; rfl) (rest := []) rfl (hb hbytes d1) (W := 0) (by show 2 * 0 + 0 ≤ _; decide) (Nat.le_of_ble_eq_true rfl) (Nat.le_of_ble_eq_true rfl)
  have hh3 := q3.trans hh0
  have c4 : Steps p.tables e below (s₁.setTop (entryFrame m #[.ref a, .ref b, .int (Int32.ofNat o), .int (Int32.ofNat len), .null] 6)) (T3.setTop (mkF m 27 #[.val (.ref a), .val (.ref b), .val (.int (Int32.ofNat o)), .val (.int (Int32.ofNat len)), .val .null, .unset] [])) := (c2.trans (st3 _ (Steps.refl _))).trans (by
    refine XS.iloadN X3.here hexec rfl (hb hbytes d4) rfl ?_
    refine XS.ifYes X3.here hexec rfl (pc0 := 5) rfl (hb hbytes d5) rfl (i0_ne_t (nz32 (by omega) l0)) (by decide) rfl ?_
    exact Steps.refl _)
  obtain ⟨T5, X5, q5, st5⟩ := X3.sget hexec hown (wk W (.fieldLink "java/lang/String" 38 "java/lang/String" "COMPACT_STRINGS" "Z")) s1 (fun _ _ h => by rw [hh3]; exact h) (g := (mkF m 27 #[.val (.ref a), .val (.ref b), .val (.int (Int32.ofNat o)), .val (.int (Int32.ofNat len)), .val .null, .unset] [])) rfl (hb hbytes d27)
  have hh5 := q5.trans hh3
  have c6 : Steps p.tables e below (s₁.setTop (entryFrame m #[.ref a, .ref b, .int (Int32.ofNat o), .int (Int32.ofNat len), .null] 6)) (T5.setTop (mkF m 30 #[.val (.ref a), .val (.ref b), .val (.int (Int32.ofNat o)), .val (.int (Int32.ofNat len)), .val .null, .unset] [.int z])) := c4.trans (st5 _ (Steps.refl _))
  have c7 : Steps p.tables e below (s₁.setTop (entryFrame m #[.ref a, .ref b, .int (Int32.ofNat o), .int (Int32.ofNat len), .null] 6)) (T5.setTop (mkF m 36 #[.val (.ref a), .val (.ref b), .val (.int (Int32.ofNat o)), .val (.int (Int32.ofNat len)), .val .null, .unset] [.int (Int32.ofNat len), .int (Int32.ofNat o), .ref b])) := c6.trans (by
    refine XS.ifNo X5.here hexec rfl (hb hbytes d30) rfl (i0_eq_f hz) ?_
    refine XS.aloadN X5.here hexec rfl (hb hbytes d33) rfl rfl ?_
    refine XS.iloadN X5.here hexec rfl (hb hbytes d34) rfl ?_
    refine XS.iloadN X5.here hexec rfl (hb hbytes d35) rfl ?_
    exact Steps.refl _)
  obtain ⟨v8, T8, X8, E8, g8⟩ := X5.callS hexec (Cmp3.law l b A o len) hown (wks W (staticW "java/lang/String" 177 Cmp3.yN)) (wk W Cmp3.tab) (W := 0) (Nat.le_of_ble_eq_true rfl) (Nat.le_of_ble_eq_true rfl) (Nat.le_refl _) (by show 0 + len ≤ len; omega) (g := (mkF m 36 #[.val (.ref a), .val (.ref b), .val (.int (Int32.ofNat o)), .val (.int (Int32.ofNat len)), .val .null, .unset] [.int (Int32.ofNat len), .int (Int32.ofNat o), .ref b])) rfl (by rw [hml]; rfl) c7 (argsL := [.ref b, .int (Int32.ofNat o), .int (Int32.ofNat len)]) (rest := []) rfl rfl (by show 2 * 0 + 0 ≤ _; decide) (hb hbytes d36) (⟨rfl, hA.mv X5.warmed.alike hh5, l1, l2, hp⟩)
  obtain ⟨e8, z8⟩ := E8
  obtain ⟨rfl, N, n1, n2, n3, n4, n5, n6⟩ := NewArr.mv _ T5 s _ _ hh5.symm (Vm.Alike.refl _) rfl e8
  rw [hh5] at z8
  have hB1 := hB.keep X8.warmed.alike (n6 _ _ hB.1)
  have hne : s.heap.size ≠ a := (Nat.ne_of_lt (Array.getElem?_eq_some_iff.mp hB.1).1).symm
  have c9 : Steps p.tables e below (s₁.setTop (entryFrame m #[.ref a, .ref b, .int (Int32.ofNat o), .int (Int32.ofNat len), .null] 6)) (T8.setTop (mkF m 39 #[.val (.ref a), .val (.ref b), .val (.int (Int32.ofNat o)), .val (.int (Int32.ofNat len)), .val .null, .unset] [.ref s.heap.size])) := g8
  have c10 : Steps p.tables e below (s₁.setTop (entryFrame m #[.ref a, .ref b, .int (Int32.ofNat o), .int (Int32.ofNat len), .null] 6)) (T8.setTop (mkF m 45 #[.val (.ref a), .val (.ref b), .val (.int (Int32.ofNat o)), .val (.int (Int32.ofNat len)), .val .null, .val (.ref s.heap.size)] [.int (Int32.ofNat N.slots.size), .ref s.heap.size, .ref a])) := by
    have hc : Steps p.tables e below (s₁.setTop (entryFrame m #[.ref a, .ref b, .int (Int32.ofNat o), .int (Int32.ofNat len), .null] 6)) (T8.setTop (mkF m 45 #[.val (.ref a), .val (.ref b), .val (.int (Int32.ofNat o)), .val (.int (Int32.ofNat len)), .val .null, .val (.ref s.heap.size)] [.int (Int32.ofNat len), .ref s.heap.size, .ref a])) := c9.trans (by
      refine XS.astore X8.here hexec rfl (hb hbytes d39) rfl rfl rfl ?_
      refine XS.aloadN X8.here hexec rfl (hb hbytes d41) rfl rfl ?_
      refine XS.aload X8.here hexec rfl (hb hbytes d42) rfl rfl ?_
      refine XS.iloadN X8.here hexec rfl (hb hbytes d44) rfl ?_
      exact Steps.refl _)
    rw [n4]; exact hc
  obtain ⟨v11, T11, X11, E11, g11⟩ := X8.callS hexec (CodL.law l s.heap.size N) hown (wks W (staticW "java/lang/String" 47 CodL.yN)) (wk W CodL.tab) (W := 1) (Nat.le_of_ble_eq_true rfl) (Nat.le_of_ble_eq_true rfl) (Nat.le_refl _) (by show 0 + len + 0 ≤ len; omega) (g := (mkF m 45 #[.val (.ref a), .val (.ref b), .val (.int (Int32.ofNat o)), .val (.int (Int32.ofNat len)), .val .null, .val (.ref s.heap.size)] [.int (Int32.ofNat N.slots.size), .ref s.heap.size, .ref a])) rfl (by rw [hml]; rfl) c10 (argsL := [.ref s.heap.size, .int (Int32.ofNat N.slots.size)]) (rest := [.ref a]) rfl rfl (by show 2 * 0 + (1 + 0) ≤ _; decide) (hb hbytes d45) (⟨rfl, n1⟩)
  obtain ⟨rfl, q11⟩ := E11
  have hB11 := hB1.mv (X8.warmed.alike.symm.trans X11.warmed.alike) q11
  have c12 : Steps p.tables e below (s₁.setTop (entryFrame m #[.ref a, .ref b, .int (Int32.ofNat o), .int (Int32.ofNat len), .null] 6)) (T11.setTop (mkF m 48 #[.val (.ref a), .val (.ref b), .val (.int (Int32.ofNat o)), .val (.int (Int32.ofNat len)), .val .null, .val (.ref s.heap.size)] [.int 0, .ref a])) := g11
  obtain ⟨T13, X13, p13, bl13, sl13, st13⟩ := X11.finit hexec hown (wk W (.fieldLink "java/lang/String" 15 "java/lang/String" "coder" "B")) (Or.inr ⟨_, (wk W (.laysFinal "java/lang/String" "java/lang/String" "coder" "B"))⟩) (Or.inl ⟨rfl, hnm⟩) f2 (Or.inl rfl) hB11 (t := .byte) (by decide +kernel) rfl (g := (mkF m 48 #[.val (.ref a), .val (.ref b), .val (.int (Int32.ofNat o)), .val (.int (Int32.ofNat len)), .val .null, .val (.ref s.heap.size)] [.int 0, .ref a])) rfl (rest := []) rfl (hb hbytes d48)
  have c14 : Steps p.tables e below (s₁.setTop (entryFrame m #[.ref a, .ref b, .int (Int32.ofNat o), .int (Int32.ofNat len), .null] 6)) (T13.setTop (mkF m 54 #[.val (.ref a), .val (.ref b), .val (.int (Int32.ofNat o)), .val (.int (Int32.ofNat len)), .val .null, .val (.ref s.heap.size)] [.ref s.heap.size, .ref a])) := (c12.trans (st13 _ (Steps.refl _))).trans (by
    refine XS.aloadN X13.here hexec rfl (hb hbytes d51) rfl rfl ?_
    refine XS.aload X13.here hexec rfl (hb hbytes d52) rfl rfl ?_
    exact Steps.refl _)
  obtain ⟨T15, X15, p15, bl15, sl15, st15⟩ := X13.finit hexec hown (wk W (.fieldLink "java/lang/String" 9 "java/lang/String" "value" "[B")) (Or.inr ⟨_, (wk W (.laysFinal "java/lang/String" "java/lang/String" "value" "[B"))⟩) (Or.inl ⟨rfl, hnm⟩) f1 (Or.inl rfl) bl13 (t := (.array .byte)) (by decide +kernel) rfl (g := (mkF m 54 #[.val (.ref a), .val (.ref b), .val (.int (Int32.ofNat o)), .val (.int (Int32.ofNat len)), .val .null, .val (.ref s.heap.size)] [.ref s.heap.size, .ref a])) rfl (rest := []) rfl (hb hbytes d54)
  have c16 : Steps p.tables e below (s₁.setTop (entryFrame m #[.ref a, .ref b, .int (Int32.ofNat o), .int (Int32.ofNat len), .null] 6)) (T15.setTop (mkF m 57 #[.val (.ref a), .val (.ref b), .val (.int (Int32.ofNat o)), .val (.int (Int32.ofNat len)), .val .null, .val (.ref s.heap.size)] [])) := c14.trans (st15 _ (Steps.refl _))
  have ap := apart (Or.inr ⟨_, (wk W (.laysFinal "java/lang/String" "java/lang/String" "value" "[B"))⟩) (Or.inr ⟨_, (wk W (.laysFinal "java/lang/String" "java/lang/String" "coder" "B"))⟩) f1 f2 (t₁ := .array .byte) (t₂ := .byte) (by decide +kernel) (by decide +kernel) (by decide)
  have al := X8.warmed.alike.symm.trans X15.warmed.alike
  have n7 : T11.heap[s.heap.size]? = some N := by rw [q11]; exact n1.1
  exact ⟨T15, none, _, _, _, X15, by simp, rfl, by omega, (fun _ => rfl), ⟨rfl, _, N, bl15, ((Same.refl D _).set _ (by simp)).set _ (by simp), sl15, (Cell.slots_setSlot_ne _ ap).trans sl13, n1.keep al (p15.other hne (p13.other hne n7)), n2, by rw [al.findClass]; exact n3, n4, n5, fun y c h1 h2 => p15.other h1 (p13.other h1 (by rw [q11]; exact n6 y c h2)), by rw [p15.2.2, p13.2.2, q11]; exact z8⟩, fun fs hl => c16.trans (X15.returnOut hexec hret (hb hbytes d57) hl)⟩
end New4
namespace New1
def yN : MethodName := ⟨"java/lang/String", "<init>", "([C)V"⟩
abbrev yB : ByteArray := jdk_42_method_3_code
theorem d0 : decode yB 0 = .ok (.aload_n 0, 1) := by decide +kernel
theorem d1 : decode yB 1 = .ok (.aload_n 1, 1) := by decide +kernel
theorem d2 : decode yB 2 = .ok (.iconst 0, 1) := by decide +kernel
theorem d3 : decode yB 3 = .ok (.aload_n 1, 1) := by decide +kernel
theorem d4 : decode yB 4 = .ok (.arraylength, 1) := by decide +kernel
theorem d5 : decode yB 5 = .ok (.aconst_null, 1) := by decide +kernel
theorem d6 : decode yB 6 = .ok (.invokespecial 27, 3) := by decide +kernel
theorem d9 : decode yB 9 = .ok (.return_, 1) := by decide +kernel
def site : List Cond := [New4.tab] ++ initW "java/lang/String" 27 New4.yN
def tab : Cond := tabOf yN yB 2 none site
def P (a : Addr) (D : Cell) (fV fC : Field) (b : Addr) (A : Cell) (z : Int32) (args : Array Value) (s : State) : Prop := args = #[.ref a, .ref b] ∧ Blank "java/lang/String" a D s ∧ Found "java/lang/String" "value" "[B" fV s ∧ Found "java/lang/String" "coder" "B" fC s ∧ Ch b A s ∧ StaticIs s "java/lang/String" "COMPACT_STRINGS" "Z" (.int z) ∧ ¬ z = 0 ∧ 0 < A.slots.size ∧ A.slots.size ≤ 536870912 ∧ ∀ i, i < A.slots.size → ¬ 255 < cv A i
def E (a : Addr) (D : Cell) (fV fC : Field) (A : Cell) (r : Option Value) (s u : State) : Prop := Got a D fV fC A 0 A.slots.size r s u
/-- new String(chars), not empty, no char above 255: a Latin-1 String of their low bytes -/
theorem law (l : Launch) (a : Addr) (D : Cell) (fV fC : Field) (b : Addr) (A : Cell) (z : Int32) : Law l yN 2 1 3 52 yB 2 none site (P a D fV fC b A z) (E a D fV fC A) [⟨a, fC.slot⟩, ⟨a, fV.slot⟩] 1 A.slots.size := by
  refine Law.of_walk (plainFor_of_name (by decide +kernel)) (by decide +kernel) (by decide +kernel) (by decide) (fun _ _ h => by rw [h.1]; rfl) (fun _ U U' hal hh h => ⟨h.1, h.2.1.mv hal hh, h.2.2.1.al hal, h.2.2.2.1.al hal, h.2.2.2.2.1.mv hal hh, h.2.2.2.2.2.1.there hal hh, h.2.2.2.2.2.2⟩) (fun r U U' V V' h1 hal h2 h => Got.mv r U U' V V' h1 hal h2 h) ?_
  intro p e s m args below meth c s₁ X0 hexec hbytes hml hret hlk hnm hown hh0 W hP
  obtain ⟨rfl, hB, f1, f2, hA, s1, hz, l0, l2, hp⟩ := hP
  have c1 : Steps p.tables e below (s₁.setTop (entryFrame m #[.ref a, .ref b] 2)) (s₁.setTop (mkF m 0 #[.val (.ref a), .val (.ref b)] [])) := entry rfl
  have c2 : Steps p.tables e below (s₁.setTop (entryFrame m #[.ref a, .ref b] 2)) (s₁.setTop (mkF m 6 #[.val (.ref a), .val (.ref b)] [.null, .int (Int32.ofNat A.slots.size), .int 0, .ref b, .ref a])) := c1.trans (by
    refine XS.aloadN X0.here hexec rfl (hb hbytes d0) rfl rfl ?_
    refine XS.aloadN X0.here hexec rfl (hb hbytes d1) rfl rfl ?_
    refine iconstV X0.here hexec rfl 0 (hb hbytes d2) (by decide) ?_
    refine XS.aloadN X0.here hexec rfl (hb hbytes d3) rfl rfl ?_
    refine X0.alen hexec (hA.1.mv X0.warmed.alike hh0) rfl rfl (hb hbytes d4) ?_
    refine XS.aconstNull X0.here hexec rfl (hb hbytes d5) ?_
    exact Steps.refl _)
  obtain ⟨v3, T3, X3, E3, g3⟩ := X0.callN hexec (New4.law l a D fV fC b A z 0 A.slots.size) rfl hown (wks W (initW "java/lang/String" 27 New4.yN)) (W New4.tab (by simp only [site, List.mem_cons, List.mem_append, true_or, or_true])) (W := 0) (Nat.le_of_ble_eq_true rfl) (Nat.le_of_ble_eq_true rfl) (Nat.le_refl _) (by show 0 + A.slots.size ≤ A.slots.size; omega) (g := (mkF m 6 #[.val (.ref a), .val (.ref b)] [.null, .int (Int32.ofNat A.slots.size), .int (Int32.ofNat 0), .ref b, .ref a])) rfl (by rw [hml]; rfl) c2 (argsL := [.ref b, .int (Int32.ofNat 0), .int (Int32.ofNat A.slots.size), .null]) (rest := []) rfl rfl (by show 2 * 0 + 0 ≤ _; decide) (hb hbytes d6) (⟨rfl, hB.mv X0.warmed.alike hh0, f1.al X0.warmed.alike, f2.al X0.warmed.alike, hA.mv X0.warmed.alike hh0, s1.there X0.warmed.alike hh0, hz, l0, by omega, l2, fun i hi => by rw [Nat.zero_add]; exact hp i hi⟩)
  have e0 := Got.mv _ s₁ s _ _ hh0.symm (Vm.Alike.refl _) rfl E3
  obtain rfl := e0.1
  have c4 : Steps p.tables e below (s₁.setTop (entryFrame m #[.ref a, .ref b] 2)) (T3.setTop (mkF m 9 #[.val (.ref a), .val (.ref b)] [])) := g3
  exact ⟨T3, none, _, _, _, X3, by simp, rfl, by omega, (fun _ => rfl), e0, fun fs hl => c4.trans (X3.returnOut hexec hret (hb hbytes d9) hl)⟩
theorem pays {l : Launch} {R : Room} {p : Program} {e : Env} {below : List Frame} {s : State} {sargs : Array Value} {len W : Nat} (a : Addr) (D : Cell) (fV fC : Field) (b : Addr) (A : Cell) (z : Int32) (htab : tab.before sargs s = true) (hfr : 4 ≤ R.frames) (hlo : W + 65 ≤ R.locals) :
    Back l R p e below s sargs yN len W (fun A₁ a₁ => A₁.cells + 1 ≤ R.cells ∧ A₁.slots + A.slots.size ≤ R.slots ∧ P a D fV fC b A z a₁ A₁.U) (fun A₁ _ v₁ B₁ => E a D fV fC A v₁ A₁.U B₁.U ∧ B₁.locs = A₁.locs ++ [⟨a, fC.slot⟩, ⟨a, fV.slot⟩] ∧ B₁.cells = A₁.cells + 1 ∧ B₁.slots = A₁.slots + A.slots.size) :=
  (law l a D fV fC b A z).pays htab hfr (by omega)
end New1
end StrChars
namespace StrChars.Road
open Jvm Sem ClassFile Op Lib Jvm.Stand Jvm.Free Jvm.Free.XT
open Jvm.Lib.Cold (StaticIs)
abbrev ST : String := "java/lang/String"
/-- every table word that New1's law asks, flat -/
abbrev words : List Jvm.Cond := [.code New1.yN New1.yB 2 none, .initialized ST, .methodLink ST 27 New4.yN, .instanceMethod New4.yN,
  .code New4.yN New4.yB 6 none, .fieldLink ST 38 ST "COMPACT_STRINGS" "Z", .laysFinal ST ST "value" "[B", .fieldLink ST 9 ST "value" "[B", .laysFinal ST ST "coder" "B", .fieldLink ST 15 ST "coder" "B",
  .methodLink ST 1 Lib.objectInit, .instanceMethod Lib.objectInit, .code Lib.objectInit ⟨#[0xb1]⟩ 1 none, .methodLink ST 177 Cmp3.yN, .static Cmp3.yN, .methodLink ST 47 CodL.yN, .static CodL.yN,
  .code Cmp3.yN Cmp3.yB 6 (some (.array .byte)), .initialized U16, .arrayClass .byte, .methodLink U16 115 Cmp5.yN, .static Cmp5.yN, .code Cmp5.yN Cmp5.yB 7 (some .int), .code CodL.yN CodL.yB 2 (some .byte)]
theorem tab_of {a : Array Value} {s : State} (h : ∀ w ∈ words, w.before a s = true) : New1.tab.before a s = true := by
  have h5 : Cmp5.tab.before a s = true := unparts (wk h (.code Cmp5.yN Cmp5.yB 7 (some .int))) (wks h (.initialized Cmp5.yN.cls :: Cmp5.site))
  have hc : CodL.tab.before a s = true := unparts (wk h (.code CodL.yN CodL.yB 2 (some .byte))) (wks h (.initialized CodL.yN.cls :: CodL.site))
  have q5 : ∀ w ∈ Cmp5.tab :: words, w.before a s = true := fun w hw => (List.mem_cons.mp hw).elim (fun e => e ▸ h5) (h w)
  have h3 : Cmp3.tab.before a s = true := unparts (wk q5 (.code Cmp3.yN Cmp3.yB 6 (some (.array .byte)))) (wks q5 (.initialized Cmp3.yN.cls :: Cmp3.site))
  have q3 : ∀ w ∈ Cmp3.tab :: CodL.tab :: words, w.before a s = true := fun w hw => (List.mem_cons.mp hw).elim (fun e => e ▸ h3) fun hw => (List.mem_cons.mp hw).elim (fun e => e ▸ hc) (h w)
  have h4 : New4.tab.before a s = true := unparts (wk q3 (.code New4.yN New4.yB 6 none)) (wks q3 (.initialized New4.yN.cls :: New4.site))
  have q4 : ∀ w ∈ New4.tab :: words, w.before a s = true := fun w hw => (List.mem_cons.mp hw).elim (fun e => e ▸ h4) (h w)
  exact unparts (wk q4 (.code New1.yN New1.yB 2 none)) (wks q4 (.initialized New1.yN.cls :: New1.site))
/-- the words ride from the start Z to the walk's own state -/
theorem moved {Z s : State} {a0 args : Array Value} (hZ : Z.Warmed39 s.vm) (hw : ∀ d ∈ words, d.before a0 Z = true) : ∀ d ∈ words, d.before args s = true := fun d hd => by
  have q := hw d hd
  have t : ∀ d ∈ words, d = .arrayClass .byte ∨ (d.onTables && d.keepsFace) = true := by decide +kernel
  rcases t d hd with rfl | t
  · exact RoadKit.mvA hZ q
  · exact RoadKit.mv hZ q t
/-- WHAT COMES BACK, over the tables of the start Z: h the heap at the call, h' behind it -/
def Q (Z : State) (x : Addr) (A : Cell) (h : Heap) (v : Option Value) (h' : Heap) (L : List Loc) : Prop := v = none ∧ (∀ y ∈ L, y.base = x) ∧ RoadKit.Keep h h' [x] ∧ h'.size = h.size + 1 ∧ RoadKit.Exa Z h' x ST ∧ RoadKit.Fld Z h' x ST "value" "[B" (.ref h.size) ∧ RoadKit.Fld Z h' x ST "coder" "B" (.int 0) ∧
  (∃ V : Cell, RoadKit.Arr Z h' h.size V .byte ∧ V.vm = .none ∧ Z.vm.findClass "[B" = some V.cls ∧ V.slots.size = A.slots.size ∧ ∀ j, j < A.slots.size → V.slots[j]? = some (.int (lo8 (cv A j)))) ∧
  ∀ (O n d : String) (w : Value), RoadKit.Fld Z h x O n d w → RoadKit.slotOf Z O n d ≠ RoadKit.slotOf Z ST "value" "[B" → RoadKit.slotOf Z O n d ≠ RoadKit.slotOf Z ST "coder" "B" → RoadKit.Fld Z h' x O n d w
/-- **new String(chars) AT A CALL, IN THE ROAD'S FORM**: for specialBack behind newO: x the fresh String, b the char[] with the cell A -/
theorem back {p : Program} {l : Launch} {e : Env} {R : Room} {s : State} {args : Array Value} {below : List Frame} {len W : Nat} {Z : State} {a0 : Array Value} {h : Heap} (hZ : Z.Warmed39 s.vm) (hw : ∀ d ∈ words, d.before a0 Z = true) {kI : Nat} (wi : (Jvm.Cond.instantiable ST kI).before a0 Z = true)
    {x b : Addr} {A : Cell} {z : Int32} {v0 c0 : Value} (E : RoadKit.Exa Z h x ST) (V : RoadKit.Fld Z h x ST "value" "[B" v0) (C : RoadKit.Fld Z h x ST "coder" "B" c0) (K : RoadKit.Arr Z h b A .char) (hty : Typed .char A) (S : RoadKit.Sta Z h ST "COMPACT_STRINGS" "Z" (.int z)) (hz : ¬ z = 0)
    (l0 : 0 < A.slots.size) (l2 : A.slots.size ≤ 536870912) (hp : ∀ i, i < A.slots.size → ¬ 255 < cv A i) (hfr : 4 ≤ R.frames) (hlo : W + 65 ≤ R.locals) :
    Back l R p e below s args New1.yN len W (fun P a => a = #[.ref x, .ref b] ∧ P.U.heap = h ∧ P.cells + 1 ≤ R.cells ∧ P.slots + A.slots.size ≤ R.slots)
      (fun P _ v B => ∃ L, Q Z x A h v B.U.heap L ∧ B.locs = P.locs ++ L ∧ B.cells = P.cells + 1 ∧ B.slots = P.slots + A.slots.size) := by
  intro m meth c P g ig mk a X hg hsize hdg hW hn hp'
  obtain ⟨rfl, rfl, r1, r2⟩ := hp'
  have al : Z.vm.Alike P.U.vm := hZ.alike.trans X.warmed.alike
  obtain ⟨D, cfV, kV, iV, fV, hD, gV, stV, knV, obV, asV, slV⟩ := id V
  obtain ⟨D', cfC, kC, iC, fC, hD', gC, stC, -, -, asC, slC⟩ := id C
  cases hD.symm.trans hD'
  obtain ⟨D2, kD, e1, e2, e3, e4, e5⟩ := id E
  cases hD.symm.trans e1
  obtain ⟨c2, k2, i1, i2, i3, -⟩ := Cond.instantiable_spec wi
  cases e2.symm.trans i1
  cases e3.symm.trans i2
  obtain ⟨kU, u1, u2⟩ := al.2.2 _ _ e3
  have hB : Blank ST x D P.U := ⟨hD, ⟨knV, fun q hq => by rw [hq] at obV; cases obV⟩, by rw [al.findClass]; exact e2, kU, u1, by rw [u2]; exact i3, by rw [u2]; exact e5 i3⟩
  have F1 : Found ST "value" "[B" fV P.U := ⟨SBG.found_only al ⟨cfV, kV, iV, gV⟩, stV⟩
  have F2 : Found ST "coder" "B" fC P.U := ⟨SBG.found_only al ⟨cfC, kC, iC, gC⟩, stC⟩
  have hA : Ch b A P.U := ⟨⟨K.1, State.isArrayOf_alike al K.2.1, K.2.2, by omega⟩, hty⟩
  have hS : StaticIs P.U ST "COMPACT_STRINGS" "Z" (.int z) := by
    obtain ⟨cfS, iS, kS, fS, st, cS, t1, t2, t3, t4, t5, t6, t7⟩ := S
    exact StaticIs.there (s := { Z with heap := P.U.heap }) ⟨cfS, iS, kS, fS, st, cS, t1, t2, t3, t4, t5, (fun q => by rw [q] at t6; cases t6), t7⟩ al rfl
  obtain ⟨v, B, X', ⟨⟨hv, E', V', q1, q2, q3, q4, q5, q6, q7, q8, q9, q10, q11⟩, hl, hc, hs⟩, st⟩ := New1.pays x D fV fC b A z (tab_of (moved hZ hw)) hfr hlo m meth c P g ig mk _ X hg hsize hdg hW hn ⟨r1, r2, rfl, hB, F1, F2, hA, hS, hz, l0, l2, hp⟩
  have al' : Z.vm.Alike B.U.vm := hZ.alike.trans X'.warmed.alike
  have hsz : E'.slots.size = D.slots.size := by
    obtain ⟨-, -, -, kB, w1, w2, w3⟩ := q1
    obtain ⟨kB', y1, y2⟩ := al'.2.2 _ _ e3
    rw [q2.2.1] at w1
    cases w1.symm.trans y1
    rw [w3, e5 i3, y2]
  refine ⟨v, B, X', ⟨_, ⟨hv, ?_, ⟨by omega, fun y cy hy hn' => q10 y cy (by simpa using hn') hy, fun y cy hy => ?_⟩, q11, ⟨E', _, q1.1, by rw [q2.2.1]; exact e2, by rw [q2.2.1]; exact e3, by rw [q2.1]; exact obV, fun _ => by rw [hsz]; exact e5 i3⟩,
    ⟨E', cfV, kV, iV, fV, q1.1, gV, stV, by rw [q2.1]; exact knV, by rw [q2.1]; exact obV, by rw [q2.2.1]; exact asV, q3⟩, ⟨E', cfC, kC, iC, fC, q1.1, gC, stC, by rw [q2.1]; exact knV, by rw [q2.1]; exact obV, by rw [q2.2.1]; exact asC, q4⟩,
    ⟨V', ⟨q5.1, State.isArrayOf_alike al'.symm q5.2.1, q5.2.2.1⟩, q6, by rw [← al'.findClass]; exact q7, q8, fun j hj => by have := q9 j hj; rwa [Nat.zero_add] at this⟩, fun O n d w F n1 n2 => ?_⟩, hl, hc, hs⟩, st⟩
  · intro y hy
    simp only [List.mem_cons, List.not_mem_nil, or_false] at hy
    rcases hy with rfl | rfl <;> rfl
  · by_cases q : y = x
    · subst q
      cases hD.symm.trans hy
      exact ⟨E', q1.1, q2.2.1, q2.1, hsz⟩
    · exact ⟨cy, q10 y cy q hy, rfl, rfl, rfl⟩
  · obtain ⟨D3, cf, k, i, f, g1, g2, g3, g4, g5, g6, g7⟩ := F
    cases hD.symm.trans g1
    simp only [RoadKit.slotOf, g2, gV, gC, Option.map_some, Option.getD_some] at n1 n2
    exact ⟨E', cf, k, i, f, q1.1, g2, g3, by rw [q2.1]; exact g4, by rw [q2.1]; exact g5, by rw [q2.2.1]; exact g6, by rw [q2.2.2 f.slot (by simp [n1, n2])]; exact g7⟩
end StrChars.Road
namespace StrChars.Road
open Jvm Sem ClassFile Op Lib Jvm.Stand Jvm.Free Jvm.Free.XT
/-- WHAT COMES BACK, the byte[] as a list of values -/
def QA (Z : State) (x : Addr) (zn : Int32) (cs : List Int32) (h : Heap) (v : Option Value) (h' : Heap) (L : List Loc) : Prop := v = none ∧ (∀ y ∈ L, y.base = x) ∧ RoadKit.Keep h h' [x] ∧ h'.size = h.size + 1 ∧ RoadKit.Exa Z h' x ST ∧ RoadKit.Fld Z h' x ST "value" "[B" (.ref h.size) ∧ RoadKit.Fld Z h' x ST "coder" "B" (.int 0) ∧
  (∃ kb, Z.vm.findClass "[B" = some kb ∧ RoadKit.Arv Z h' h.size kb .byte zn (cs.map fun c => .int (lo8 c)) (.int 0)) ∧
  ∀ (O n d : String) (w : Value), RoadKit.Fld Z h x O n d w → RoadKit.slotOf Z O n d ≠ RoadKit.slotOf Z ST "value" "[B" → RoadKit.slotOf Z O n d ≠ RoadKit.slotOf Z ST "coder" "B" → RoadKit.Fld Z h' x O n d w
/-- **new String(chars) AT A CALL, THE ARRAYS AS LISTS**: the char[] at b holds cs, not empty, no char above 255 -/
theorem backArv {p : Program} {l : Launch} {e : Env} {R : Room} {s : State} {args : Array Value} {below : List Frame} {len W : Nat} {Z : State} {a0 : Array Value} {h : Heap} (hZ : Z.Warmed39 s.vm) (hw : ∀ d ∈ words, d.before a0 Z = true) {kI : Nat} (wi : (Jvm.Cond.instantiable ST kI).before a0 Z = true)
    {x b : Addr} {k : ClassId} {zn z : Int32} {cs : List Int32} {dv v0 c0 : Value} (E : RoadKit.Exa Z h x ST) (V : RoadKit.Fld Z h x ST "value" "[B" v0) (C : RoadKit.Fld Z h x ST "coder" "B" c0) (K : RoadKit.Arv Z h b k .char zn (cs.map Value.int) dv) (S : RoadKit.Sta Z h ST "COMPACT_STRINGS" "Z" (.int z)) (hz : ¬ z = 0)
    (hlen : zn.toNatClampNeg = cs.length) (h0 : 0 < cs.length) (hbig : cs.length ≤ 536870912) (hall : ∀ c ∈ cs, ¬ 255 < c) (hfr : 4 ≤ R.frames) (hlo : W + 65 ≤ R.locals) :
    Back l R p e below s args New1.yN len W (fun P a => a = #[.ref x, .ref b] ∧ P.U.heap = h ∧ P.cells + 1 ≤ R.cells ∧ P.slots + cs.length ≤ R.slots)
      (fun P _ v B => ∃ L, QA Z x zn cs h v B.U.heap L ∧ B.locs = P.locs ++ L ∧ B.cells = P.cells + 1 ∧ B.slots = P.slots + cs.length) := by
  obtain ⟨A, K1, K2, K3, K4, K5, K6⟩ := K
  have e : A.slots.size = cs.length := K3.trans hlen
  have hat : ∀ (i : Nat) (hi : i < cs.length), A.slots[i]? = some (.int cs[i]) := fun i hi => by rw [K5 i (by omega)]; simp [List.getD_eq_getElem?_getD, hi]
  have hcv : ∀ (i : Nat) (hi : i < cs.length), cv A i = cs[i] := fun i hi => by unfold cv; rw [hat i hi]
  have hty : Typed .char A := fun i v hv => by
    have hi : i < A.slots.size := (Array.getElem?_eq_some_iff.mp hv).1
    have q := K5 i hi
    rw [hv] at q
    rw [Option.some.inj q]
    exact K6 i hi
  refine Back.mono (back hZ hw wi E V C K1 hty S hz (by omega) (by omega) (fun i hi => by rw [hcv i (by omega)]; exact hall _ (List.getElem_mem _)) hfr hlo) (fun P a hp => ⟨hp.1, hp.2.1, hp.2.2.1, by rw [e]; exact hp.2.2.2⟩) (fun P a v B hp hq => ?_)
  obtain ⟨L, ⟨q1, q2, q3, q4, q5, q6, q7, ⟨V', v1, v2, v3, v4, v5⟩, q9⟩, hl, hc, hs⟩ := hq
  refine ⟨L, ⟨q1, q2, q3, q4, q5, q6, q7, ⟨V'.cls, v3, V', v1, rfl, by rw [v4, e, hlen], K4, fun i hi => ?_, fun i hi => ?_⟩, q9⟩, hl, hc, by rw [hs, e]⟩
  · have hi' : i < cs.length := by omega
    rw [v5 i (by omega), hcv i hi']; simp [List.getD_eq_getElem?_getD, hi']
  · have hi' : i < cs.length := by omega
    simp only [List.getD_eq_getElem?_getD, List.getElem?_map, List.getElem?_eq_getElem hi', Option.map_some, Option.getD_some]
    exact fits_lo8 _
end StrChars.Road
namespace StrChars.Road
open Jvm Sem ClassFile Op Lib Jvm.Stand Jvm.Free Jvm.Free.XT
/-- WHAT COMES BACK, in the writer's own shape -/
def QV (Z : State) (x : Addr) (N : Int32) (bs : List Int32) (h : Heap) (n0 : Nat) (v : Option Value) (h' : Heap) (L : List Loc) : Prop := v = none ∧ RoadKit.Fr n0 L ∧ RoadKit.Keep h h' [x] ∧ RoadKit.Exa Z h' x ST ∧ RoadKit.Fld Z h' x ST "coder" "B" (.int 0) ∧
  ∃ (t : Addr) (kb : ClassId), n0 ≤ t ∧ h.size ≤ t ∧ ¬ t = x ∧ RoadKit.Fld Z h' x ST "value" "[B" (.ref t) ∧ RoadKit.Arv Z h' t kb .byte N (bs.map Value.int) (.int 0)
/-- **new String(chars) AT A CALL, FOR THE WRITER**: a char[] of n known ints, each 0 to 255 -/
theorem backV {p : Program} {l : Launch} {e : Env} {R : Room} {s : State} {args : Array Value} {below : List Frame} {len W : Nat} {Z : State} {a0 : Array Value} {h : Heap} (hZ : Z.Warmed39 s.vm) (hw : ∀ d ∈ words, d.before a0 Z = true) {kI : Nat} (wi : (Jvm.Cond.instantiable ST kI).before a0 Z = true)
    {x b : Addr} {kC : ClassId} {cs bs : List Int32} {d v0 c0 : Value} {z N : Int32} {n n0 : Nat} (hx0 : n0 ≤ x) (hh0 : n0 ≤ h.size) (E : RoadKit.Exa Z h x ST) (V : RoadKit.Fld Z h x ST "value" "[B" v0) (C : RoadKit.Fld Z h x ST "coder" "B" c0) (K : RoadKit.Arv Z h b kC .char N (cs.map Value.int) d) (S : RoadKit.Sta Z h ST "COMPACT_STRINGS" "Z" (.int z)) (hz : ¬ z = 0)
    (hn : cs.length = n) (hN : N = Int32.ofNat n) (l0 : 0 < n) (l2 : n ≤ 4000) (hp : ∀ c ∈ cs, ¬ c < 0 ∧ ¬ (255 : Int32) < c) (hb : bs = cs.map (fun c => c.toInt8.toInt32)) (hfr : 4 ≤ R.frames) (hlo : W + 65 ≤ R.locals) :
    Back l R p e below s args (⟨"java/lang/String", "<init>", "([C)V"⟩ : MethodName) len W (fun P a => a = #[.ref x, .ref b] ∧ P.U.heap = h ∧ P.cells + 1 ≤ R.cells ∧ P.slots + n ≤ R.slots)
      (fun P _ v B => ∃ L, QV Z x N bs h n0 v B.U.heap L ∧ B.locs = P.locs ++ L ∧ B.cells = P.cells + 1 ∧ B.slots = P.slots + n) := by
  subst hn hN hb
  refine Back.mono (backArv hZ hw wi E V C K S hz (n32 (by omega)) l0 (by omega) (fun c hc => (hp c hc).2) hfr hlo) (fun P a hp => hp) (fun P a v B hp hq => ?_)
  obtain ⟨L, ⟨q1, q2, q3, q4, q5, q6, q7, ⟨kb, v1, v2⟩, q9⟩, hl, hc, hs⟩ := hq
  exact ⟨L, ⟨q1, fun y hy => by rw [q2 y hy]; exact hx0, q3, q5, q7, h.size, kb, hh0, Nat.le_refl _, Nat.ne_of_gt E.lt, q6, by rw [List.map_map]; exact v2⟩, hl, hc, hs⟩
end StrChars.Road
end Jvm.Pilot.@@N@@
namespace Jvm.Pilot.@@N@@
open Jvm Jvm.ClassFile Sem Op Lib Jvm.Free Jvm.Stand Jvm.LawKit Jvm.RoadKit Bundle Jvm.Pilot.@@N@@.Jvm.D

def own_EL : List (String × Nat) := [("java/lang/String", 7)]
theorem own_txt149 : (∀ c ∈ "".toList, c.toNat < 256) ∧ "".toList.map (fun c => Value.int (Jvm.Lit.byteI c.toNat.toUInt16)) = [] := ⟨fun c hc => by simp at hc, rfl⟩
theorem own_hEL {Z : State} {a0 : Array Value} (hw : ∀ d ∈ tables_1, d.before a0 Z = true) : EW Z a0 own_EL := EW.cons (hw _ (List.mem_of_getElem? (i := 149) rfl)) own_txt149.1 EW.nil
theorem own_wS {Z : State} {a0 : Array Value} (hw : ∀ d ∈ tables_1, d.before a0 Z = true) : ∀ a ∈ Bundle.stringAtoms, a.before a0 Z = true := by
  intro a ha
  simp only [Bundle.stringAtoms, List.mem_cons, List.not_mem_nil, or_false] at ha
  rcases ha with rfl | rfl | rfl | rfl | rfl | rfl | rfl
  · exact (hw _ (List.mem_of_getElem? (i := 2) rfl))
  · exact (hw _ (List.mem_of_getElem? (i := 1) rfl))
  · exact (hw _ (List.mem_of_getElem? (i := 19) rfl))
  · exact (hw _ (List.mem_of_getElem? (i := 29) rfl))
  · exact (hw _ (List.mem_of_getElem? (i := 27) rfl))
  · exact (hw _ (List.mem_of_getElem? (i := 150) rfl))
  · exact (hw _ (List.mem_of_getElem? (i := 151) rfl))
/-- a String whose value is null is no booked one -/
theorem own_safeN {Z : State} {EL : List (String × Nat)} {vm : Vm} {h : Heap} {x : Addr} (hal : Z.vm.Alike vm) (E : Exa Z h x "java/lang/String") (F : Fld Z h x "java/lang/String" "value" "[B" .null) : Safe Z EL vm h x := fun B => by
  obtain ⟨p, -, u, a, -, q, -, G, hy⟩ := B
  rcases hy with rfl | rfl
  · obtain ⟨cS, ⟨⟨s1, s2, s3, ⟨cv, kv, iv, s4, s4'⟩, ⟨cc, kc, ic, s5, s5'⟩, s6, s7, s8, s9, s10, s11, s12, s13, s14, s15, s16⟩, hfS, hcS⟩, ⟨kS, k1, k2, k3⟩, hB, hbyt⟩ := G
    obtain ⟨kv', z4⟩ := ff_back (U := Wst Z vm h) hal s4
    have G' : Fld Z h q.sa "java/lang/String" "value" "[B" (.ref q.sd) := ⟨q.sC, cv, kv', iv, q.fSV, s1, z4, s6, s2, s3, by rw [← hal.assignable]; exact s4', s8⟩
    exact Fld.ne F G' (by simp) rfl
  · obtain ⟨cell, k, e1, e2, e3, -, -⟩ := E
    cases (show h[q.sd]? = some q.SA from G.hd).symm.trans e1
    obtain ⟨cS, -, -, f, -⟩ := G
    have f' : vm.findClass "[B" = some q.SA.cls := f
    rw [hal.findClass] at f'
    obtain ⟨k1, a1, a2⟩ := Vm.findClass_spec f'
    obtain ⟨k2, b1, b2⟩ := Vm.findClass_spec e2
    cases a1.symm.trans b1
    exact absurd (a2.symm.trans b2) (by decide)
theorem own_ch255 (x : Int32) : ¬ nar .char ((x &&& (255 : Int32)).toUInt32.toUInt16.toUInt32.toInt32) < 0 ∧ ¬ (255 : Int32) < nar .char ((x &&& (255 : Int32)).toUInt32.toUInt16.toUInt32.toInt32) := by
  have t : ∀ k : Fin 256, ¬ nar .char ((Int32.ofNat k.val).toUInt32.toUInt16.toUInt32.toInt32) < 0 ∧ ¬ (255 : Int32) < nar .char ((Int32.ofNat k.val).toUInt32.toUInt16.toUInt32.toInt32) := by decide +kernel
  have h : (x &&& 255).toBitVec.toNat < 256 := by
    simp only [Int32.toBitVec_and, BitVec.toNat_and]
    exact Nat.lt_succ_of_le Nat.and_le_right
  have e : (x &&& 255) = Int32.ofNat (x &&& 255).toBitVec.toNat := by
    apply Int32.toBitVec_inj.mp
    show _ = BitVec.ofNat 32 _
    rw [BitVec.ofNat_toNat]; simp
  rw [e]
  exact t ⟨_, h⟩

section OwnNew
variable {p : Program} {l : Launch} {e : Env} {R : Room} {s : State} {m : MethodId} {args : Array Value} {below : List Frame} {meth : Method} {c : Code} {T : State} {locs : List Loc} {cells slots : Nat} {Z : State} {a0 : Array Value} {h : Heap}
/-- anewarray, and the array's own class by its name -/
theorem own_newR (X : Stand p l e R s m args below meth c T locs cells slots) (hx : p.tables.exec = Jvm.exec) (hZ : Z.Warmed39 s.vm) {own C : String} {index : Nat} (hown : s.vm.findClass own = some m.cls) (w1 : (Jvm.Cond.classLink own index C).before a0 Z = true) (w2 : (Jvm.Cond.arrayOver (.object C)).before a0 Z = true)
    (eT : T.heap = h) {g : JFrame} (hg : g.method = m) (hd : decode c.code g.pc = .ok (.anewarray index, 3)) {n : Int32} {rest : List Value} (hs : g.stack = .int n :: rest) (hn : ¬ n < 0) {cap : Nat} (hcap : n.toNatClampNeg ≤ cap) (hb : cap * 8 ≤ 536870912) (hc : cells + 1 ≤ R.cells) (hl : slots + cap ≤ R.slots) :
    ∃ T' h' cA, Stand p l e R s m args below meth c T' locs (cells + 1) (slots + cap) ∧ T'.heap = h' ∧ Ext h h' ∧ Arr Z h' h.size (newA cA (.object C) n) (.object C) ∧ Ovr Z cA C ∧ Exa Z h' h.size ("[" ++ (FieldType.object C).toString) ∧
      ∀ target, Steps p.tables e below (T'.setTop { g with pc := g.pc + 3, stack := .ref h.size :: rest }) target → Steps p.tables e below (T.setTop g) target := by
  obtain ⟨vm₁, cA, kA, comp, -, h1, h2, h3, h4, X', st⟩ := X.anewarrayRefK hx hown (mv hZ w1) (Cond.arrayOver_alike hZ.alike w2) hg hd hs hn (by omega) hc (by omega)
  subst eT
  rw [hZ.alike.findClass] at h1 h4
  obtain ⟨kZ, z1, -⟩ := Vm.findClass_spec h1
  obtain ⟨k', z2, z3⟩ := hZ.alike.2.2 _ _ z1
  cases h2.symm.trans z2
  have hk : kZ.kind = .array comp (.object C) := by rw [← h3, z3]
  have hcell : (T.heap.push { cls := cA, slots := Array.replicate n.toNatClampNeg .null, vm := .none })[T.heap.size]? = some (newA cA (.object C) n) := by simp [newA, defaultValue]
  have A : Arr Z (T.heap.push { cls := cA, slots := Array.replicate n.toNatClampNeg .null, vm := .none }) T.heap.size (newA cA (.object C) n) (.object C) := ⟨hcell, ⟨by simp [newA], kZ, z1, comp, hk⟩, by simp [newA]⟩
  exact ⟨_, _, cA, X'.mono (Nat.le_refl _) (by omega), rfl, ext_of fun a q => Array.getElem?_push_lt q |>.trans (Array.getElem?_eq_getElem q).symm, A, ⟨kZ, comp, z1, hk, h4⟩, exa_arr A h1 rfl, st⟩
theorem own_mirev {Z s : State} {args : Array Value} {C : String} {mi : Addr} (hZ : Z.Warmed39 s.vm) (M : Mir Z C mi) : (Term.mirror C).eval args s none [] s = some (.ref mi) := by
  obtain ⟨cM, kM, hfM, hkM, hmM, -⟩ := M
  obtain ⟨kM', hkM', eM⟩ := hZ.alike.2.2 _ _ hkM
  have hf' : s.vm.findClass C = some cM := by rw [hZ.alike.findClass]; exact hfM
  have hm' : kM'.mirror = some mi := by rw [eM]; exact hmM
  simp [Term.eval, hf', hkM', hm']
end OwnNew
def own_maxI (x y : Int32) : Int32 := if x < y then y else x
def own_minI (x y : Int32) : Int32 := if y < x then y else x
/-- an ArrayList is no K, where K is an ordinary class outside its chain -/
theorem own_notAL {Z : State} {a0 : Array Value} {K : String} {n : Nat} (w1 : (Jvm.Cond.superclass "java/util/ArrayList" "java/util/AbstractList").before a0 Z = true) (w2 : (Jvm.Cond.superclass "java/util/AbstractList" "java/util/AbstractCollection").before a0 Z = true) (w3 : (Jvm.Cond.superclass "java/util/AbstractCollection" "java/lang/Object").before a0 Z = true) (w4 : (Jvm.Cond.noSuperclass "java/lang/Object").before a0 Z = true)
    (wi : (Jvm.Cond.instantiable K n).before a0 Z = true) (hn : K ≠ "java/util/ArrayList" ∧ K ≠ "java/util/AbstractList" ∧ K ≠ "java/util/AbstractCollection" ∧ K ≠ "java/lang/Object") {cL : ClassId} (e2 : Z.vm.findClass "java/util/ArrayList" = some cL) :
    ∃ c t, Z.vm.findClass "java/util/ArrayList" = some c ∧ Z.vm.findClass K = some t ∧ Z.vm.assignable c t = false := by
  obtain ⟨cM, kL, kM, hfM, hkL, hkM, hsL, hoL, -, -⟩ := Cond.superclass_spec e2 w1
  obtain ⟨cN, kM', kN, hfN, hkM', hkN, hsM, -, -, -⟩ := Cond.superclass_spec hfM w2
  cases hkM.symm.trans hkM'
  obtain ⟨cO, kN', kO, hfO, hkN', hkO, hsN, -, -, -⟩ := Cond.superclass_spec hfN w3
  cases hkN.symm.trans hkN'
  obtain ⟨cO', kO', hfO', hkO', hsO, -, -⟩ := Cond.noSuperclass_spec w4
  cases hfO.symm.trans hfO'
  cases hkO.symm.trans hkO'
  obtain ⟨cK, kK, i1, i2, i3, i4, -⟩ := Cond.instantiable_spec wi
  have dist : ∀ {C : String} {c : ClassId}, Z.vm.findClass C = some c → K ≠ C → c ≠ cK := fun hc hne e => by
    subst e
    obtain ⟨k1, q1, q2⟩ := Vm.findClass_spec hc
    obtain ⟨k2, r1, r2⟩ := Vm.findClass_spec i1
    cases q1.symm.trans r1
    exact hne (r2.symm.trans q2)
  have d1 := dist e2 hn.1
  have d2 := dist hfM hn.2.1
  have d3 := dist hfN hn.2.2.1
  have d4 := dist hfO hn.2.2.2
  have sub : ∀ fuel, Z.vm.isSubclassAux fuel cL cK = false := fun fuel => by
    match fuel with
    | 0 => rfl
    | 1 => simp [Vm.isSubclassAux, d1, hkL, hsL]
    | 2 => simp [Vm.isSubclassAux, d1, d2, hkL, hsL, hkM, hsM]
    | 3 => simp [Vm.isSubclassAux, d1, d2, d3, hkL, hsL, hkM, hsM, hkN, hsN]
    | f + 4 => simp [Vm.isSubclassAux, d1, d2, d3, d4, hkL, hsL, hkM, hsM, hkN, hsN, hkO, hsO]
  have hif : kK.isInterface = false := by simpa using (Bool.or_eq_false_iff.mp i4).1
  refine ⟨cL, cK, e2, i1, ?_⟩
  show Z.vm.assignableAux (255 + 1) cL cK = false
  simp [Vm.assignableAux, d1, hkL, i2, hoL, i3, hif, Vm.isSubclass, sub]
theorem own_m (x : Int32) : x &&& 3 = 0 ∨ x &&& 3 = 1 ∨ x &&& 3 = 2 ∨ x &&& 3 = 3 := by
  have h : (x &&& 3).toBitVec = 0#32 ∨ (x &&& 3).toBitVec = 1#32 ∨ (x &&& 3).toBitVec = 2#32 ∨ (x &&& 3).toBitVec = 3#32 := by
    have e : (x &&& 3).toBitVec = x.toBitVec &&& 3#32 := rfl
    rw [e]
    have hb : (x.toBitVec &&& 3#32).toNat = x.toBitVec.toNat % 4 := by
      rw [BitVec.toNat_and]; exact Nat.and_two_pow_sub_one_eq_mod _ 2
    have hl : x.toBitVec.toNat % 4 < 4 := Nat.mod_lt _ (by decide)
    rcases (by omega : x.toBitVec.toNat % 4 = 0 ∨ x.toBitVec.toNat % 4 = 1 ∨ x.toBitVec.toNat % 4 = 2 ∨ x.toBitVec.toNat % 4 = 3) with q | q | q | q
    · exact Or.inl (BitVec.eq_of_toNat_eq (by rw [hb, q]; rfl))
    · exact Or.inr (Or.inl (BitVec.eq_of_toNat_eq (by rw [hb, q]; rfl)))
    · exact Or.inr (Or.inr (Or.inl (BitVec.eq_of_toNat_eq (by rw [hb, q]; rfl))))
    · exact Or.inr (Or.inr (Or.inr (BitVec.eq_of_toNat_eq (by rw [hb, q]; rfl))))
  rcases h with h | h | h | h
  · exact Or.inl (Int32.toBitVec_inj.mp h)
  · exact Or.inr (Or.inl (Int32.toBitVec_inj.mp h))
  · exact Or.inr (Or.inr (Or.inl (Int32.toBitVec_inj.mp h)))
  · exact Or.inr (Or.inr (Or.inr (Int32.toBitVec_inj.mp h)))
theorem own_b255 (x : Int32) : ¬ (255 : Int32) < (x &&& (255 : Int32)).toUInt32.toUInt16.toUInt32.toInt32 := by
  have t : ∀ k : Fin 256, ¬ (255 : Int32) < (Int32.ofNat k.val).toUInt32.toUInt16.toUInt32.toInt32 := by decide +kernel
  have h : (x &&& 255).toBitVec.toNat < 256 := by
    simp only [Int32.toBitVec_and, BitVec.toNat_and]
    exact Nat.lt_succ_of_le Nat.and_le_right
  have e : (x &&& 255) = Int32.ofNat (x &&& 255).toBitVec.toNat := by
    apply Int32.toBitVec_inj.mp
    show _ = BitVec.ofNat 32 _
    rw [BitVec.ofNat_toNat]; simp
  rw [e]
  exact t ⟨_, h⟩
theorem own_bit {q : Prop} [Decidable q] : nar .boolean (if q then (0 : Int32) else (1 : Int32)) = (if q then (0 : Int32) else (1 : Int32)) := by
  by_cases h : q
  · rw [if_pos h]; rfl
  · rw [if_neg h]; rfl
theorem own_bit01 {q : Prop} [Decidable q] : (if q then (0 : Int32) else (1 : Int32)) = 0 ∨ (if q then (0 : Int32) else (1 : Int32)) = 1 := by
  by_cases h : q
  · rw [if_pos h]; exact Or.inl rfl
  · rw [if_neg h]; exact Or.inr rfl
theorem own_len {args : Array Value} {s : State} {t : Term} {x : Addr} {cl : Cell} {z : Int32} (ht : t.eval args s none [] s = some (.ref x)) (ha : s.arrayAt? x = some cl) (h : (Term.length t).eval args s none [] s = some (.int z)) : cl.slots.size < 2 ^ 31 ∧ cl.slots.size.toInt32 = z := by
  by_cases q : cl.slots.size < 2 ^ 31
  · rw [len_f ht ha q] at h; exact ⟨q, by injection h with h; injection h⟩
  · exfalso; simp [Term.eval, ht, ha, q] at h
theorem own_empty {args : Array Value} {s : State} {t : Term} {x : Addr} {C : String} (hf : Fit s) (ht : t.eval args s none [] s = some (.ref x)) (ha : (Jvm.Cond.arrayOf t (.object C)).value args s none s [] = some true) (hl : (Jvm.Cond.eq (.length t) (.int 0)).value args s none s [] = some true) : ∃ k, Arv s s.heap x k (.object C) 0 [] .null := by
  obtain ⟨cl, A⟩ := Arr.start ht ha
  obtain ⟨q1, q2⟩ := own_len ht (A.fin (Vm.Alike.refl _)) (eqv_i (Term.int_eval (0 : Int32)) hl)
  exact ⟨_, Arv.start hf A q1 q2 (by decide) rfl trivial⟩
theorem ef_rm2e (m : MethodId) (x0 : Addr) (x1 : Addr) (x2 : Int32) (x3 : Int32) : entryFrame m #[(.ref x0), (.ref x1), (.int x2), (.int x3), .null] 6 = mkF m 0 #[.val (.ref x0), .val (.ref x1), .val (.int x2), .val (.int x3), .val .null, .unset] [] := by first | (simp [entryFrame, mkF, argsToLocals, Value.category]; done) | rfl
theorem pn_0 : plainName "java/lang/String" = true := by first | (simp [plainName, overriddenIn]; done) | decide +kernel
theorem d2_0 : decode jdk_42_method_149_code 0 = .ok (.aload_n 0, 1) := by decide +kernel
theorem d2_1 : decode jdk_42_method_149_code 1 = .ok (.invokespecial 1, 3) := by decide +kernel
theorem d2_4 : decode jdk_42_method_149_code 4 = .ok (.iload_n 3, 1) := by decide +kernel
theorem d2_5 : decode jdk_42_method_149_code 5 = .ok (.ifCond .ne 22, 3) := by decide +kernel
theorem d2_8 : decode jdk_42_method_149_code 8 = .ok (.aload_n 0, 1) := by decide +kernel
theorem d2_9 : decode jdk_42_method_149_code 9 = .ok (.ldc 7, 2) := by decide +kernel
theorem d2_11 : decode jdk_42_method_149_code 11 = .ok (.getfield 9, 3) := by decide +kernel
theorem d2_14 : decode jdk_42_method_149_code 14 = .ok (.putfield 9, 3) := by decide +kernel
theorem d2_17 : decode jdk_42_method_149_code 17 = .ok (.aload_n 0, 1) := by decide +kernel
theorem d2_18 : decode jdk_42_method_149_code 18 = .ok (.ldc 7, 2) := by decide +kernel
theorem d2_20 : decode jdk_42_method_149_code 20 = .ok (.getfield 15, 3) := by decide +kernel
theorem d2_23 : decode jdk_42_method_149_code 23 = .ok (.putfield 15, 3) := by decide +kernel
theorem d2_26 : decode jdk_42_method_149_code 26 = .ok (.return_, 1) := by decide +kernel
def Q_rm2e (Z : State) (a b : Addr) (h0 : Heap) (n0 : Nat) (v : Option Value) (h : Heap) (L : List Loc) : Prop := v = none ∧ Fr n0 L ∧ Keep h0 h [a] ∧ Exa Z h a "java/lang/String" ∧ Fld Z h a "java/lang/String" "coder" "B" (.int 0) ∧ ∃ (t : Addr) (kb : ClassId), Fld Z h a "java/lang/String" "value" "[B" (.ref t) ∧ Arv Z h t kb .byte 0 [] (.int 0)
set_option maxRecDepth 65536 in
set_option maxHeartbeats 40000000 in
theorem rm2e (l : Launch) (Z : State) (a0 : Array Value) (hw : ∀ d ∈ tables_1, d.before a0 Z = true) (ws : List Jvm.Cond) (a b : Addr) (h0 : Heap) (n0 : Nat) (Z0 : n0 ≤ h0.size) (E_a : Exa Z h0 a "java/lang/String") (F_value : Fld Z h0 a "java/lang/String" "value" "[B" .null) (F_coder : Fld Z h0 a "java/lang/String" "coder" "B" (.int 0)) (g_a : n0 ≤ a) :
    MetFree l (⟨"java/lang/String", "<init>", "([CIILjava/lang/Void;)V"⟩ : MethodName) (head1 (Jvm.Cond.code (⟨"java/lang/String", "<init>", "([CIILjava/lang/Void;)V"⟩ : MethodName) jdk_42_method_149_code 6 none :: ws) ({ frames := 1, cells := 4, slots := 8, locals := 12 } : Room)) (fun ag U => ag = #[(.ref a), (.ref b), (.int (0 : Int32)), (.int (0 : Int32)), .null] ∧ Z.Warmed39 U.vm ∧ U.heap = h0 ∧ CHv Z own_EL U.vm h0) (fun _ _ _ _ _ => True) (fun _ U o U' => ∃ v L, o = .returned v ∧ Q_rm2e Z a b h0 n0 v U'.heap L ∧ CHr Z own_EL U.vm U.heap U'.vm U'.heap ∧ ReturnedEndW U o U' L ({ frames := 1, cells := 4, slots := 8, locals := 12 } : Room).cells ({ frames := 1, cells := 4, slots := 8, locals := 12 } : Room).slots) := by
  refine MetFree.of_bodySF (plainFor_of_name pn_0) hisR ?_
  intro p e s m args below meth c s₁ Bd hml0 hP hK
  obtain ⟨rfl, hZ, hh, hCH⟩ := hP
  have hx := Bd.exec
  have hby := Bd.bytes
  have hml : c.maxLocals = 6 := hml0
  have hown : s.vm.findClass "java/lang/String" = some m.cls := findClass_of_methodNamed Bd.named
  have hnm := (name_of_methodNamed Bd.named Bd.method).1
  have hZ0 : Z.Warmed39 (s.setVm s.vm).vm := hZ
  have hown0 : (s.setVm s.vm).vm.findClass "java/lang/String" = some m.cls := hown
  have hS0 : s.Since s.vm 0 := (State.WarmedH.refl s).since 0
  have hk0 : 0 ≤ h0.size := Nat.zero_le _
  have CR0 : CHr Z own_EL s.vm h0 s.vm h0 := CHr.refl hCH
  have hEL : EW Z a0 own_EL := own_hEL hw
  have wS := own_wS hw
  have X0 : Stand p l e ({ frames := 1, cells := 4, slots := 8, locals := 12 } : Room) (s.setVm s.vm) m #[(.ref a), (.ref b), (.int (0 : Int32)), (.int (0 : Int32)), .null] below meth c s₁ [] 0 0 := Stand.of_body Bd
  have e0 : s₁.heap = h0 := by rw [← hh, Bd.state]; rfl
  have N0 := Fr.nil n0
  refine own_start (ef_rm2e m a b (0 : Int32) (0 : Int32)) ?_
  intro F hF
  show own_Gl p.tables e below F (s₁.setTop (mkF m 0 #[.val (.ref a), .val (.ref b), .val (.int (0 : Int32)), .val (.int (0 : Int32)), .val .null, .unset] []))
  have SFa : Safe Z own_EL s.vm h0 a := own_safeN hZ0.alike E_a F_value
  refine own_go (fun _ k => XS.aloadN X0.here hx rfl (hb hby d2_0) rfl rfl k) ?_
  show own_Gl p.tables e below F (s₁.setTop (mkF m 1 #[.val (.ref a), .val (.ref b), .val (.int (0 : Int32)), .val (.int (0 : Int32)), .val .null, .unset] [(.ref a)]))
  obtain ⟨T1, X1, e1, st1⟩ := initO X0 hx hZ0 hown0 (hw _ (List.mem_of_getElem? (i := 11) rfl)) (hw _ (List.mem_of_getElem? (i := 12) rfl)) (hw _ (List.mem_of_getElem? (i := 13) rfl)) e0 (g := (mkF m 1 #[.val (.ref a), .val (.ref b), .val (.int (0 : Int32)), .val (.int (0 : Int32)), .val .null, .unset] [(.ref a)])) rfl (by rw [hml]; rfl) rfl (hb hby d2_1) (by decide) (W := 0) (by show 2 * 0 + _ ≤ _; exact Nat.le_of_eq rfl) (by decide)
  refine own_go st1 ?_
  show own_Gl p.tables e below F (T1.setTop (mkF m 4 #[.val (.ref a), .val (.ref b), .val (.int (0 : Int32)), .val (.int (0 : Int32)), .val .null, .unset] []))
  refine own_go (fun _ k => XS.iloadN X1.here hx rfl (hb hby d2_4) rfl k) ?_
  show own_Gl p.tables e below F (T1.setTop (mkF m 5 #[.val (.ref a), .val (.ref b), .val (.int (0 : Int32)), .val (.int (0 : Int32)), .val .null, .unset] [(.int (0 : Int32))]))
  refine own_go (fun _ k => XS.ifNo X1.here hx rfl (hb hby d2_5) rfl (XT.i0_ne_f rfl) k) ?_
  show own_Gl p.tables e below F (T1.setTop (mkF m 8 #[.val (.ref a), .val (.ref b), .val (.int (0 : Int32)), .val (.int (0 : Int32)), .val .null, .unset] []))
  refine own_go (fun _ k => XS.aloadN X1.here hx rfl (hb hby d2_8) rfl rfl k) ?_
  show own_Gl p.tables e below F (T1.setTop (mkF m 9 #[.val (.ref a), .val (.ref b), .val (.int (0 : Int32)), .val (.int (0 : Int32)), .val .null, .unset] [(.ref a)]))
  obtain ⟨la2, T2, h2, kk2, lb2, lk2, X2, e2, E2, hS2, hk2, hZ2, hown2, LE2, LC2, LV2, LA2, -, -, hC2, -, hN2, st2⟩ := ldcCH X1 hx hZ0 hown0 (hw _ (List.mem_of_getElem? (i := 149) rfl)) wS e1 hS0 hk0 hEL (by simp [own_EL]) CR0.1 (vs := []) (z := 0) own_txt149 (by decide) rfl (g := (mkF m 9 #[.val (.ref a), .val (.ref b), .val (.int (0 : Int32)), .val (.int (0 : Int32)), .val .null, .unset] [(.ref a)])) rfl (hb hby d2_9) (n := 0) (by decide) (by decide) (by first | decide | exact Nat.le_of_ble_eq_true rfl) (by first | decide | exact Nat.le_of_ble_eq_true rfl)
  have CR2 := CR0.trans hC2
  have sf2_0 := hC2.safe E_a.lt SFa
  have f2_0 := E_a.ext E2
  have f2_1 := F_value.ext E2
  have f2_2 := F_coder.ext E2
  have Z2 : n0 ≤ h2.size := Nat.le_trans Z0 E2.1
  have K2 := Keep.ext (Keep.refl h0 [a]) E2
  have X2 : Stand _ _ _ _ _ _ _ _ _ _ _ _ 2 4 := X2
  refine own_go st2 ?_
  show own_Gl p.tables e below F (T2.setTop (mkF m 11 #[.val (.ref a), .val (.ref b), .val (.int (0 : Int32)), .val (.int (0 : Int32)), .val .null, .unset] [(.ref la2), (.ref a)]))
  obtain ⟨T3, X3, e3, st3⟩ := getF X2 hx hZ2 hown2 (host := "") (Or.inl (hw _ (List.mem_of_getElem? (i := 28) rfl))) Via.refl e2 LV2 (g := (mkF m 11 #[.val (.ref a), .val (.ref b), .val (.int (0 : Int32)), .val (.int (0 : Int32)), .val .null, .unset] [(.ref la2), (.ref a)])) rfl rfl (hb hby d2_11)
  refine own_go st3 ?_
  show own_Gl p.tables e below F (T3.setTop (mkF m 14 #[.val (.ref a), .val (.ref b), .val (.int (0 : Int32)), .val (.int (0 : Int32)), .val .null, .unset] [(.ref lb2), (.ref a)]))
  obtain ⟨T4, h4, X4, e4, W4, st4⟩ := putF X3 hx hZ2 hown2 (host := "") (Or.inl (hw _ (List.mem_of_getElem? (i := 28) rfl))) Via.refl e3 f2_1 f2_0 (Or.inr ⟨(hw _ (List.mem_of_getElem? (i := 29) rfl)), rfl, hnm⟩) (hw _ (List.mem_of_getElem? (i := 1) rfl)) (ty := (.array .byte)) (by decide) rfl rfl (g := (mkF m 14 #[.val (.ref a), .val (.ref b), .val (.int (0 : Int32)), .val (.int (0 : Int32)), .val .null, .unset] [(.ref lb2), (.ref a)])) rfl rfl (hb hby d2_14)
  have Fw4 := f2_1.same W4
  have f4_1 := f2_0.wr W4
  have f4_3 := f2_2.other W4 (Or.inr (slot_ne (Or.inr (hw _ (List.mem_of_getElem? (i := 27) rfl))) (Or.inr (hw _ (List.mem_of_getElem? (i := 29) rfl))) (by decide) (t := .byte) (t' := (.array .byte)) (by decide) (by decide)))
  have f4_4 := LE2.wr W4
  have f4_5 := LC2.other W4 (Or.inl (Ne.symm (hN2 a sf2_0).1))
  have f4_6 := LV2.other W4 (Or.inl (Ne.symm (hN2 a sf2_0).1))
  have f4_7 := LA2.other W4 (Ne.symm (hN2 a sf2_0).2)
  have Z4 : n0 ≤ h4.size := by rw [W4.size]; exact Z2
  have K4 := Keep.wr K2 W4 (Or.inl (by simp))
  have sf4_0 := Safe.wr W4 sf2_0 CR2.1 sf2_0
  have CR4 := CR2.trans (CHr.wr W4 sf2_0 CR2.1)
  have hk4 : kk2 ≤ h4.size := by rw [W4.size]; exact hk2
  have N4 := Fr.snoc X4 N0 g_a
  refine own_go st4 ?_
  show own_Gl p.tables e below F (T4.setTop (mkF m 17 #[.val (.ref a), .val (.ref b), .val (.int (0 : Int32)), .val (.int (0 : Int32)), .val .null, .unset] []))
  refine own_go (fun _ k => XS.aloadN X4.here hx rfl (hb hby d2_17) rfl rfl k) ?_
  show own_Gl p.tables e below F (T4.setTop (mkF m 18 #[.val (.ref a), .val (.ref b), .val (.int (0 : Int32)), .val (.int (0 : Int32)), .val .null, .unset] [(.ref a)]))
  obtain ⟨la5, T5, h5, kk5, lb5, lk5, X5, e5, E5, hS5, hk5, hZ5, hown5, LE5, LC5, LV5, LA5, -, -, hC5, -, hN5, st5⟩ := ldcCH X4 hx hZ2 hown2 (hw _ (List.mem_of_getElem? (i := 149) rfl)) wS e4 hS2 hk4 hEL (by simp [own_EL]) CR4.1 (vs := []) (z := 0) own_txt149 (by decide) rfl (g := (mkF m 18 #[.val (.ref a), .val (.ref b), .val (.int (0 : Int32)), .val (.int (0 : Int32)), .val .null, .unset] [(.ref a)])) rfl (hb hby d2_18) (n := 0) (by decide) (by decide) (by first | decide | exact Nat.le_of_ble_eq_true rfl) (by first | decide | exact Nat.le_of_ble_eq_true rfl)
  have CR5 := CR4.trans hC5
  have sf5_0 := hC5.safe f4_1.lt sf4_0
  have f5_0 := f4_1.ext E5
  have f5_1 := Fw4.ext E5
  have f5_2 := f4_3.ext E5
  have f5_3 := f4_4.ext E5
  have f5_4 := f4_5.ext E5
  have f5_5 := f4_6.ext E5
  have f5_6 := f4_7.ext E5
  have Z5 : n0 ≤ h5.size := Nat.le_trans Z4 E5.1
  have K5 := Keep.ext K4 E5
  have X5 : Stand _ _ _ _ _ _ _ _ _ _ _ _ 4 8 := X5
  refine own_go st5 ?_
  show own_Gl p.tables e below F (T5.setTop (mkF m 20 #[.val (.ref a), .val (.ref b), .val (.int (0 : Int32)), .val (.int (0 : Int32)), .val .null, .unset] [(.ref la5), (.ref a)]))
  obtain ⟨T6, X6, e6, st6⟩ := getF X5 hx hZ5 hown5 (host := "") (Or.inl (hw _ (List.mem_of_getElem? (i := 26) rfl))) Via.refl e5 LC5 (g := (mkF m 20 #[.val (.ref a), .val (.ref b), .val (.int (0 : Int32)), .val (.int (0 : Int32)), .val .null, .unset] [(.ref la5), (.ref a)])) rfl rfl (hb hby d2_20)
  refine own_go st6 ?_
  show own_Gl p.tables e below F (T6.setTop (mkF m 23 #[.val (.ref a), .val (.ref b), .val (.int (0 : Int32)), .val (.int (0 : Int32)), .val .null, .unset] [(.int (0 : Int32)), (.ref a)]))
  obtain ⟨T7, h7, X7, e7, W7, st7⟩ := putFN X6 hx hZ5 hown5 (hw _ (List.mem_of_getElem? (i := 26) rfl)) Via.refl e6 f5_2 f5_0 (Or.inr ⟨(hw _ (List.mem_of_getElem? (i := 27) rfl)), rfl, hnm⟩) (hw _ (List.mem_of_getElem? (i := 1) rfl)) (ty := .byte) (v' := (.int (0 : Int32))) (by decide) rfl rfl (g := (mkF m 23 #[.val (.ref a), .val (.ref b), .val (.int (0 : Int32)), .val (.int (0 : Int32)), .val .null, .unset] [(.int (0 : Int32)), (.ref a)])) rfl rfl (hb hby d2_23)
  have Fw7 := f5_2.same W7
  have f7_1 := f5_0.wr W7
  have f7_2 := f5_1.other W7 (Or.inr (slot_ne (Or.inr (hw _ (List.mem_of_getElem? (i := 29) rfl))) (Or.inr (hw _ (List.mem_of_getElem? (i := 27) rfl))) (by decide) (t := (.array .byte)) (t' := .byte) (by decide) (by decide)))
  have f7_4 := f5_3.wr W7
  have f7_5 := f5_4.other W7 (Or.inl (Ne.symm (hN2 a sf2_0).1))
  have f7_6 := f5_5.other W7 (Or.inl (Ne.symm (hN2 a sf2_0).1))
  have f7_7 := f5_6.other W7 (Ne.symm (hN2 a sf2_0).2)
  have f7_8 := LE5.wr W7
  have f7_9 := LC5.other W7 (Or.inl (Ne.symm (hN5 a sf5_0).1))
  have f7_10 := LV5.other W7 (Or.inl (Ne.symm (hN5 a sf5_0).1))
  have f7_11 := LA5.other W7 (Ne.symm (hN5 a sf5_0).2)
  have Z7 : n0 ≤ h7.size := by rw [W7.size]; exact Z5
  have K7 := Keep.wr K5 W7 (Or.inl (by simp))
  have sf7_0 := Safe.wr W7 sf5_0 CR5.1 sf5_0
  have CR7 := CR5.trans (CHr.wr W7 sf5_0 CR5.1)
  have hk7 : kk5 ≤ h7.size := by rw [W7.size]; exact hk5
  have N7 := Fr.snoc X7 N4 g_a
  refine own_go st7 ?_
  show own_Gl p.tables e below F (T7.setTop (mkF m 26 #[.val (.ref a), .val (.ref b), .val (.int (0 : Int32)), .val (.int (0 : Int32)), .val .null, .unset] []))
  obtain ⟨fs, hr, hrun, hended, hRW⟩ := Jvm.Stand.leaveW X7 hS5 (by rw [e7]; exact hk7) (v := none) (fun _ => rfl)
  have CE : CHr Z own_EL s.vm s.heap T7.vm T7.heap := by rw [hh, e7]; exact CR7.trans (CHv.at X7 hZ5 hEL CR7.1)
  subst hF
  refine own_fin ?_ ⟨hrun, hended, _, _, rfl, ?_, CE, hRW.1, hRW.2.1, hRW.2.2.1, hRW.2.2.2.mono (by first | decide | exact Nat.le_of_ble_eq_true rfl) (by first | decide | exact Nat.le_of_ble_eq_true rfl)⟩
  · exact X7.returnOut hx Bd.returns (hb hby d2_26) hr
  · show Q_rm2e Z _ _ h0 n0 _ T7.heap _
    rw [e7]
    exact ⟨rfl, N7, K7, f7_1, Fw7, lb2, _, f7_2, f7_7⟩
theorem ef_rm1e (m : MethodId) (x0 : Addr) (x1 : Addr) : entryFrame m #[(.ref x0), (.ref x1)] 2 = mkF m 0 #[.val (.ref x0), .val (.ref x1)] [] := by first | (simp [entryFrame, mkF, argsToLocals, Value.category]; done) | rfl
theorem d1_0 : decode jdk_42_method_3_code 0 = .ok (.aload_n 0, 1) := by decide +kernel
theorem d1_1 : decode jdk_42_method_3_code 1 = .ok (.aload_n 1, 1) := by decide +kernel
theorem d1_2 : decode jdk_42_method_3_code 2 = .ok (.iconst 0, 1) := by decide +kernel
theorem d1_3 : decode jdk_42_method_3_code 3 = .ok (.aload_n 1, 1) := by decide +kernel
theorem d1_4 : decode jdk_42_method_3_code 4 = .ok (.arraylength, 1) := by decide +kernel
theorem d1_5 : decode jdk_42_method_3_code 5 = .ok (.aconst_null, 1) := by decide +kernel
theorem d1_6 : decode jdk_42_method_3_code 6 = .ok (.invokespecial 27, 3) := by decide +kernel
theorem pd_0 : parseMethodDescriptor "([CIILjava/lang/Void;)V" = some ⟨[(.array .char), .int, .int, (.object "java/lang/Void")], none⟩ := by decide +kernel
theorem d1_9 : decode jdk_42_method_3_code 9 = .ok (.return_, 1) := by decide +kernel
def Q_rm1e (Z : State) (a b : Addr) (kC : ClassId) (h0 : Heap) (n0 : Nat) (v : Option Value) (h : Heap) (L : List Loc) : Prop := v = none ∧ Fr n0 L ∧ Keep h0 h [a] ∧ Exa Z h a "java/lang/String" ∧ Fld Z h a "java/lang/String" "coder" "B" (.int 0) ∧ ∃ (t : Addr) (kb : ClassId), Fld Z h a "java/lang/String" "value" "[B" (.ref t) ∧ Arv Z h t kb .byte 0 [] (.int 0)
set_option maxRecDepth 65536 in
set_option maxHeartbeats 40000000 in
theorem rm1e (l : Launch) (Z : State) (a0 : Array Value) (hw : ∀ d ∈ tables_1, d.before a0 Z = true) (ws : List Jvm.Cond) (a b : Addr) (kC : ClassId) (h0 : Heap) (n0 : Nat) (Z0 : n0 ≤ h0.size) (E_a : Exa Z h0 a "java/lang/String") (F_value : Fld Z h0 a "java/lang/String" "value" "[B" .null) (F_coder : Fld Z h0 a "java/lang/String" "coder" "B" (.int 0)) (V_b : Arv Z h0 b kC .char 0 [] (.int 0)) (g_a : n0 ≤ a) :
    MetFree l (⟨"java/lang/String", "<init>", "([C)V"⟩ : MethodName) (head1 (Jvm.Cond.code (⟨"java/lang/String", "<init>", "([C)V"⟩ : MethodName) jdk_42_method_3_code 2 none :: ws) ({ frames := 2, cells := 4, slots := 8, locals := 29 } : Room)) (fun ag U => ag = #[(.ref a), (.ref b)] ∧ Z.Warmed39 U.vm ∧ U.heap = h0 ∧ CHv Z own_EL U.vm h0) (fun _ _ _ _ _ => True) (fun _ U o U' => ∃ v L, o = .returned v ∧ Q_rm1e Z a b kC h0 n0 v U'.heap L ∧ CHr Z own_EL U.vm U.heap U'.vm U'.heap ∧ ReturnedEndW U o U' L ({ frames := 2, cells := 4, slots := 8, locals := 29 } : Room).cells ({ frames := 2, cells := 4, slots := 8, locals := 29 } : Room).slots) := by
  refine MetFree.of_bodySF (plainFor_of_name pn_0) hisR ?_
  intro p e s m args below meth c s₁ Bd hml0 hP hK
  obtain ⟨rfl, hZ, hh, hCH⟩ := hP
  have hx := Bd.exec
  have hby := Bd.bytes
  have hml : c.maxLocals = 2 := hml0
  have hown : s.vm.findClass "java/lang/String" = some m.cls := findClass_of_methodNamed Bd.named
  have hnm := (name_of_methodNamed Bd.named Bd.method).1
  have hZ0 : Z.Warmed39 (s.setVm s.vm).vm := hZ
  have hown0 : (s.setVm s.vm).vm.findClass "java/lang/String" = some m.cls := hown
  have hS0 : s.Since s.vm 0 := (State.WarmedH.refl s).since 0
  have hk0 : 0 ≤ h0.size := Nat.zero_le _
  have CR0 : CHr Z own_EL s.vm h0 s.vm h0 := CHr.refl hCH
  have hEL : EW Z a0 own_EL := own_hEL hw
  have wS := own_wS hw
  have X0 : Stand p l e ({ frames := 2, cells := 4, slots := 8, locals := 29 } : Room) (s.setVm s.vm) m #[(.ref a), (.ref b)] below meth c s₁ [] 0 0 := Stand.of_body Bd
  have e0 : s₁.heap = h0 := by rw [← hh, Bd.state]; rfl
  have N0 := Fr.nil n0
  refine own_start (ef_rm1e m a b) ?_
  intro F hF
  show own_Gl p.tables e below F (s₁.setTop (mkF m 0 #[.val (.ref a), .val (.ref b)] []))
  refine own_go (fun _ k => XS.aloadN X0.here hx rfl (hb hby d1_0) rfl rfl k) ?_
  show own_Gl p.tables e below F (s₁.setTop (mkF m 1 #[.val (.ref a), .val (.ref b)] [(.ref a)]))
  refine own_go (fun _ k => XS.aloadN X0.here hx rfl (hb hby d1_1) rfl rfl k) ?_
  show own_Gl p.tables e below F (s₁.setTop (mkF m 2 #[.val (.ref a), .val (.ref b)] [(.ref b), (.ref a)]))
  refine own_go (fun _ k => XS.iconst X0.here hx rfl (hb hby d1_2) k) ?_
  show own_Gl p.tables e below F (s₁.setTop (mkF m 3 #[.val (.ref a), .val (.ref b)] [(.int (0 : Int32)), (.ref b), (.ref a)]))
  refine own_go (fun _ k => XS.aloadN X0.here hx rfl (hb hby d1_3) rfl rfl k) ?_
  show own_Gl p.tables e below F (s₁.setTop (mkF m 4 #[.val (.ref a), .val (.ref b)] [(.ref b), (.int (0 : Int32)), (.ref b), (.ref a)]))
  obtain ⟨cl1, Ar1, ak1, aS1, aN1, aH1, aG1⟩ := id V_b
  refine own_go (fun _ k => X0.arraylength hx (by rw [e0]; exact Ar1.1) (State.isArrayOf_alike hZ0.alike Ar1.2.1) (g := (mkF m 4 #[.val (.ref a), .val (.ref b)] [(.ref b), (.int (0 : Int32)), (.ref b), (.ref a)])) rfl rfl (hb hby d1_4) _ k) ?_
  rw [len_of aS1 aN1]
  show own_Gl p.tables e below F (s₁.setTop (mkF m 5 #[.val (.ref a), .val (.ref b)] [(.int (0 : Int32)), (.int (0 : Int32)), (.ref b), (.ref a)]))
  refine own_go (fun _ k => XS.aconstNull X0.here hx rfl (hb hby d1_5) k) ?_
  show own_Gl p.tables e below F (s₁.setTop (mkF m 6 #[.val (.ref a), .val (.ref b)] [.null, (.int (0 : Int32)), (.int (0 : Int32)), (.ref b), (.ref a)]))
  obtain ⟨_, _, ⟨T2, L2, k2, n2⟩, -, X2, hs2, hg2, ⟨Lc2, hQ2, l2, y2, z2, hC2⟩, st2⟩ := X0.specialBackS hx (y := (⟨"java/lang/String", "<init>", "([CIILjava/lang/Void;)V"⟩ : MethodName)) rfl hown0 (mvT hZ0 (hw _ (List.mem_of_getElem? (i := 7) rfl))) (mvT hZ0 (hw _ (List.mem_of_getElem? (i := 8) rfl))) (mvT hZ0 (hw _ (List.mem_of_getElem? (i := 10) rfl))) (by decide) (backOfSH (W := 0) (rm2e l Z a0 hw [] a b  h0 n0 Z0 E_a F_value F_coder g_a) hZ0 (hw _ (List.mem_of_getElem? (i := 10) rfl)) (hw _ (List.mem_of_getElem? (i := 2) rfl)) (by decide) (by decide) hEL CR0.1) (g := (mkF m 6 #[.val (.ref a), .val (.ref b)] [.null, (.int (0 : Int32)), (.int (0 : Int32)), (.ref b), (.ref a)])) rfl (by rw [hml]; rfl) (Steps.refl _) (a := a) (argsL := [(.ref b), (.int (0 : Int32)), (.int (0 : Int32)), .null]) (rest := []) (lenOf pd_0 rfl) rfl (by show 2 * 0 + _ ≤ _; exact Nat.le_of_eq rfl) (hb hby d1_6) (fun _ _ => ⟨rfl, e0, (by first | decide | exact Nat.le_of_ble_eq_true rfl), (by first | decide | exact Nat.le_of_ble_eq_true rfl)⟩)
  dsimp only [Pt.U, Pt.locs, Pt.cells, Pt.slots] at X2 l2 y2 z2 st2 hQ2 hs2 hg2 hC2
  have X2 := own_sn X2 (k' := 4) (n' := 8) y2 z2
  obtain ⟨rfl, N2, K2, GE2, GC2, t2, kb2, GV2, GA2⟩ := hQ2
  have NF2 := own_fr l2 N0 N2
  obtain ⟨XR2, hS2, hZ2, hown2⟩ := rebS hS0 (by rw [e0]; exact hk0) X2 hs2 hg2 hZ0 hown0
  have CR2 := CR0.trans hC2
  have f2_1 := E_a.keep K2
  have Z2 : n0 ≤ T2.heap.size := Nat.le_trans Z0 K2.1
  have KK2 := Keep.trans (Keep.refl h0 [a]) K2 (by intro z hz; simp at hz; rcases hz with rfl; all_goals first | (left; simp; done) | (right; assumption))
  have hk2 : T2.heap.size ≤ T2.heap.size := Nat.le_refl _
  refine own_go (fun _ k => st2.trans k) ?_
  show own_Gl p.tables e below F (T2.setTop (mkF m 9 #[.val (.ref a), .val (.ref b)] []))
  obtain ⟨fs, hr, hrun, hended, hRW⟩ := Jvm.Stand.leaveW XR2 hS2 (by exact hk2) (v := none) (fun _ => rfl)
  have CE : CHr Z own_EL s.vm s.heap T2.vm T2.heap := by rw [hh]; exact CR2.trans (CHv.at XR2 hZ2 hEL CR2.1)
  subst hF
  refine own_fin ?_ ⟨hrun, hended, _, _, rfl, ?_, CE, hRW.1, hRW.2.1, hRW.2.2.1, hRW.2.2.2.mono (by first | decide | exact Nat.le_of_ble_eq_true rfl) (by first | decide | exact Nat.le_of_ble_eq_true rfl)⟩
  · exact XR2.returnOut hx Bd.returns (hb hby d1_9) hr
  · show Q_rm1e Z _ _ _ h0 n0 _ T2.heap _
    exact ⟨rfl, NF2, KK2, GE2, GC2, t2, kb2, GV2, GA2⟩
theorem ef_rm13 (m : MethodId) (x0 : Addr) : entryFrame m #[(.ref x0)] 1 = mkF m 0 #[.val (.ref x0)] [] := by first | (simp [entryFrame, mkF, argsToLocals, Value.category]; done) | rfl
theorem pn_1 : plainName "java/util/AbstractCollection" = true := by first | (simp [plainName, overriddenIn]; done) | decide +kernel
theorem d13_0 : decode jdk_22_method_1_code 0 = .ok (.aload_n 0, 1) := by decide +kernel
theorem d13_1 : decode jdk_22_method_1_code 1 = .ok (.invokespecial 1, 3) := by decide +kernel
theorem d13_4 : decode jdk_22_method_1_code 4 = .ok (.return_, 1) := by decide +kernel
def Q_rm13 (Z : State) (a : Addr) (h0 : Heap) (n0 : Nat) (v : Option Value) (h : Heap) (L : List Loc) : Prop := v = none ∧ Fr n0 L ∧ h = h0
set_option maxRecDepth 65536 in
set_option maxHeartbeats 40000000 in
theorem rm13 (l : Launch) (Z : State) (a0 : Array Value) (hw : ∀ d ∈ tables_1, d.before a0 Z = true) (ws : List Jvm.Cond) (a : Addr) (h0 : Heap) (n0 : Nat) (Z0 : n0 ≤ h0.size) :
    MetFree l (⟨"java/util/AbstractCollection", "<init>", "()V"⟩ : MethodName) (head1 (Jvm.Cond.code (⟨"java/util/AbstractCollection", "<init>", "()V"⟩ : MethodName) jdk_22_method_1_code 1 none :: ws) ({ frames := 1, cells := 0, slots := 0, locals := 12 } : Room)) (fun ag U => ag = #[(.ref a)] ∧ Z.Warmed39 U.vm ∧ U.heap = h0) (fun _ _ _ _ _ => True) (fun _ U o U' => ∃ v L, o = .returned v ∧ Q_rm13 Z a h0 n0 v U'.heap L ∧ FrameEnd U o U' L ({ frames := 1, cells := 0, slots := 0, locals := 12 } : Room).cells ({ frames := 1, cells := 0, slots := 0, locals := 12 } : Room).slots) := by
  refine MetFree.of_bodySF (plainFor_of_name pn_1) hisR ?_
  intro p e s m args below meth c s₁ Bd hml0 hP hK
  obtain ⟨rfl, hZ, hh⟩ := hP
  have hx := Bd.exec
  have hby := Bd.bytes
  have hml : c.maxLocals = 1 := hml0
  have hown : s.vm.findClass "java/util/AbstractCollection" = some m.cls := findClass_of_methodNamed Bd.named
  have hnm := (name_of_methodNamed Bd.named Bd.method).1
  have X0 : Stand p l e ({ frames := 1, cells := 0, slots := 0, locals := 12 } : Room) s m #[(.ref a)] below meth c s₁ [] 0 0 := Stand.of_body Bd
  have e0 : s₁.heap = h0 := by rw [← hh, Bd.state]; rfl
  have N0 := Fr.nil n0
  refine own_start (ef_rm13 m a) ?_
  intro F hF
  show own_Gl p.tables e below F (s₁.setTop (mkF m 0 #[.val (.ref a)] []))
  refine own_go (fun _ k => XS.aloadN X0.here hx rfl (hb hby d13_0) rfl rfl k) ?_
  show own_Gl p.tables e below F (s₁.setTop (mkF m 1 #[.val (.ref a)] [(.ref a)]))
  obtain ⟨T1, X1, e1, st1⟩ := initO X0 hx hZ hown (hw _ (List.mem_of_getElem? (i := 62) rfl)) (hw _ (List.mem_of_getElem? (i := 12) rfl)) (hw _ (List.mem_of_getElem? (i := 13) rfl)) e0 (g := (mkF m 1 #[.val (.ref a)] [(.ref a)])) rfl (by rw [hml]; rfl) rfl (hb hby d13_1) (by decide) (W := 0) (by show 2 * 0 + _ ≤ _; exact Nat.le_of_eq rfl) (by decide)
  refine own_go st1 ?_
  show own_Gl p.tables e below F (T1.setTop (mkF m 4 #[.val (.ref a)] []))
  obtain ⟨fs, hr, hrun, hended, hW, hsame⟩ := X1.leave (v := none) (fun _ => rfl)
  subst hF
  refine own_fin ?_ ⟨hrun, hended, _, _, rfl, ?_, ⟨_, rfl⟩, hW, hsame.mono (by first | decide | exact Nat.le_of_ble_eq_true rfl) (by first | decide | exact Nat.le_of_ble_eq_true rfl)⟩
  · exact X1.returnOut hx Bd.returns (hb hby d13_4) hr
  · show Q_rm13 Z _ h0 n0 _ T1.heap _
    rw [e1]
    exact ⟨rfl, N0, rfl⟩
theorem ef_rm18 (m : MethodId) (x0 : Addr) : entryFrame m #[(.ref x0)] 1 = mkF m 0 #[.val (.ref x0)] [] := by first | (simp [entryFrame, mkF, argsToLocals, Value.category]; done) | rfl
theorem pn_2 : plainName "java/lang/Record" = true := by first | (simp [plainName, overriddenIn]; done) | decide +kernel
theorem d18_0 : decode jdk_30_method_1_code 0 = .ok (.aload_n 0, 1) := by decide +kernel
theorem d18_1 : decode jdk_30_method_1_code 1 = .ok (.invokespecial 1, 3) := by decide +kernel
theorem d18_4 : decode jdk_30_method_1_code 4 = .ok (.return_, 1) := by decide +kernel
def Q_rm18 (Z : State) (a : Addr) (h0 : Heap) (n0 : Nat) (v : Option Value) (h : Heap) (L : List Loc) : Prop := v = none ∧ Fr n0 L ∧ h = h0
set_option maxRecDepth 65536 in
set_option maxHeartbeats 40000000 in
theorem rm18 (l : Launch) (Z : State) (a0 : Array Value) (hw : ∀ d ∈ tables_1, d.before a0 Z = true) (ws : List Jvm.Cond) (a : Addr) (h0 : Heap) (n0 : Nat) (Z0 : n0 ≤ h0.size) :
    MetFree l (⟨"java/lang/Record", "<init>", "()V"⟩ : MethodName) (head1 (Jvm.Cond.code (⟨"java/lang/Record", "<init>", "()V"⟩ : MethodName) jdk_30_method_1_code 1 none :: ws) ({ frames := 1, cells := 0, slots := 0, locals := 12 } : Room)) (fun ag U => ag = #[(.ref a)] ∧ Z.Warmed39 U.vm ∧ U.heap = h0) (fun _ _ _ _ _ => True) (fun _ U o U' => ∃ v L, o = .returned v ∧ Q_rm18 Z a h0 n0 v U'.heap L ∧ FrameEnd U o U' L ({ frames := 1, cells := 0, slots := 0, locals := 12 } : Room).cells ({ frames := 1, cells := 0, slots := 0, locals := 12 } : Room).slots) := by
  refine MetFree.of_bodySF (plainFor_of_name pn_2) hisR ?_
  intro p e s m args below meth c s₁ Bd hml0 hP hK
  obtain ⟨rfl, hZ, hh⟩ := hP
  have hx := Bd.exec
  have hby := Bd.bytes
  have hml : c.maxLocals = 1 := hml0
  have hown : s.vm.findClass "java/lang/Record" = some m.cls := findClass_of_methodNamed Bd.named
  have hnm := (name_of_methodNamed Bd.named Bd.method).1
  have X0 : Stand p l e ({ frames := 1, cells := 0, slots := 0, locals := 12 } : Room) s m #[(.ref a)] below meth c s₁ [] 0 0 := Stand.of_body Bd
  have e0 : s₁.heap = h0 := by rw [← hh, Bd.state]; rfl
  have N0 := Fr.nil n0
  refine own_start (ef_rm18 m a) ?_
  intro F hF
  show own_Gl p.tables e below F (s₁.setTop (mkF m 0 #[.val (.ref a)] []))
  refine own_go (fun _ k => XS.aloadN X0.here hx rfl (hb hby d18_0) rfl rfl k) ?_
  show own_Gl p.tables e below F (s₁.setTop (mkF m 1 #[.val (.ref a)] [(.ref a)]))
  obtain ⟨T1, X1, e1, st1⟩ := initO X0 hx hZ hown (hw _ (List.mem_of_getElem? (i := 96) rfl)) (hw _ (List.mem_of_getElem? (i := 12) rfl)) (hw _ (List.mem_of_getElem? (i := 13) rfl)) e0 (g := (mkF m 1 #[.val (.ref a)] [(.ref a)])) rfl (by rw [hml]; rfl) rfl (hb hby d18_1) (by decide) (W := 0) (by show 2 * 0 + _ ≤ _; exact Nat.le_of_eq rfl) (by decide)
  refine own_go st1 ?_
  show own_Gl p.tables e below F (T1.setTop (mkF m 4 #[.val (.ref a)] []))
  obtain ⟨fs, hr, hrun, hended, hW, hsame⟩ := X1.leave (v := none) (fun _ => rfl)
  subst hF
  refine own_fin ?_ ⟨hrun, hended, _, _, rfl, ?_, ⟨_, rfl⟩, hW, hsame.mono (by first | decide | exact Nat.le_of_ble_eq_true rfl) (by first | decide | exact Nat.le_of_ble_eq_true rfl)⟩
  · exact X1.returnOut hx Bd.returns (hb hby d18_4) hr
  · show Q_rm18 Z _ h0 n0 _ T1.heap _
    rw [e1]
    exact ⟨rfl, N0, rfl⟩
theorem ef_rm39 (m : MethodId) (x0 : Addr) : entryFrame m #[(.ref x0)] 1 = mkF m 0 #[.val (.ref x0)] [] := by first | (simp [entryFrame, mkF, argsToLocals, Value.category]; done) | rfl
theorem pn_3 : plainName "java/util/ImmutableCollections$AbstractImmutableCollection" = true := by first | (simp [plainName, overriddenIn]; done) | decide +kernel
theorem d39_0 : decode jdk_47_method_1_code 0 = .ok (.aload_n 0, 1) := by decide +kernel
theorem d39_1 : decode jdk_47_method_1_code 1 = .ok (.invokespecial 1, 3) := by decide +kernel
theorem pd_1 : parseMethodDescriptor "()V" = some ⟨[], none⟩ := by decide +kernel
theorem d39_4 : decode jdk_47_method_1_code 4 = .ok (.return_, 1) := by decide +kernel
def Q_rm39 (Z : State) (a : Addr) (h0 : Heap) (n0 : Nat) (v : Option Value) (h : Heap) (L : List Loc) : Prop := v = none ∧ Fr n0 L ∧ h = h0
set_option maxRecDepth 65536 in
set_option maxHeartbeats 40000000 in
theorem rm39 (l : Launch) (Z : State) (a0 : Array Value) (hw : ∀ d ∈ tables_1, d.before a0 Z = true) (ws : List Jvm.Cond) (a : Addr) (h0 : Heap) (n0 : Nat) (Z0 : n0 ≤ h0.size) :
    MetFree l (⟨"java/util/ImmutableCollections$AbstractImmutableCollection", "<init>", "()V"⟩ : MethodName) (head1 (Jvm.Cond.code (⟨"java/util/ImmutableCollections$AbstractImmutableCollection", "<init>", "()V"⟩ : MethodName) jdk_47_method_1_code 1 none :: ws) ({ frames := 2, cells := 0, slots := 0, locals := 24 } : Room)) (fun ag U => ag = #[(.ref a)] ∧ Z.Warmed39 U.vm ∧ U.heap = h0) (fun _ _ _ _ _ => True) (fun _ U o U' => ∃ v L, o = .returned v ∧ Q_rm39 Z a h0 n0 v U'.heap L ∧ FrameEnd U o U' L ({ frames := 2, cells := 0, slots := 0, locals := 24 } : Room).cells ({ frames := 2, cells := 0, slots := 0, locals := 24 } : Room).slots) := by
  refine MetFree.of_bodySF (plainFor_of_name pn_3) hisR ?_
  intro p e s m args below meth c s₁ Bd hml0 hP hK
  obtain ⟨rfl, hZ, hh⟩ := hP
  have hx := Bd.exec
  have hby := Bd.bytes
  have hml : c.maxLocals = 1 := hml0
  have hown : s.vm.findClass "java/util/ImmutableCollections$AbstractImmutableCollection" = some m.cls := findClass_of_methodNamed Bd.named
  have hnm := (name_of_methodNamed Bd.named Bd.method).1
  have X0 : Stand p l e ({ frames := 2, cells := 0, slots := 0, locals := 24 } : Room) s m #[(.ref a)] below meth c s₁ [] 0 0 := Stand.of_body Bd
  have e0 : s₁.heap = h0 := by rw [← hh, Bd.state]; rfl
  have N0 := Fr.nil n0
  refine own_start (ef_rm39 m a) ?_
  intro F hF
  show own_Gl p.tables e below F (s₁.setTop (mkF m 0 #[.val (.ref a)] []))
  refine own_go (fun _ k => XS.aloadN X0.here hx rfl (hb hby d39_0) rfl rfl k) ?_
  show own_Gl p.tables e below F (s₁.setTop (mkF m 1 #[.val (.ref a)] [(.ref a)]))
  obtain ⟨_, _, ⟨T1, L1, k1, n1⟩, -, X1, ⟨Lc1, hQ1, l1, y1, z1⟩, st1⟩ := X0.specialBack hx (y := (⟨"java/util/AbstractCollection", "<init>", "()V"⟩ : MethodName)) rfl hown (mvT hZ (hw _ (List.mem_of_getElem? (i := 240) rfl))) (mvT hZ (hw _ (List.mem_of_getElem? (i := 57) rfl))) (mvT hZ (hw _ (List.mem_of_getElem? (i := 61) rfl))) (by decide) (backOf (W := 0) (rm13 l Z a0 hw [] a  h0 n0 Z0 ) hZ (hw _ (List.mem_of_getElem? (i := 61) rfl)) (hw _ (List.mem_of_getElem? (i := 60) rfl)) (by decide) (by decide)) (g := (mkF m 1 #[.val (.ref a)] [(.ref a)])) rfl (by rw [hml]; rfl) (Steps.refl _) (a := a) (argsL := []) (rest := []) (lenOf pd_1 rfl) rfl (by show 2 * 0 + _ ≤ _; exact Nat.le_of_eq rfl) (hb hby d39_1) (fun _ _ => ⟨rfl, e0, (by first | decide | exact Nat.le_of_ble_eq_true rfl), (by first | decide | exact Nat.le_of_ble_eq_true rfl)⟩)
  dsimp only [Pt.U, Pt.locs, Pt.cells, Pt.slots] at X1 l1 y1 z1 st1 hQ1
  have X1 := own_sn X1 (k' := 0) (n' := 0) y1 z1
  obtain ⟨rfl, N1, e1⟩ := hQ1
  have NF1 := own_fr l1 N0 N1
  refine own_go (fun _ k => st1.trans k) ?_
  show own_Gl p.tables e below F (T1.setTop (mkF m 4 #[.val (.ref a)] []))
  obtain ⟨fs, hr, hrun, hended, hW, hsame⟩ := X1.leave (v := none) (fun _ => rfl)
  subst hF
  refine own_fin ?_ ⟨hrun, hended, _, _, rfl, ?_, ⟨_, rfl⟩, hW, hsame.mono (by first | decide | exact Nat.le_of_ble_eq_true rfl) (by first | decide | exact Nat.le_of_ble_eq_true rfl)⟩
  · exact X1.returnOut hx Bd.returns (hb hby d39_4) hr
  · show Q_rm39 Z _ h0 n0 _ T1.heap _
    rw [e1]
    exact ⟨rfl, NF1, rfl⟩
theorem ef_rm38 (m : MethodId) (x0 : Addr) : entryFrame m #[(.ref x0)] 1 = mkF m 0 #[.val (.ref x0)] [] := by first | (simp [entryFrame, mkF, argsToLocals, Value.category]; done) | rfl
theorem pn_4 : plainName "java/util/ImmutableCollections$AbstractImmutableList" = true := by first | (simp [plainName, overriddenIn]; done) | decide +kernel
theorem d38_0 : decode jdk_46_method_1_code 0 = .ok (.aload_n 0, 1) := by decide +kernel
theorem d38_1 : decode jdk_46_method_1_code 1 = .ok (.invokespecial 1, 3) := by decide +kernel
theorem d38_4 : decode jdk_46_method_1_code 4 = .ok (.return_, 1) := by decide +kernel
def Q_rm38 (Z : State) (a : Addr) (h0 : Heap) (n0 : Nat) (v : Option Value) (h : Heap) (L : List Loc) : Prop := v = none ∧ Fr n0 L ∧ h = h0
set_option maxRecDepth 65536 in
set_option maxHeartbeats 40000000 in
theorem rm38 (l : Launch) (Z : State) (a0 : Array Value) (hw : ∀ d ∈ tables_1, d.before a0 Z = true) (ws : List Jvm.Cond) (a : Addr) (h0 : Heap) (n0 : Nat) (Z0 : n0 ≤ h0.size) :
    MetFree l (⟨"java/util/ImmutableCollections$AbstractImmutableList", "<init>", "()V"⟩ : MethodName) (head1 (Jvm.Cond.code (⟨"java/util/ImmutableCollections$AbstractImmutableList", "<init>", "()V"⟩ : MethodName) jdk_46_method_1_code 1 none :: ws) ({ frames := 3, cells := 0, slots := 0, locals := 36 } : Room)) (fun ag U => ag = #[(.ref a)] ∧ Z.Warmed39 U.vm ∧ U.heap = h0) (fun _ _ _ _ _ => True) (fun _ U o U' => ∃ v L, o = .returned v ∧ Q_rm38 Z a h0 n0 v U'.heap L ∧ FrameEnd U o U' L ({ frames := 3, cells := 0, slots := 0, locals := 36 } : Room).cells ({ frames := 3, cells := 0, slots := 0, locals := 36 } : Room).slots) := by
  refine MetFree.of_bodySF (plainFor_of_name pn_4) hisR ?_
  intro p e s m args below meth c s₁ Bd hml0 hP hK
  obtain ⟨rfl, hZ, hh⟩ := hP
  have hx := Bd.exec
  have hby := Bd.bytes
  have hml : c.maxLocals = 1 := hml0
  have hown : s.vm.findClass "java/util/ImmutableCollections$AbstractImmutableList" = some m.cls := findClass_of_methodNamed Bd.named
  have hnm := (name_of_methodNamed Bd.named Bd.method).1
  have X0 : Stand p l e ({ frames := 3, cells := 0, slots := 0, locals := 36 } : Room) s m #[(.ref a)] below meth c s₁ [] 0 0 := Stand.of_body Bd
  have e0 : s₁.heap = h0 := by rw [← hh, Bd.state]; rfl
  have N0 := Fr.nil n0
  refine own_start (ef_rm38 m a) ?_
  intro F hF
  show own_Gl p.tables e below F (s₁.setTop (mkF m 0 #[.val (.ref a)] []))
  refine own_go (fun _ k => XS.aloadN X0.here hx rfl (hb hby d38_0) rfl rfl k) ?_
  show own_Gl p.tables e below F (s₁.setTop (mkF m 1 #[.val (.ref a)] [(.ref a)]))
  obtain ⟨_, _, ⟨T1, L1, k1, n1⟩, -, X1, ⟨Lc1, hQ1, l1, y1, z1⟩, st1⟩ := X0.specialBack hx (y := (⟨"java/util/ImmutableCollections$AbstractImmutableCollection", "<init>", "()V"⟩ : MethodName)) rfl hown (mvT hZ (hw _ (List.mem_of_getElem? (i := 234) rfl))) (mvT hZ (hw _ (List.mem_of_getElem? (i := 235) rfl))) (mvT hZ (hw _ (List.mem_of_getElem? (i := 239) rfl))) (by decide) (backOf (W := 0) (rm39 l Z a0 hw [] a  h0 n0 Z0 ) hZ (hw _ (List.mem_of_getElem? (i := 239) rfl)) (hw _ (List.mem_of_getElem? (i := 238) rfl)) (by decide) (by decide)) (g := (mkF m 1 #[.val (.ref a)] [(.ref a)])) rfl (by rw [hml]; rfl) (Steps.refl _) (a := a) (argsL := []) (rest := []) (lenOf pd_1 rfl) rfl (by show 2 * 0 + _ ≤ _; exact Nat.le_of_eq rfl) (hb hby d38_1) (fun _ _ => ⟨rfl, e0, (by first | decide | exact Nat.le_of_ble_eq_true rfl), (by first | decide | exact Nat.le_of_ble_eq_true rfl)⟩)
  dsimp only [Pt.U, Pt.locs, Pt.cells, Pt.slots] at X1 l1 y1 z1 st1 hQ1
  have X1 := own_sn X1 (k' := 0) (n' := 0) y1 z1
  obtain ⟨rfl, N1, e1⟩ := hQ1
  have NF1 := own_fr l1 N0 N1
  refine own_go (fun _ k => st1.trans k) ?_
  show own_Gl p.tables e below F (T1.setTop (mkF m 4 #[.val (.ref a)] []))
  obtain ⟨fs, hr, hrun, hended, hW, hsame⟩ := X1.leave (v := none) (fun _ => rfl)
  subst hF
  refine own_fin ?_ ⟨hrun, hended, _, _, rfl, ?_, ⟨_, rfl⟩, hW, hsame.mono (by first | decide | exact Nat.le_of_ble_eq_true rfl) (by first | decide | exact Nat.le_of_ble_eq_true rfl)⟩
  · exact X1.returnOut hx Bd.returns (hb hby d38_4) hr
  · show Q_rm38 Z _ h0 n0 _ T1.heap _
    rw [e1]
    exact ⟨rfl, NF1, rfl⟩
theorem ef_rm15 (m : MethodId) (x0 : Addr) : entryFrame m #[(.ref x0)] 1 = mkF m 0 #[.val (.ref x0)] [] := by first | (simp [entryFrame, mkF, argsToLocals, Value.category]; done) | rfl
theorem pn_5 : plainName "java/util/Objects" = true := by first | (simp [plainName, overriddenIn]; done) | decide +kernel
theorem d15_0 : decode jdk_31_method_10_code 0 = .ok (.aload_n 0, 1) := by decide +kernel
theorem d15_1 : decode jdk_31_method_10_code 1 = .ok (.ifnonnull 11, 3) := by decide +kernel
theorem d15_12 : decode jdk_31_method_10_code 12 = .ok (.aload_n 0, 1) := by decide +kernel
theorem d15_13 : decode jdk_31_method_10_code 13 = .ok (.areturn, 1) := by decide +kernel
def Q_rm15 (Z : State) (a : Addr) (h0 : Heap) (n0 : Nat) (v : Option Value) (h : Heap) (L : List Loc) : Prop := v = some (.ref a) ∧ Fr n0 L ∧ h = h0
set_option maxRecDepth 65536 in
set_option maxHeartbeats 40000000 in
theorem rm15 (l : Launch) (Z : State) (a0 : Array Value) (hw : ∀ d ∈ tables_1, d.before a0 Z = true) (ws : List Jvm.Cond) (a : Addr) (h0 : Heap) (n0 : Nat) (Z0 : n0 ≤ h0.size) :
    MetFree l (⟨"java/util/Objects", "requireNonNull", "(Ljava/lang/Object;)Ljava/lang/Object;"⟩ : MethodName) (head1 (Jvm.Cond.code (⟨"java/util/Objects", "requireNonNull", "(Ljava/lang/Object;)Ljava/lang/Object;"⟩ : MethodName) jdk_31_method_10_code 1 (some (.object "java/lang/Object")) :: ws) ({ frames := 0, cells := 0, slots := 0, locals := 0 } : Room)) (fun ag U => ag = #[(.ref a)] ∧ Z.Warmed39 U.vm ∧ U.heap = h0) (fun _ _ _ _ _ => True) (fun _ U o U' => ∃ v L, o = .returned v ∧ Q_rm15 Z a h0 n0 v U'.heap L ∧ FrameEnd U o U' L ({ frames := 0, cells := 0, slots := 0, locals := 0 } : Room).cells ({ frames := 0, cells := 0, slots := 0, locals := 0 } : Room).slots) := by
  refine MetFree.of_bodySF (plainFor_of_name pn_5) hisR ?_
  intro p e s m args below meth c s₁ Bd hml0 hP hK
  obtain ⟨rfl, hZ, hh⟩ := hP
  have hx := Bd.exec
  have hby := Bd.bytes
  have hml : c.maxLocals = 1 := hml0
  have hown : s.vm.findClass "java/util/Objects" = some m.cls := findClass_of_methodNamed Bd.named
  have hnm := (name_of_methodNamed Bd.named Bd.method).1
  have X0 : Stand p l e ({ frames := 0, cells := 0, slots := 0, locals := 0 } : Room) s m #[(.ref a)] below meth c s₁ [] 0 0 := Stand.of_body Bd
  have e0 : s₁.heap = h0 := by rw [← hh, Bd.state]; rfl
  have N0 := Fr.nil n0
  refine own_start (ef_rm15 m a) ?_
  intro F hF
  show own_Gl p.tables e below F (s₁.setTop (mkF m 0 #[.val (.ref a)] []))
  refine own_go (fun _ k => XS.aloadN X0.here hx rfl (hb hby d15_0) rfl rfl k) ?_
  show own_Gl p.tables e below F (s₁.setTop (mkF m 1 #[.val (.ref a)] [(.ref a)]))
  refine own_go (fun _ k => XS.ifnonnullYes X0.here hx rfl (pc0 := 1) (pc' := 12) rfl (hb hby d15_1) rfl (by decide) (by decide) k) ?_
  show own_Gl p.tables e below F (s₁.setTop (mkF m 12 #[.val (.ref a)] []))
  refine own_go (fun _ k => XS.aloadN X0.here hx rfl (hb hby d15_12) rfl rfl k) ?_
  show own_Gl p.tables e below F (s₁.setTop (mkF m 13 #[.val (.ref a)] [(.ref a)]))
  obtain ⟨fs, hr, hrun, hended, hW, hsame⟩ := X0.leave (v := some (.ref a)) (fun h => by rw [Bd.returns] at h; cases h)
  subst hF
  refine own_fin ?_ ⟨hrun, hended, _, _, rfl, ?_, ⟨_, rfl⟩, hW, hsame.mono (by first | decide | exact Nat.le_of_ble_eq_true rfl) (by first | decide | exact Nat.le_of_ble_eq_true rfl)⟩
  · exact own_retA X0 hx Bd.returns rfl rfl (hb hby d15_13) hr
  · show Q_rm15 Z _ h0 n0 _ s₁.heap _
    rw [e0]
    exact ⟨rfl, N0, rfl⟩
theorem ef_rm29 (m : MethodId) (x0 : Int32) (x1 : Int32) : entryFrame m #[(.int x0), (.int x1)] 2 = mkF m 0 #[.val (.int x0), .val (.int x1)] [] := by first | (simp [entryFrame, mkF, argsToLocals, Value.category]; done) | rfl
theorem d29_0 : decode jdk_29_method_65_code 0 = .ok (.iload_n 0, 1) := by decide +kernel
theorem d29_1 : decode jdk_29_method_65_code 1 = .ok (.iload_n 1, 1) := by decide +kernel
theorem d29_2 : decode jdk_29_method_65_code 2 = .ok (.if_icmp .lt 7, 3) := by decide +kernel
theorem d29_9 : decode jdk_29_method_65_code 9 = .ok (.iload_n 1, 1) := by decide +kernel
theorem d29_10 : decode jdk_29_method_65_code 10 = .ok (.ireturn, 1) := by decide +kernel
theorem d29_5 : decode jdk_29_method_65_code 5 = .ok (.iload_n 0, 1) := by decide +kernel
theorem d29_6 : decode jdk_29_method_65_code 6 = .ok (.goto 4, 3) := by decide +kernel
def Q_rm29 (Z : State) (p1 p2 : Int32) (h0 : Heap) (n0 : Nat) (v : Option Value) (h : Heap) (L : List Loc) : Prop := v = some (.int (own_maxI p1 p2)) ∧ Fr n0 L ∧ h = h0
set_option maxRecDepth 65536 in
set_option maxHeartbeats 40000000 in
theorem rm29 (l : Launch) (Z : State) (a0 : Array Value) (hw : ∀ d ∈ tables_1, d.before a0 Z = true) (ws : List Jvm.Cond) (p1 p2 : Int32) (h0 : Heap) (n0 : Nat) (Z0 : n0 ≤ h0.size) :
    MetFree l (⟨"java/lang/Math", "max", "(II)I"⟩ : MethodName) (head1 (Jvm.Cond.code (⟨"java/lang/Math", "max", "(II)I"⟩ : MethodName) jdk_29_method_65_code 2 (some .int) :: ws) ({ frames := 0, cells := 0, slots := 0, locals := 0 } : Room)) (fun ag U => ag = #[(.int p1), (.int p2)] ∧ Z.Warmed39 U.vm ∧ U.heap = h0) (fun _ _ _ _ _ => True) (fun _ U o U' => ∃ v L, o = .returned v ∧ Q_rm29 Z p1 p2 h0 n0 v U'.heap L ∧ FrameEnd U o U' L ({ frames := 0, cells := 0, slots := 0, locals := 0 } : Room).cells ({ frames := 0, cells := 0, slots := 0, locals := 0 } : Room).slots) := by
  refine MetFree.of_bodySF (Jvm.Free.JP.mathPlain rfl (by decide +kernel)) hisR ?_
  intro p e s m args below meth c s₁ Bd hml0 hP hK
  obtain ⟨rfl, hZ, hh⟩ := hP
  have hx := Bd.exec
  have hby := Bd.bytes
  have hml : c.maxLocals = 2 := hml0
  have hown : s.vm.findClass "java/lang/Math" = some m.cls := findClass_of_methodNamed Bd.named
  have hnm := (name_of_methodNamed Bd.named Bd.method).1
  have X0 : Stand p l e ({ frames := 0, cells := 0, slots := 0, locals := 0 } : Room) s m #[(.int p1), (.int p2)] below meth c s₁ [] 0 0 := Stand.of_body Bd
  have e0 : s₁.heap = h0 := by rw [← hh, Bd.state]; rfl
  have N0 := Fr.nil n0
  refine own_start (ef_rm29 m p1 p2) ?_
  intro F hF
  show own_Gl p.tables e below F (s₁.setTop (mkF m 0 #[.val (.int p1), .val (.int p2)] []))
  refine own_go (fun _ k => XS.iloadN X0.here hx rfl (hb hby d29_0) rfl k) ?_
  show own_Gl p.tables e below F (s₁.setTop (mkF m 1 #[.val (.int p1), .val (.int p2)] [(.int p1)]))
  refine own_go (fun _ k => XS.iloadN X0.here hx rfl (hb hby d29_1) rfl k) ?_
  show own_Gl p.tables e below F (s₁.setTop (mkF m 2 #[.val (.int p1), .val (.int p2)] [(.int p2), (.int p1)]))
  by_cases h1 : p1 < p2
  · refine own_go (fun _ k => XS.icmpYes X0.here hx rfl (pc0 := 2) (pc' := 9) rfl (hb hby d29_2) rfl (XT.ii_lt_t (by assumption)) (by decide) (by decide) k) ?_
    show own_Gl p.tables e below F (s₁.setTop (mkF m 9 #[.val (.int p1), .val (.int p2)] []))
    refine own_go (fun _ k => XS.iloadN X0.here hx rfl (hb hby d29_9) rfl k) ?_
    show own_Gl p.tables e below F (s₁.setTop (mkF m 10 #[.val (.int p1), .val (.int p2)] [(.int p2)]))
    obtain ⟨fs, hr, hrun, hended, hW, hsame⟩ := X0.leave (v := some (.int p2)) (fun h => by rw [Bd.returns] at h; cases h)
    subst hF
    refine own_fin ?_ ⟨hrun, hended, _, _, rfl, ?_, ⟨_, rfl⟩, hW, hsame.mono (by first | decide | exact Nat.le_of_ble_eq_true rfl) (by first | decide | exact Nat.le_of_ble_eq_true rfl)⟩
    · exact retI X0 hx Bd.returns (hb hby d29_10) hr
    · show Q_rm29 Z _ _ h0 n0 _ s₁.heap _
      rw [e0]
      exact ⟨by rw [own_maxI, if_pos h1], N0, rfl⟩
  · refine own_go (fun _ k => XS.icmpNo X0.here hx rfl (hb hby d29_2) rfl (XT.ii_lt_f (by assumption)) k) ?_
    show own_Gl p.tables e below F (s₁.setTop (mkF m 5 #[.val (.int p1), .val (.int p2)] []))
    refine own_go (fun _ k => XS.iloadN X0.here hx rfl (hb hby d29_5) rfl k) ?_
    show own_Gl p.tables e below F (s₁.setTop (mkF m 6 #[.val (.int p1), .val (.int p2)] [(.int p1)]))
    refine own_go (fun _ k => XS.goto X0.here hx rfl (pc0 := 6) (pc' := 10) rfl (hb hby d29_6) (by decide) (by decide) k) ?_
    show own_Gl p.tables e below F (s₁.setTop (mkF m 10 #[.val (.int p1), .val (.int p2)] [(.int p1)]))
    obtain ⟨fs, hr, hrun, hended, hW, hsame⟩ := X0.leave (v := some (.int p1)) (fun h => by rw [Bd.returns] at h; cases h)
    subst hF
    refine own_fin ?_ ⟨hrun, hended, _, _, rfl, ?_, ⟨_, rfl⟩, hW, hsame.mono (by first | decide | exact Nat.le_of_ble_eq_true rfl) (by first | decide | exact Nat.le_of_ble_eq_true rfl)⟩
    · exact retI X0 hx Bd.returns (hb hby d29_10) hr
    · show Q_rm29 Z _ _ h0 n0 _ s₁.heap _
      rw [e0]
      exact ⟨by rw [own_maxI, if_neg h1], N0, rfl⟩
theorem ef_rm34 (m : MethodId) (x0 : Int32) (x1 : Int32) : entryFrame m #[(.int x0), (.int x1)] 2 = mkF m 0 #[.val (.int x0), .val (.int x1)] [] := by first | (simp [entryFrame, mkF, argsToLocals, Value.category]; done) | rfl
theorem d34_0 : decode jdk_29_method_69_code 0 = .ok (.iload_n 0, 1) := by decide +kernel
theorem d34_1 : decode jdk_29_method_69_code 1 = .ok (.iload_n 1, 1) := by decide +kernel
theorem d34_2 : decode jdk_29_method_69_code 2 = .ok (.if_icmp .gt 7, 3) := by decide +kernel
theorem d34_9 : decode jdk_29_method_69_code 9 = .ok (.iload_n 1, 1) := by decide +kernel
theorem d34_10 : decode jdk_29_method_69_code 10 = .ok (.ireturn, 1) := by decide +kernel
theorem d34_5 : decode jdk_29_method_69_code 5 = .ok (.iload_n 0, 1) := by decide +kernel
theorem d34_6 : decode jdk_29_method_69_code 6 = .ok (.goto 4, 3) := by decide +kernel
def Q_rm34 (Z : State) (p1 p2 : Int32) (h0 : Heap) (n0 : Nat) (v : Option Value) (h : Heap) (L : List Loc) : Prop := v = some (.int (own_minI p1 p2)) ∧ Fr n0 L ∧ h = h0
set_option maxRecDepth 65536 in
set_option maxHeartbeats 40000000 in
theorem rm34 (l : Launch) (Z : State) (a0 : Array Value) (hw : ∀ d ∈ tables_1, d.before a0 Z = true) (ws : List Jvm.Cond) (p1 p2 : Int32) (h0 : Heap) (n0 : Nat) (Z0 : n0 ≤ h0.size) :
    MetFree l (⟨"java/lang/Math", "min", "(II)I"⟩ : MethodName) (head1 (Jvm.Cond.code (⟨"java/lang/Math", "min", "(II)I"⟩ : MethodName) jdk_29_method_69_code 2 (some .int) :: ws) ({ frames := 0, cells := 0, slots := 0, locals := 0 } : Room)) (fun ag U => ag = #[(.int p1), (.int p2)] ∧ Z.Warmed39 U.vm ∧ U.heap = h0) (fun _ _ _ _ _ => True) (fun _ U o U' => ∃ v L, o = .returned v ∧ Q_rm34 Z p1 p2 h0 n0 v U'.heap L ∧ FrameEnd U o U' L ({ frames := 0, cells := 0, slots := 0, locals := 0 } : Room).cells ({ frames := 0, cells := 0, slots := 0, locals := 0 } : Room).slots) := by
  refine MetFree.of_bodySF (Jvm.Free.JP.mathPlain rfl (by decide +kernel)) hisR ?_
  intro p e s m args below meth c s₁ Bd hml0 hP hK
  obtain ⟨rfl, hZ, hh⟩ := hP
  have hx := Bd.exec
  have hby := Bd.bytes
  have hml : c.maxLocals = 2 := hml0
  have hown : s.vm.findClass "java/lang/Math" = some m.cls := findClass_of_methodNamed Bd.named
  have hnm := (name_of_methodNamed Bd.named Bd.method).1
  have X0 : Stand p l e ({ frames := 0, cells := 0, slots := 0, locals := 0 } : Room) s m #[(.int p1), (.int p2)] below meth c s₁ [] 0 0 := Stand.of_body Bd
  have e0 : s₁.heap = h0 := by rw [← hh, Bd.state]; rfl
  have N0 := Fr.nil n0
  refine own_start (ef_rm34 m p1 p2) ?_
  intro F hF
  show own_Gl p.tables e below F (s₁.setTop (mkF m 0 #[.val (.int p1), .val (.int p2)] []))
  refine own_go (fun _ k => XS.iloadN X0.here hx rfl (hb hby d34_0) rfl k) ?_
  show own_Gl p.tables e below F (s₁.setTop (mkF m 1 #[.val (.int p1), .val (.int p2)] [(.int p1)]))
  refine own_go (fun _ k => XS.iloadN X0.here hx rfl (hb hby d34_1) rfl k) ?_
  show own_Gl p.tables e below F (s₁.setTop (mkF m 2 #[.val (.int p1), .val (.int p2)] [(.int p2), (.int p1)]))
  by_cases h1 : p2 < p1
  · refine own_go (fun _ k => XS.icmpYes X0.here hx rfl (pc0 := 2) (pc' := 9) rfl (hb hby d34_2) rfl (XT.ii_gt_t (by assumption)) (by decide) (by decide) k) ?_
    show own_Gl p.tables e below F (s₁.setTop (mkF m 9 #[.val (.int p1), .val (.int p2)] []))
    refine own_go (fun _ k => XS.iloadN X0.here hx rfl (hb hby d34_9) rfl k) ?_
    show own_Gl p.tables e below F (s₁.setTop (mkF m 10 #[.val (.int p1), .val (.int p2)] [(.int p2)]))
    obtain ⟨fs, hr, hrun, hended, hW, hsame⟩ := X0.leave (v := some (.int p2)) (fun h => by rw [Bd.returns] at h; cases h)
    subst hF
    refine own_fin ?_ ⟨hrun, hended, _, _, rfl, ?_, ⟨_, rfl⟩, hW, hsame.mono (by first | decide | exact Nat.le_of_ble_eq_true rfl) (by first | decide | exact Nat.le_of_ble_eq_true rfl)⟩
    · exact retI X0 hx Bd.returns (hb hby d34_10) hr
    · show Q_rm34 Z _ _ h0 n0 _ s₁.heap _
      rw [e0]
      exact ⟨by rw [own_minI, if_pos h1], N0, rfl⟩
  · refine own_go (fun _ k => XS.icmpNo X0.here hx rfl (hb hby d34_2) rfl (XT.ii_gt_f (by assumption)) k) ?_
    show own_Gl p.tables e below F (s₁.setTop (mkF m 5 #[.val (.int p1), .val (.int p2)] []))
    refine own_go (fun _ k => XS.iloadN X0.here hx rfl (hb hby d34_5) rfl k) ?_
    show own_Gl p.tables e below F (s₁.setTop (mkF m 6 #[.val (.int p1), .val (.int p2)] [(.int p1)]))
    refine own_go (fun _ k => XS.goto X0.here hx rfl (pc0 := 6) (pc' := 10) rfl (hb hby d34_6) (by decide) (by decide) k) ?_
    show own_Gl p.tables e below F (s₁.setTop (mkF m 10 #[.val (.int p1), .val (.int p2)] [(.int p1)]))
    obtain ⟨fs, hr, hrun, hended, hW, hsame⟩ := X0.leave (v := some (.int p1)) (fun h => by rw [Bd.returns] at h; cases h)
    subst hF
    refine own_fin ?_ ⟨hrun, hended, _, _, rfl, ?_, ⟨_, rfl⟩, hW, hsame.mono (by first | decide | exact Nat.le_of_ble_eq_true rfl) (by first | decide | exact Nat.le_of_ble_eq_true rfl)⟩
    · exact retI X0 hx Bd.returns (hb hby d34_10) hr
    · show Q_rm34 Z _ _ h0 n0 _ s₁.heap _
      rw [e0]
      exact ⟨by rw [own_minI, if_neg h1], N0, rfl⟩
theorem ef_rmSB (m : MethodId) (x0 : Addr) (x1 : Addr) (x2 : Int32) : entryFrame m #[(.ref x0), (.ref x1), (.int x2)] 3 = mkF m 0 #[.val (.ref x0), .val (.ref x1), .val (.int x2)] [] := by first | (simp [entryFrame, mkF, argsToLocals, Value.category]; done) | rfl
theorem d10_0 : decode jdk_42_method_151_code 0 = .ok (.aload_n 0, 1) := by decide +kernel
theorem d10_1 : decode jdk_42_method_151_code 1 = .ok (.invokespecial 1, 3) := by decide +kernel
theorem d10_4 : decode jdk_42_method_151_code 4 = .ok (.aload_n 0, 1) := by decide +kernel
theorem d10_5 : decode jdk_42_method_151_code 5 = .ok (.aload_n 1, 1) := by decide +kernel
theorem d10_6 : decode jdk_42_method_151_code 6 = .ok (.putfield 9, 3) := by decide +kernel
theorem d10_9 : decode jdk_42_method_151_code 9 = .ok (.aload_n 0, 1) := by decide +kernel
theorem d10_10 : decode jdk_42_method_151_code 10 = .ok (.iload_n 2, 1) := by decide +kernel
theorem d10_11 : decode jdk_42_method_151_code 11 = .ok (.putfield 15, 3) := by decide +kernel
theorem d10_14 : decode jdk_42_method_151_code 14 = .ok (.return_, 1) := by decide +kernel
def Q_rmSB (Z : State) (a b : Addr) (p2 : Int32) (h0 : Heap) (n0 : Nat) (v : Option Value) (h : Heap) (L : List Loc) : Prop := v = none ∧ Fr n0 L ∧ Keep h0 h [a] ∧ Exa Z h a "java/lang/String" ∧ Fld Z h a "java/lang/String" "value" "[B" (.ref b) ∧ Fld Z h a "java/lang/String" "coder" "B" (.int (nar .byte p2))
set_option maxRecDepth 65536 in
set_option maxHeartbeats 40000000 in
theorem rmSB (l : Launch) (Z : State) (a0 : Array Value) (hw : ∀ d ∈ tables_1, d.before a0 Z = true) (ws : List Jvm.Cond) (a b : Addr) (p2 : Int32) (h0 : Heap) (n0 : Nat) (Z0 : n0 ≤ h0.size) (E_a : Exa Z h0 a "java/lang/String") (F_value : Fld Z h0 a "java/lang/String" "value" "[B" .null) (F_coder : Fld Z h0 a "java/lang/String" "coder" "B" (.int 0)) (g_a : n0 ≤ a) :
    MetFree l (⟨"java/lang/String", "<init>", "([BB)V"⟩ : MethodName) (head1 (Jvm.Cond.code (⟨"java/lang/String", "<init>", "([BB)V"⟩ : MethodName) jdk_42_method_151_code 3 none :: ws) ({ frames := 1, cells := 0, slots := 0, locals := 12 } : Room)) (fun ag U => ag = #[(.ref a), (.ref b), (.int p2)] ∧ Z.Warmed39 U.vm ∧ U.heap = h0) (fun _ _ _ _ _ => True) (fun _ U o U' => ∃ v L, o = .returned v ∧ Q_rmSB Z a b p2 h0 n0 v U'.heap L ∧ FrameEnd U o U' L ({ frames := 1, cells := 0, slots := 0, locals := 12 } : Room).cells ({ frames := 1, cells := 0, slots := 0, locals := 12 } : Room).slots) := by
  refine MetFree.of_bodySF (plainFor_of_name pn_0) hisR ?_
  intro p e s m args below meth c s₁ Bd hml0 hP hK
  obtain ⟨rfl, hZ, hh⟩ := hP
  have hx := Bd.exec
  have hby := Bd.bytes
  have hml : c.maxLocals = 3 := hml0
  have hown : s.vm.findClass "java/lang/String" = some m.cls := findClass_of_methodNamed Bd.named
  have hnm := (name_of_methodNamed Bd.named Bd.method).1
  have X0 : Stand p l e ({ frames := 1, cells := 0, slots := 0, locals := 12 } : Room) s m #[(.ref a), (.ref b), (.int p2)] below meth c s₁ [] 0 0 := Stand.of_body Bd
  have e0 : s₁.heap = h0 := by rw [← hh, Bd.state]; rfl
  have N0 := Fr.nil n0
  refine own_start (ef_rmSB m a b p2) ?_
  intro F hF
  show own_Gl p.tables e below F (s₁.setTop (mkF m 0 #[.val (.ref a), .val (.ref b), .val (.int p2)] []))
  refine own_go (fun _ k => XS.aloadN X0.here hx rfl (hb hby d10_0) rfl rfl k) ?_
  show own_Gl p.tables e below F (s₁.setTop (mkF m 1 #[.val (.ref a), .val (.ref b), .val (.int p2)] [(.ref a)]))
  obtain ⟨T1, X1, e1, st1⟩ := initO X0 hx hZ hown (hw _ (List.mem_of_getElem? (i := 11) rfl)) (hw _ (List.mem_of_getElem? (i := 12) rfl)) (hw _ (List.mem_of_getElem? (i := 13) rfl)) e0 (g := (mkF m 1 #[.val (.ref a), .val (.ref b), .val (.int p2)] [(.ref a)])) rfl (by rw [hml]; rfl) rfl (hb hby d10_1) (by decide) (W := 0) (by show 2 * 0 + _ ≤ _; exact Nat.le_of_eq rfl) (by decide)
  refine own_go st1 ?_
  show own_Gl p.tables e below F (T1.setTop (mkF m 4 #[.val (.ref a), .val (.ref b), .val (.int p2)] []))
  refine own_go (fun _ k => XS.aloadN X1.here hx rfl (hb hby d10_4) rfl rfl k) ?_
  show own_Gl p.tables e below F (T1.setTop (mkF m 5 #[.val (.ref a), .val (.ref b), .val (.int p2)] [(.ref a)]))
  refine own_go (fun _ k => XS.aloadN X1.here hx rfl (hb hby d10_5) rfl rfl k) ?_
  show own_Gl p.tables e below F (T1.setTop (mkF m 6 #[.val (.ref a), .val (.ref b), .val (.int p2)] [(.ref b), (.ref a)]))
  obtain ⟨T2, h2, X2, e2, W2, st2⟩ := putF X1 hx hZ hown (host := "") (Or.inl (hw _ (List.mem_of_getElem? (i := 28) rfl))) Via.refl e1 F_value E_a (Or.inr ⟨(hw _ (List.mem_of_getElem? (i := 29) rfl)), rfl, hnm⟩) (hw _ (List.mem_of_getElem? (i := 1) rfl)) (ty := (.array .byte)) (by decide) rfl rfl (g := (mkF m 6 #[.val (.ref a), .val (.ref b), .val (.int p2)] [(.ref b), (.ref a)])) rfl rfl (hb hby d10_6)
  have Fw2 := F_value.same W2
  have f2_1 := E_a.wr W2
  have f2_3 := F_coder.other W2 (Or.inr (slot_ne (Or.inr (hw _ (List.mem_of_getElem? (i := 27) rfl))) (Or.inr (hw _ (List.mem_of_getElem? (i := 29) rfl))) (by decide) (t := .byte) (t' := (.array .byte)) (by decide) (by decide)))
  have Z2 : n0 ≤ h2.size := by rw [W2.size]; exact Z0
  have K2 := Keep.wr (Keep.refl h0 [a]) W2 (Or.inl (by simp))
  have N2 := Fr.snoc X2 N0 g_a
  refine own_go st2 ?_
  show own_Gl p.tables e below F (T2.setTop (mkF m 9 #[.val (.ref a), .val (.ref b), .val (.int p2)] []))
  refine own_go (fun _ k => XS.aloadN X2.here hx rfl (hb hby d10_9) rfl rfl k) ?_
  show own_Gl p.tables e below F (T2.setTop (mkF m 10 #[.val (.ref a), .val (.ref b), .val (.int p2)] [(.ref a)]))
  refine own_go (fun _ k => XS.iloadN X2.here hx rfl (hb hby d10_10) rfl k) ?_
  show own_Gl p.tables e below F (T2.setTop (mkF m 11 #[.val (.ref a), .val (.ref b), .val (.int p2)] [(.int p2), (.ref a)]))
  obtain ⟨T3, h3, X3, e3, W3, st3⟩ := putFN X2 hx hZ hown (hw _ (List.mem_of_getElem? (i := 26) rfl)) Via.refl e2 f2_3 f2_1 (Or.inr ⟨(hw _ (List.mem_of_getElem? (i := 27) rfl)), rfl, hnm⟩) (hw _ (List.mem_of_getElem? (i := 1) rfl)) (ty := .byte) (v' := (.int (nar .byte p2))) (by decide) rfl (fits_nar_byte _) (g := (mkF m 11 #[.val (.ref a), .val (.ref b), .val (.int p2)] [(.int p2), (.ref a)])) rfl rfl (hb hby d10_11)
  have Fw3 := f2_3.same W3
  have f3_1 := f2_1.wr W3
  have f3_2 := Fw2.other W3 (Or.inr (slot_ne (Or.inr (hw _ (List.mem_of_getElem? (i := 29) rfl))) (Or.inr (hw _ (List.mem_of_getElem? (i := 27) rfl))) (by decide) (t := (.array .byte)) (t' := .byte) (by decide) (by decide)))
  have Z3 : n0 ≤ h3.size := by rw [W3.size]; exact Z2
  have K3 := Keep.wr K2 W3 (Or.inl (by simp))
  have N3 := Fr.snoc X3 N2 g_a
  refine own_go st3 ?_
  show own_Gl p.tables e below F (T3.setTop (mkF m 14 #[.val (.ref a), .val (.ref b), .val (.int p2)] []))
  obtain ⟨fs, hr, hrun, hended, hW, hsame⟩ := X3.leave (v := none) (fun _ => rfl)
  subst hF
  refine own_fin ?_ ⟨hrun, hended, _, _, rfl, ?_, ⟨_, rfl⟩, hW, hsame.mono (by first | decide | exact Nat.le_of_ble_eq_true rfl) (by first | decide | exact Nat.le_of_ble_eq_true rfl)⟩
  · exact X3.returnOut hx Bd.returns (hb hby d10_14) hr
  · show Q_rmSB Z _ _ _ h0 n0 _ T3.heap _
    rw [e3]
    exact ⟨rfl, N3, K3, f3_1, f3_2, Fw3⟩
theorem ef_rm8 (m : MethodId) (x0 : Int32) : entryFrame m #[(.int x0)] 1 = mkF m 0 #[.val (.int x0)] [] := by first | (simp [entryFrame, mkF, argsToLocals, Value.category]; done) | rfl
theorem pn_6 : plainName "java/lang/StringLatin1" = true := by first | (simp [plainName, overriddenIn]; done) | decide +kernel
theorem d8_0 : decode jdk_43_method_3_code 0 = .ok (.iload_n 0, 1) := by decide +kernel
theorem d8_1 : decode jdk_43_method_3_code 1 = .ok (.sipush 255, 3) := by decide +kernel
theorem d8_4 : decode jdk_43_method_3_code 4 = .ok (.if_icmp .gt 7, 3) := by decide +kernel
theorem d8_7 : decode jdk_43_method_3_code 7 = .ok (.iconst 1, 1) := by decide +kernel
theorem d8_8 : decode jdk_43_method_3_code 8 = .ok (.goto 4, 3) := by decide +kernel
theorem d8_12 : decode jdk_43_method_3_code 12 = .ok (.ireturn, 1) := by decide +kernel
def Q_rm8 (Z : State) (p1 : Int32) (h0 : Heap) (n0 : Nat) (v : Option Value) (h : Heap) (L : List Loc) : Prop := v = some (.int 1) ∧ Fr n0 L ∧ h = h0
set_option maxRecDepth 65536 in
set_option maxHeartbeats 40000000 in
theorem rm8 (l : Launch) (Z : State) (a0 : Array Value) (hw : ∀ d ∈ tables_1, d.before a0 Z = true) (ws : List Jvm.Cond) (p1 : Int32) (h0 : Heap) (n0 : Nat) (Z0 : n0 ≤ h0.size) (h1 : ¬ (255 : Int32) < p1) :
    MetFree l (⟨"java/lang/StringLatin1", "canEncode", "(C)Z"⟩ : MethodName) (head1 (Jvm.Cond.code (⟨"java/lang/StringLatin1", "canEncode", "(C)Z"⟩ : MethodName) jdk_43_method_3_code 1 (some .boolean) :: ws) ({ frames := 0, cells := 0, slots := 0, locals := 0 } : Room)) (fun ag U => ag = #[(.int p1)] ∧ Z.Warmed39 U.vm ∧ U.heap = h0) (fun _ _ _ _ _ => True) (fun _ U o U' => ∃ v L, o = .returned v ∧ Q_rm8 Z p1 h0 n0 v U'.heap L ∧ FrameEnd U o U' L ({ frames := 0, cells := 0, slots := 0, locals := 0 } : Room).cells ({ frames := 0, cells := 0, slots := 0, locals := 0 } : Room).slots) := by
  refine MetFree.of_bodySF (plainFor_of_name pn_6) hisR ?_
  intro p e s m args below meth c s₁ Bd hml0 hP hK
  obtain ⟨rfl, hZ, hh⟩ := hP
  have hx := Bd.exec
  have hby := Bd.bytes
  have hml : c.maxLocals = 1 := hml0
  have hown : s.vm.findClass "java/lang/StringLatin1" = some m.cls := findClass_of_methodNamed Bd.named
  have hnm := (name_of_methodNamed Bd.named Bd.method).1
  have X0 : Stand p l e ({ frames := 0, cells := 0, slots := 0, locals := 0 } : Room) s m #[(.int p1)] below meth c s₁ [] 0 0 := Stand.of_body Bd
  have e0 : s₁.heap = h0 := by rw [← hh, Bd.state]; rfl
  have N0 := Fr.nil n0
  refine own_start (ef_rm8 m p1) ?_
  intro F hF
  show own_Gl p.tables e below F (s₁.setTop (mkF m 0 #[.val (.int p1)] []))
  refine own_go (fun _ k => XS.iloadN X0.here hx rfl (hb hby d8_0) rfl k) ?_
  show own_Gl p.tables e below F (s₁.setTop (mkF m 1 #[.val (.int p1)] [(.int p1)]))
  refine own_go (fun _ k => XS.sipush X0.here hx rfl (hb hby d8_1) k) ?_
  show own_Gl p.tables e below F (s₁.setTop (mkF m 4 #[.val (.int p1)] [(.int (255 : Int32)), (.int p1)]))
  refine own_go (fun _ k => XS.icmpNo X0.here hx rfl (hb hby d8_4) rfl (XT.ii_gt_f h1) k) ?_
  show own_Gl p.tables e below F (s₁.setTop (mkF m 7 #[.val (.int p1)] []))
  refine own_go (fun _ k => XS.iconst X0.here hx rfl (hb hby d8_7) k) ?_
  show own_Gl p.tables e below F (s₁.setTop (mkF m 8 #[.val (.int p1)] [(.int (1 : Int32))]))
  refine own_go (fun _ k => XS.goto X0.here hx rfl (pc0 := 8) (pc' := 12) rfl (hb hby d8_8) (by decide) (by decide) k) ?_
  show own_Gl p.tables e below F (s₁.setTop (mkF m 12 #[.val (.int p1)] [(.int (1 : Int32))]))
  obtain ⟨fs, hr, hrun, hended, hW, hsame⟩ := X0.leave (v := some (.int (1 : Int32))) (fun h => by rw [Bd.returns] at h; cases h)
  subst hF
  refine own_fin ?_ ⟨hrun, hended, _, _, rfl, ?_, ⟨_, rfl⟩, hW, hsame.mono (by first | decide | exact Nat.le_of_ble_eq_true rfl) (by first | decide | exact Nat.le_of_ble_eq_true rfl)⟩
  · exact own_retN X0 hx (t := .boolean) Bd.returns (by simp) rfl (hb hby d8_12) hr
  · show Q_rm8 Z _ h0 n0 _ s₁.heap _
    rw [e0]
    exact ⟨rfl, N0, rfl⟩
theorem ef_rm9 (m : MethodId) (x0 : Int32) : entryFrame m #[(.int x0)] 1 = mkF m 0 #[.val (.int x0)] [] := by first | (simp [entryFrame, mkF, argsToLocals, Value.category]; done) | rfl
theorem d9_0 : decode jdk_43_method_46_code 0 = .ok (.iconst 1, 1) := by decide +kernel
theorem d9_1 : decode jdk_43_method_46_code 1 = .ok (.newarray .byte, 2) := by decide +kernel
theorem d9_3 : decode jdk_43_method_46_code 3 = .ok (.dup, 1) := by decide +kernel
theorem d9_4 : decode jdk_43_method_46_code 4 = .ok (.iconst 0, 1) := by decide +kernel
theorem d9_5 : decode jdk_43_method_46_code 5 = .ok (.iload_n 0, 1) := by decide +kernel
theorem d9_6 : decode jdk_43_method_46_code 6 = .ok (.i2b, 1) := by decide +kernel
theorem d9_7 : decode jdk_43_method_46_code 7 = .ok (.bastore, 1) := by decide +kernel
theorem d9_8 : decode jdk_43_method_46_code 8 = .ok (.areturn, 1) := by decide +kernel
def Q_rm9 (Z : State) (p1 : Int32) (h0 : Heap) (n0 : Nat) (v : Option Value) (h : Heap) (L : List Loc) : Prop := ∃ b : Addr, v = some (.ref b) ∧ Fr n0 L ∧ Keep h0 h [] ∧ h0.size ≤ b
set_option maxRecDepth 65536 in
set_option maxHeartbeats 40000000 in
theorem rm9 (l : Launch) (Z : State) (a0 : Array Value) (hw : ∀ d ∈ tables_1, d.before a0 Z = true) (ws : List Jvm.Cond) (p1 : Int32) (h0 : Heap) (n0 : Nat) (Z0 : n0 ≤ h0.size) :
    MetFree l (⟨"java/lang/StringLatin1", "toBytes", "(C)[B"⟩ : MethodName) (head1 (Jvm.Cond.code (⟨"java/lang/StringLatin1", "toBytes", "(C)[B"⟩ : MethodName) jdk_43_method_46_code 1 (some (.array .byte)) :: ws) ({ frames := 0, cells := 1, slots := 1, locals := 0 } : Room)) (fun ag U => ag = #[(.int p1)] ∧ Z.Warmed39 U.vm ∧ U.heap = h0) (fun _ _ _ _ _ => True) (fun _ U o U' => ∃ v L, o = .returned v ∧ Q_rm9 Z p1 h0 n0 v U'.heap L ∧ FrameEnd U o U' L ({ frames := 0, cells := 1, slots := 1, locals := 0 } : Room).cells ({ frames := 0, cells := 1, slots := 1, locals := 0 } : Room).slots) := by
  refine MetFree.of_bodySF (plainFor_of_name pn_6) hisR ?_
  intro p e s m args below meth c s₁ Bd hml0 hP hK
  obtain ⟨rfl, hZ, hh⟩ := hP
  have hx := Bd.exec
  have hby := Bd.bytes
  have hml : c.maxLocals = 1 := hml0
  have hown : s.vm.findClass "java/lang/StringLatin1" = some m.cls := findClass_of_methodNamed Bd.named
  have hnm := (name_of_methodNamed Bd.named Bd.method).1
  have X0 : Stand p l e ({ frames := 0, cells := 1, slots := 1, locals := 0 } : Room) s m #[(.int p1)] below meth c s₁ [] 0 0 := Stand.of_body Bd
  have e0 : s₁.heap = h0 := by rw [← hh, Bd.state]; rfl
  have N0 := Fr.nil n0
  refine own_start (ef_rm9 m p1) ?_
  intro F hF
  show own_Gl p.tables e below F (s₁.setTop (mkF m 0 #[.val (.int p1)] []))
  refine own_go (fun _ k => XS.iconst X0.here hx rfl (hb hby d9_0) k) ?_
  show own_Gl p.tables e below F (s₁.setTop (mkF m 1 #[.val (.int p1)] [(.int (1 : Int32))]))
  obtain ⟨T1, h1, k1, X1, e1, E1, A1, st1⟩ := newP X0 hx hZ (hw _ (List.mem_of_getElem? (i := 19) rfl)) e0 (g := (mkF m 1 #[.val (.int p1)] [(.int (1 : Int32))])) rfl (hb hby d9_1) rfl (by decide) (cap := 1) (by decide) (by decide) (by decide) (by decide)
  obtain ⟨b1, g1⟩ : ∃ z, z = h0.size := ⟨_, rfl⟩
  rw [← g1] at A1 st1
  have ge_b1 : n0 ≤ b1 := Nat.le_trans Z0 (Nat.le_of_eq g1.symm)
  have sz_b1 : h0.size ≤ b1 := Nat.le_trans ((Keep.refl h0 [])).1 (Nat.le_of_eq g1.symm)
  have Z1 : n0 ≤ h1.size := Nat.le_trans Z0 E1.1
  have K1 := Keep.ext (Keep.refl h0 []) E1
  have V1 : Arv Z h1 b1 k1 .byte (1 : Int32) [(.int (0 : Int32))] (.int (0 : Int32)) := (Arv.new A1 (by decide)).pad (pad_rep [] (.int (0 : Int32)) 1)
  have X1 : Stand _ _ _ _ _ _ _ _ _ _ _ _ 1 1 := X1
  refine own_go st1 ?_
  show own_Gl p.tables e below F (T1.setTop (mkF m 3 #[.val (.int p1)] [(.ref b1)]))
  refine own_go (fun _ k => XS.dup X1.here hx rfl (hb hby d9_3) rfl rfl k) ?_
  show own_Gl p.tables e below F (T1.setTop (mkF m 4 #[.val (.int p1)] [(.ref b1), (.ref b1)]))
  refine own_go (fun _ k => XS.iconst X1.here hx rfl (hb hby d9_4) k) ?_
  show own_Gl p.tables e below F (T1.setTop (mkF m 5 #[.val (.int p1)] [(.int (0 : Int32)), (.ref b1), (.ref b1)]))
  refine own_go (fun _ k => XS.iloadN X1.here hx rfl (hb hby d9_5) rfl k) ?_
  show own_Gl p.tables e below F (T1.setTop (mkF m 6 #[.val (.int p1)] [(.int p1), (.int (0 : Int32)), (.ref b1), (.ref b1)]))
  refine own_go (fun _ k => XS.i2b X1.here hx rfl (hb hby d9_6) rfl k) ?_
  show own_Gl p.tables e below F (T1.setTop (mkF m 7 #[.val (.int p1)] [(.int (p1.toInt8.toInt32)), (.int (0 : Int32)), (.ref b1), (.ref b1)]))
  obtain ⟨cl2, Ar2, ak2, aS2, aN2, aH2, aG2⟩ := id V1
  have hin2 : ¬ ((0 : Int32) < 0 ∨ cl2.slots.size ≤ ((0 : Int32)).toNatClampNeg) := inb_of aS2 ⟨by decide, by decide⟩
  obtain ⟨T2, h2, X2, e2, W2, st2⟩ := stB X1 hx hZ e1 Ar2 (j := (0 : Int32)) hin2 (g := (mkF m 7 #[.val (.int p1)] [(.int (p1.toInt8.toInt32)), (.int (0 : Int32)), (.ref b1), (.ref b1)])) rfl rfl (hb hby d9_7)
  have V2 : Arv Z h2 b1 k1 .byte (1 : Int32) [(.int (nar .byte (p1.toInt8.toInt32)))] (.int (0 : Int32)) := Arv.set Ar2 ak2 aS2 aN2 aH2 aG2 (fits_nar_byte _) W2 0 rfl (by first | decide | exact Nat.le_of_ble_eq_true rfl | simp)
  have Z2 : n0 ≤ h2.size := by rw [W2.size]; exact Z1
  have K2 := Keep.wr K1 W2 (Or.inr sz_b1)
  have N2 := Fr.snoc X2 N0 ge_b1
  refine own_go st2 ?_
  show own_Gl p.tables e below F (T2.setTop (mkF m 8 #[.val (.int p1)] [(.ref b1)]))
  obtain ⟨fs, hr, hrun, hended, hW, hsame⟩ := X2.leave (v := some (.ref b1)) (fun h => by rw [Bd.returns] at h; cases h)
  subst hF
  refine own_fin ?_ ⟨hrun, hended, _, _, rfl, ?_, ⟨_, rfl⟩, hW, hsame.mono (by first | decide | exact Nat.le_of_ble_eq_true rfl) (by first | decide | exact Nat.le_of_ble_eq_true rfl)⟩
  · exact own_retA X2 hx Bd.returns rfl rfl (hb hby d9_8) hr
  · show Q_rm9 Z _ h0 n0 _ T2.heap _
    rw [e2]
    exact ⟨b1, rfl, N2, K2, sz_b1⟩
theorem ef_rm7 (m : MethodId) (x0 : Int32) : entryFrame m #[(.int x0)] 1 = mkF m 0 #[.val (.int x0)] [] := by first | (simp [entryFrame, mkF, argsToLocals, Value.category]; done) | rfl
theorem d7_0 : decode jdk_42_method_139_code 0 = .ok (.getstatic 38, 3) := by decide +kernel
theorem d7_3 : decode jdk_42_method_139_code 3 = .ok (.ifCond .eq 23, 3) := by decide +kernel
theorem d7_6 : decode jdk_42_method_139_code 6 = .ok (.iload_n 0, 1) := by decide +kernel
theorem d7_7 : decode jdk_42_method_139_code 7 = .ok (.invokestatic 1015, 3) := by decide +kernel
theorem pd_2 : parseMethodDescriptor "(C)Z" = some ⟨[.char], some .boolean⟩ := by decide +kernel
theorem d7_10 : decode jdk_42_method_139_code 10 = .ok (.ifCond .eq 16, 3) := by decide +kernel
theorem d7_13 : decode jdk_42_method_139_code 13 = .ok (.new 10, 3) := by decide +kernel
theorem d7_16 : decode jdk_42_method_139_code 16 = .ok (.dup, 1) := by decide +kernel
theorem d7_17 : decode jdk_42_method_139_code 17 = .ok (.iload_n 0, 1) := by decide +kernel
theorem d7_18 : decode jdk_42_method_139_code 18 = .ok (.invokestatic 1018, 3) := by decide +kernel
theorem pd_3 : parseMethodDescriptor "(C)[B" = some ⟨[.char], some (.array .byte)⟩ := by decide +kernel
theorem d7_21 : decode jdk_42_method_139_code 21 = .ok (.iconst 0, 1) := by decide +kernel
theorem d7_22 : decode jdk_42_method_139_code 22 = .ok (.invokespecial 209, 3) := by decide +kernel
theorem pd_4 : parseMethodDescriptor "([BB)V" = some ⟨[(.array .byte), .byte], none⟩ := by decide +kernel
theorem d7_25 : decode jdk_42_method_139_code 25 = .ok (.areturn, 1) := by decide +kernel
def Q_rm7 (Z : State) (p1 zc : Int32) (h0 : Heap) (n0 : Nat) (v : Option Value) (h : Heap) (L : List Loc) : Prop := ∃ x : Addr, v = some (.ref x) ∧ Fr n0 L ∧ Keep h0 h [] ∧ h0.size ≤ x ∧ Exa Z h x "java/lang/String"
set_option maxRecDepth 65536 in
set_option maxHeartbeats 40000000 in
theorem rm7 (l : Launch) (Z : State) (a0 : Array Value) (hw : ∀ d ∈ tables_1, d.before a0 Z = true) (ws : List Jvm.Cond) (p1 zc : Int32) (h0 : Heap) (n0 : Nat) (Z0 : n0 ≤ h0.size) (OO : Old Z n0 h0) (O2 : Sta Z Z.heap "java/lang/String" "COMPACT_STRINGS" "Z" (.int zc)) (P5 : ¬ zc = 0) (h1 : ¬ (255 : Int32) < p1) :
    MetFree l (⟨"java/lang/String", "valueOf", "(C)Ljava/lang/String;"⟩ : MethodName) (head1 (Jvm.Cond.code (⟨"java/lang/String", "valueOf", "(C)Ljava/lang/String;"⟩ : MethodName) jdk_42_method_139_code 1 (some (.object "java/lang/String")) :: ws) ({ frames := 2, cells := 2, slots := 5, locals := 27 } : Room)) (fun ag U => ag = #[(.int p1)] ∧ Z.Warmed39 U.vm ∧ U.heap = h0) (fun _ _ _ _ _ => True) (fun _ U o U' => ∃ v L, o = .returned v ∧ Q_rm7 Z p1 zc h0 n0 v U'.heap L ∧ FrameEnd U o U' L ({ frames := 2, cells := 2, slots := 5, locals := 27 } : Room).cells ({ frames := 2, cells := 2, slots := 5, locals := 27 } : Room).slots) := by
  refine MetFree.of_bodySF (plainFor_of_name pn_0) hisR ?_
  intro p e s m args below meth c s₁ Bd hml0 hP hK
  obtain ⟨rfl, hZ, hh⟩ := hP
  have hx := Bd.exec
  have hby := Bd.bytes
  have hml : c.maxLocals = 1 := hml0
  have hown : s.vm.findClass "java/lang/String" = some m.cls := findClass_of_methodNamed Bd.named
  have hnm := (name_of_methodNamed Bd.named Bd.method).1
  have X0 : Stand p l e ({ frames := 2, cells := 2, slots := 5, locals := 27 } : Room) s m #[(.int p1)] below meth c s₁ [] 0 0 := Stand.of_body Bd
  have e0 : s₁.heap = h0 := by rw [← hh, Bd.state]; rfl
  have N0 := Fr.nil n0
  refine own_start (ef_rm7 m p1) ?_
  intro F hF
  show own_Gl p.tables e below F (s₁.setTop (mkF m 0 #[.val (.int p1)] []))
  have S1 := O2.ext OO.2
  obtain ⟨T1, X1, e1, st1⟩ := getS2 X0 hx hZ hown (host := "") (Or.inl (hw _ (List.mem_of_getElem? (i := 14) rfl))) Via.refl e0 S1 (g := (mkF m 0 #[.val (.int p1)] [])) rfl (hb hby d7_0)
  refine own_go st1 ?_
  show own_Gl p.tables e below F (T1.setTop (mkF m 3 #[.val (.int p1)] [(.int zc)]))
  refine own_go (fun _ k => XS.ifNo X1.here hx rfl (hb hby d7_3) rfl (XT.i0_eq_f P5) k) ?_
  show own_Gl p.tables e below F (T1.setTop (mkF m 6 #[.val (.int p1)] []))
  refine own_go (fun _ k => XS.iloadN X1.here hx rfl (hb hby d7_6) rfl k) ?_
  show own_Gl p.tables e below F (T1.setTop (mkF m 7 #[.val (.int p1)] [(.int p1)]))
  obtain ⟨_, _, ⟨T2, L2, k2, n2⟩, -, X2, ⟨Lc2, hQ2, l2, y2, z2⟩, st2⟩ := Jvm.LawKit.callS X1 hx (y := (⟨"java/lang/StringLatin1", "canEncode", "(C)Z"⟩ : MethodName)) hown (mvT hZ (hw _ (List.mem_of_getElem? (i := 33) rfl))) (mvT hZ (hw _ (List.mem_of_getElem? (i := 34) rfl))) (mvT hZ (hw _ (List.mem_of_getElem? (i := 35) rfl))) (mvT hZ (hw _ (List.mem_of_getElem? (i := 36) rfl))) (by decide) (backOf (W := 0) (rm8 l Z a0 hw [] p1  h0 n0 Z0 h1) hZ (hw _ (List.mem_of_getElem? (i := 36) rfl)) (hw _ (List.mem_of_getElem? (i := 35) rfl)) (by decide) (by decide)) (g := (mkF m 7 #[.val (.int p1)] [(.int p1)])) rfl (by rw [hml]; rfl) (argsL := [(.int p1)]) (rest := []) (lenOf pd_2 rfl) rfl (by show 2 * 0 + _ ≤ _; exact Nat.le_of_eq rfl) (hb hby d7_7) (fun _ _ => ⟨rfl, e1, (by first | decide | exact Nat.le_of_ble_eq_true rfl), (by first | decide | exact Nat.le_of_ble_eq_true rfl)⟩)
  dsimp only [Pt.U, Pt.locs, Pt.cells, Pt.slots] at X2 l2 y2 z2 st2 hQ2
  have X2 := own_sn X2 (k' := 0) (n' := 0) y2 z2
  obtain ⟨rfl, N2, e2⟩ := hQ2
  have NF2 := own_fr l2 N0 N2
  refine own_go st2 ?_
  show own_Gl p.tables e below F (T2.setTop (mkF m 10 #[.val (.int p1)] [(.int (1 : Int32))]))
  refine own_go (fun _ k => XS.ifNo X2.here hx rfl (hb hby d7_10) rfl (XT.i0_eq_f (by decide)) k) ?_
  show own_Gl p.tables e below F (T2.setTop (mkF m 13 #[.val (.int p1)] []))
  obtain ⟨T3, h3, X3, e3, E3, A3, D3, -, st3⟩ := newO X2 hx hZ hown (hw _ (List.mem_of_getElem? (i := 37) rfl)) (hw _ (List.mem_of_getElem? (i := 1) rfl)) (hw _ (List.mem_of_getElem? (i := 2) rfl)) e2 (g := (mkF m 13 #[.val (.int p1)] [])) rfl (hb hby d7_13) (by first | decide | exact Nat.le_of_ble_eq_true rfl) (by first | decide | exact Nat.le_of_ble_eq_true rfl)
  obtain ⟨b3, g3⟩ : ∃ z, z = h0.size := ⟨_, rfl⟩
  rw [← g3] at A3 D3 st3
  have ge_b3 : n0 ≤ b3 := Nat.le_trans Z0 (Nat.le_of_eq g3.symm)
  have sz_b3 : h0.size ≤ b3 := Nat.le_trans ((Keep.refl h0 [])).1 (Nat.le_of_eq g3.symm)
  have f3_0 := S1.ext E3
  have Z3 : n0 ≤ h3.size := Nat.le_trans Z0 E3.1
  have K3 := Keep.ext (Keep.refl h0 []) E3
  have F3_coder : Fld Z h3 b3 "java/lang/String" "coder" "B" (.int (0 : Int32)) := D3 (Or.inr (hw _ (List.mem_of_getElem? (i := 27) rfl))) (ty := .byte) (by decide)
  have F3_value : Fld Z h3 b3 "java/lang/String" "value" "[B" .null := D3 (Or.inr (hw _ (List.mem_of_getElem? (i := 29) rfl))) (ty := (.array .byte)) (by decide)
  have X3 : Stand _ _ _ _ _ _ _ _ _ _ _ _ 1 4 := X3
  refine own_go st3 ?_
  show own_Gl p.tables e below F (T3.setTop (mkF m 16 #[.val (.int p1)] [(.ref b3)]))
  refine own_go (fun _ k => XS.dup X3.here hx rfl (hb hby d7_16) rfl rfl k) ?_
  show own_Gl p.tables e below F (T3.setTop (mkF m 17 #[.val (.int p1)] [(.ref b3), (.ref b3)]))
  refine own_go (fun _ k => XS.iloadN X3.here hx rfl (hb hby d7_17) rfl k) ?_
  show own_Gl p.tables e below F (T3.setTop (mkF m 18 #[.val (.int p1)] [(.int p1), (.ref b3), (.ref b3)]))
  obtain ⟨_, _, ⟨T4, L4, k4, n4⟩, -, X4, ⟨Lc4, hQ4, l4, y4, z4⟩, st4⟩ := Jvm.LawKit.callS X3 hx (y := (⟨"java/lang/StringLatin1", "toBytes", "(C)[B"⟩ : MethodName)) hown (mvT hZ (hw _ (List.mem_of_getElem? (i := 38) rfl))) (mvT hZ (hw _ (List.mem_of_getElem? (i := 39) rfl))) (mvT hZ (hw _ (List.mem_of_getElem? (i := 35) rfl))) (mvT hZ (hw _ (List.mem_of_getElem? (i := 40) rfl))) (by decide) (backOf (W := 2) (rm9 l Z a0 hw [] p1  h3 n0 Z3 ) hZ (hw _ (List.mem_of_getElem? (i := 40) rfl)) (hw _ (List.mem_of_getElem? (i := 35) rfl)) (by decide) (by decide)) (g := (mkF m 18 #[.val (.int p1)] [(.int p1), (.ref b3), (.ref b3)])) rfl (by rw [hml]; rfl) (argsL := [(.int p1)]) (rest := [(.ref b3), (.ref b3)]) (lenOf pd_3 rfl) rfl (by show 2 * 0 + _ ≤ _; exact Nat.le_of_eq rfl) (hb hby d7_18) (fun _ _ => ⟨rfl, e3, (by first | decide | exact Nat.le_of_ble_eq_true rfl), (by first | decide | exact Nat.le_of_ble_eq_true rfl)⟩)
  dsimp only [Pt.U, Pt.locs, Pt.cells, Pt.slots] at X4 l4 y4 z4 st4 hQ4
  have X4 := own_sn X4 (k' := 2) (n' := 5) y4 z4
  obtain ⟨t4, rfl, N4, K4, ht4⟩ := hQ4
  have NF4 := own_fr l4 NF2 N4
  have f4_2 := A3.keep K4
  have f4_3 := F3_coder.keep K4 nin0
  have f4_4 := F3_value.keep K4 nin0
  have Z4 : n0 ≤ T4.heap.size := Nat.le_trans Z3 K4.1
  have KK4 := Keep.trans K3 K4 (fun _ q => nomatch q)
  refine own_go st4 ?_
  show own_Gl p.tables e below F (T4.setTop (mkF m 21 #[.val (.int p1)] [(.ref t4), (.ref b3), (.ref b3)]))
  refine own_go (fun _ k => XS.iconst X4.here hx rfl (hb hby d7_21) k) ?_
  show own_Gl p.tables e below F (T4.setTop (mkF m 22 #[.val (.int p1)] [(.int (0 : Int32)), (.ref t4), (.ref b3), (.ref b3)]))
  obtain ⟨_, _, ⟨T5, L5, k5, n5⟩, -, X5, ⟨Lc5, hQ5, l5, y5, z5⟩, st5⟩ := X4.specialBack hx (y := (⟨"java/lang/String", "<init>", "([BB)V"⟩ : MethodName)) rfl hown (mvT hZ (hw _ (List.mem_of_getElem? (i := 41) rfl))) (mvT hZ (hw _ (List.mem_of_getElem? (i := 42) rfl))) (mvT hZ (hw _ (List.mem_of_getElem? (i := 43) rfl))) (by decide) (backOf (W := 1) (rmSB l Z a0 hw [] b3 t4 (0 : Int32)  T4.heap n0 Z4 f4_2 f4_4 f4_3 ge_b3) hZ (hw _ (List.mem_of_getElem? (i := 43) rfl)) (hw _ (List.mem_of_getElem? (i := 2) rfl)) (by decide) (by decide)) (g := (mkF m 22 #[.val (.int p1)] [(.int (0 : Int32)), (.ref t4), (.ref b3), (.ref b3)])) rfl (by rw [hml]; rfl) (Steps.refl _) (a := b3) (argsL := [(.ref t4), (.int (0 : Int32))]) (rest := [(.ref b3)]) (lenOf pd_4 rfl) rfl (by show 2 * 0 + _ ≤ _; exact Nat.le_of_eq rfl) (hb hby d7_22) (fun _ _ => ⟨rfl, rfl, (by first | decide | exact Nat.le_of_ble_eq_true rfl), (by first | decide | exact Nat.le_of_ble_eq_true rfl)⟩)
  dsimp only [Pt.U, Pt.locs, Pt.cells, Pt.slots] at X5 l5 y5 z5 st5 hQ5
  have X5 := own_sn X5 (k' := 2) (n' := 5) y5 z5
  obtain ⟨rfl, N5, K5, GE5, -, -⟩ := hQ5
  have NF5 := own_fr l5 NF4 N5
  have f5_1 := f4_2.keep K5
  have Z5 : n0 ≤ T5.heap.size := Nat.le_trans Z4 K5.1
  have KK5 := Keep.trans KK4 K5 (by intro z hz; simp at hz; rcases hz with rfl; all_goals first | (left; simp; done) | (right; assumption))
  refine own_go (fun _ k => st5.trans k) ?_
  show own_Gl p.tables e below F (T5.setTop (mkF m 25 #[.val (.int p1)] [(.ref b3)]))
  obtain ⟨fs, hr, hrun, hended, hW, hsame⟩ := X5.leave (v := some (.ref b3)) (fun h => by rw [Bd.returns] at h; cases h)
  subst hF
  refine own_fin ?_ ⟨hrun, hended, _, _, rfl, ?_, ⟨_, rfl⟩, hW, hsame.mono (by first | decide | exact Nat.le_of_ble_eq_true rfl) (by first | decide | exact Nat.le_of_ble_eq_true rfl)⟩
  · exact own_retA X5 hx Bd.returns rfl rfl (hb hby d7_25) hr
  · show Q_rm7 Z _ _ h0 n0 _ T5.heap _
    exact ⟨b3, rfl, NF5, KK5, sz_b3, GE5⟩
theorem ef_rm12 (m : MethodId) (x0 : Addr) : entryFrame m #[(.ref x0)] 1 = mkF m 0 #[.val (.ref x0)] [] := by first | (simp [entryFrame, mkF, argsToLocals, Value.category]; done) | rfl
theorem pn_7 : plainName "java/util/AbstractList" = true := by first | (simp [plainName, overriddenIn]; done) | decide +kernel
theorem d12_0 : decode jdk_39_method_1_code 0 = .ok (.aload_n 0, 1) := by decide +kernel
theorem d12_1 : decode jdk_39_method_1_code 1 = .ok (.invokespecial 1, 3) := by decide +kernel
theorem d12_4 : decode jdk_39_method_1_code 4 = .ok (.aload_n 0, 1) := by decide +kernel
theorem d12_5 : decode jdk_39_method_1_code 5 = .ok (.iconst 0, 1) := by decide +kernel
theorem d12_6 : decode jdk_39_method_1_code 6 = .ok (.putfield 7, 3) := by decide +kernel
theorem d12_9 : decode jdk_39_method_1_code 9 = .ok (.return_, 1) := by decide +kernel
def Q_rm12 (Z : State) (a : Addr) (h0 : Heap) (n0 : Nat) (v : Option Value) (h : Heap) (L : List Loc) : Prop := v = none ∧ Fr n0 L ∧ Keep h0 h [a] ∧ Exa Z h a "java/util/ArrayList" ∧ Fld Z h a "java/util/AbstractList" "modCount" "I" (.int (0 : Int32)) ∧ Fld Z h a "java/util/ArrayList" "elementData" "[Ljava/lang/Object;" .null ∧ Fld Z h a "java/util/ArrayList" "size" "I" (.int (0 : Int32))
set_option maxRecDepth 65536 in
set_option maxHeartbeats 40000000 in
theorem rm12 (l : Launch) (Z : State) (a0 : Array Value) (hw : ∀ d ∈ tables_1, d.before a0 Z = true) (ws : List Jvm.Cond) (a : Addr) (h0 : Heap) (n0 : Nat) (Z0 : n0 ≤ h0.size) (E_a : Exa Z h0 a "java/util/ArrayList") (F1 : Fld Z h0 a "java/util/AbstractList" "modCount" "I" (.int (0 : Int32))) (F2 : Fld Z h0 a "java/util/ArrayList" "elementData" "[Ljava/lang/Object;" .null) (F3 : Fld Z h0 a "java/util/ArrayList" "size" "I" (.int (0 : Int32))) (g_a : n0 ≤ a) :
    MetFree l (⟨"java/util/AbstractList", "<init>", "()V"⟩ : MethodName) (head1 (Jvm.Cond.code (⟨"java/util/AbstractList", "<init>", "()V"⟩ : MethodName) jdk_39_method_1_code 1 none :: ws) ({ frames := 2, cells := 0, slots := 0, locals := 24 } : Room)) (fun ag U => ag = #[(.ref a)] ∧ Z.Warmed39 U.vm ∧ U.heap = h0) (fun _ _ _ _ _ => True) (fun _ U o U' => ∃ v L, o = .returned v ∧ Q_rm12 Z a h0 n0 v U'.heap L ∧ FrameEnd U o U' L ({ frames := 2, cells := 0, slots := 0, locals := 24 } : Room).cells ({ frames := 2, cells := 0, slots := 0, locals := 24 } : Room).slots) := by
  refine MetFree.of_bodySF (plainFor_of_name pn_7) hisR ?_
  intro p e s m args below meth c s₁ Bd hml0 hP hK
  obtain ⟨rfl, hZ, hh⟩ := hP
  have hx := Bd.exec
  have hby := Bd.bytes
  have hml : c.maxLocals = 1 := hml0
  have hown : s.vm.findClass "java/util/AbstractList" = some m.cls := findClass_of_methodNamed Bd.named
  have hnm := (name_of_methodNamed Bd.named Bd.method).1
  have X0 : Stand p l e ({ frames := 2, cells := 0, slots := 0, locals := 24 } : Room) s m #[(.ref a)] below meth c s₁ [] 0 0 := Stand.of_body Bd
  have e0 : s₁.heap = h0 := by rw [← hh, Bd.state]; rfl
  have N0 := Fr.nil n0
  refine own_start (ef_rm12 m a) ?_
  intro F hF
  show own_Gl p.tables e below F (s₁.setTop (mkF m 0 #[.val (.ref a)] []))
  refine own_go (fun _ k => XS.aloadN X0.here hx rfl (hb hby d12_0) rfl rfl k) ?_
  show own_Gl p.tables e below F (s₁.setTop (mkF m 1 #[.val (.ref a)] [(.ref a)]))
  obtain ⟨_, _, ⟨T1, L1, k1, n1⟩, -, X1, ⟨Lc1, hQ1, l1, y1, z1⟩, st1⟩ := X0.specialBack hx (y := (⟨"java/util/AbstractCollection", "<init>", "()V"⟩ : MethodName)) rfl hown (mvT hZ (hw _ (List.mem_of_getElem? (i := 56) rfl))) (mvT hZ (hw _ (List.mem_of_getElem? (i := 57) rfl))) (mvT hZ (hw _ (List.mem_of_getElem? (i := 61) rfl))) (by decide) (backOf (W := 0) (rm13 l Z a0 hw [] a  h0 n0 Z0 ) hZ (hw _ (List.mem_of_getElem? (i := 61) rfl)) (hw _ (List.mem_of_getElem? (i := 60) rfl)) (by decide) (by decide)) (g := (mkF m 1 #[.val (.ref a)] [(.ref a)])) rfl (by rw [hml]; rfl) (Steps.refl _) (a := a) (argsL := []) (rest := []) (lenOf pd_1 rfl) rfl (by show 2 * 0 + _ ≤ _; exact Nat.le_of_eq rfl) (hb hby d12_1) (fun _ _ => ⟨rfl, e0, (by first | decide | exact Nat.le_of_ble_eq_true rfl), (by first | decide | exact Nat.le_of_ble_eq_true rfl)⟩)
  dsimp only [Pt.U, Pt.locs, Pt.cells, Pt.slots] at X1 l1 y1 z1 st1 hQ1
  have X1 := own_sn X1 (k' := 0) (n' := 0) y1 z1
  obtain ⟨rfl, N1, e1⟩ := hQ1
  have NF1 := own_fr l1 N0 N1
  refine own_go (fun _ k => st1.trans k) ?_
  show own_Gl p.tables e below F (T1.setTop (mkF m 4 #[.val (.ref a)] []))
  refine own_go (fun _ k => XS.aloadN X1.here hx rfl (hb hby d12_4) rfl rfl k) ?_
  show own_Gl p.tables e below F (T1.setTop (mkF m 5 #[.val (.ref a)] [(.ref a)]))
  refine own_go (fun _ k => XS.iconst X1.here hx rfl (hb hby d12_5) k) ?_
  show own_Gl p.tables e below F (T1.setTop (mkF m 6 #[.val (.ref a)] [(.int (0 : Int32)), (.ref a)]))
  obtain ⟨T2, h2, X2, e2, W2, st2⟩ := putF X1 hx hZ hown (host := "") (Or.inl (hw _ (List.mem_of_getElem? (i := 63) rfl))) Via.refl e1 F1 E_a (Or.inl (hw _ (List.mem_of_getElem? (i := 64) rfl))) (hw _ (List.mem_of_getElem? (i := 45) rfl)) (ty := .int) (by decide) rfl rfl (g := (mkF m 6 #[.val (.ref a)] [(.int (0 : Int32)), (.ref a)])) rfl rfl (hb hby d12_6)
  have Fw2 := F1.same W2
  have f2_1 := E_a.wr W2
  have f2_3 := F2.other W2 (Or.inr (slot_ne (Or.inl (hw _ (List.mem_of_getElem? (i := 67) rfl))) (Or.inl (hw _ (List.mem_of_getElem? (i := 64) rfl))) (by decide) (t := (.array (.object "java/lang/Object"))) (t' := .int) (by decide) (by decide)))
  have f2_4 := F3.other W2 (Or.inr (slot_ne (Or.inl (hw _ (List.mem_of_getElem? (i := 121) rfl))) (Or.inl (hw _ (List.mem_of_getElem? (i := 64) rfl))) (by decide) (t := .int) (t' := .int) (by decide) (by decide)))
  have Z2 : n0 ≤ h2.size := by rw [W2.size]; exact Z0
  have K2 := Keep.wr (Keep.refl h0 [a]) W2 (Or.inl (by simp))
  have N2 := Fr.snoc X2 NF1 g_a
  refine own_go st2 ?_
  show own_Gl p.tables e below F (T2.setTop (mkF m 9 #[.val (.ref a)] []))
  obtain ⟨fs, hr, hrun, hended, hW, hsame⟩ := X2.leave (v := none) (fun _ => rfl)
  subst hF
  refine own_fin ?_ ⟨hrun, hended, _, _, rfl, ?_, ⟨_, rfl⟩, hW, hsame.mono (by first | decide | exact Nat.le_of_ble_eq_true rfl) (by first | decide | exact Nat.le_of_ble_eq_true rfl)⟩
  · exact X2.returnOut hx Bd.returns (hb hby d12_9) hr
  · show Q_rm12 Z _ h0 n0 _ T2.heap _
    rw [e2]
    exact ⟨rfl, N2, K2, f2_1, Fw2, f2_3, f2_4⟩
theorem ef_rm11 (m : MethodId) (x0 : Addr) : entryFrame m #[(.ref x0)] 1 = mkF m 0 #[.val (.ref x0)] [] := by first | (simp [entryFrame, mkF, argsToLocals, Value.category]; done) | rfl
theorem pn_8 : plainName "java/util/ArrayList" = true := by first | (simp [plainName, overriddenIn]; done) | decide +kernel
theorem d11_0 : decode jdk_38_method_2_code 0 = .ok (.aload_n 0, 1) := by decide +kernel
theorem d11_1 : decode jdk_38_method_2_code 1 = .ok (.invokespecial 1, 3) := by decide +kernel
theorem d11_4 : decode jdk_38_method_2_code 4 = .ok (.aload_n 0, 1) := by decide +kernel
theorem d11_5 : decode jdk_38_method_2_code 5 = .ok (.getstatic 39, 3) := by decide +kernel
theorem d11_8 : decode jdk_38_method_2_code 8 = .ok (.putfield 9, 3) := by decide +kernel
theorem d11_11 : decode jdk_38_method_2_code 11 = .ok (.return_, 1) := by decide +kernel
def Q_rm11 (Z : State) (a dc : Addr) (kd : ClassId) (h0 : Heap) (n0 : Nat) (v : Option Value) (h : Heap) (L : List Loc) : Prop := v = none ∧ Fr n0 L ∧ Keep h0 h [a] ∧ Exa Z h a "java/util/ArrayList" ∧ Fld Z h a "java/util/AbstractList" "modCount" "I" (.int (0 : Int32)) ∧ Fld Z h a "java/util/ArrayList" "elementData" "[Ljava/lang/Object;" (.ref dc) ∧ Fld Z h a "java/util/ArrayList" "size" "I" (.int (0 : Int32))
set_option maxRecDepth 65536 in
set_option maxHeartbeats 40000000 in
theorem rm11 (l : Launch) (Z : State) (a0 : Array Value) (hw : ∀ d ∈ tables_1, d.before a0 Z = true) (ws : List Jvm.Cond) (a dc : Addr) (kd : ClassId) (h0 : Heap) (n0 : Nat) (Z0 : n0 ≤ h0.size) (E_a : Exa Z h0 a "java/util/ArrayList") (F1 : Fld Z h0 a "java/util/AbstractList" "modCount" "I" (.int (0 : Int32))) (F2 : Fld Z h0 a "java/util/ArrayList" "elementData" "[Ljava/lang/Object;" .null) (F3 : Fld Z h0 a "java/util/ArrayList" "size" "I" (.int (0 : Int32))) (g_a : n0 ≤ a) (OO : Old Z n0 h0) (SD : Sta Z Z.heap "java/util/ArrayList" "DEFAULTCAPACITY_EMPTY_ELEMENTDATA" "[Ljava/lang/Object;" (.ref dc)) (VD : Arv Z Z.heap dc kd (.object "java/lang/Object") 0 [] .null) :
    MetFree l (⟨"java/util/ArrayList", "<init>", "()V"⟩ : MethodName) (head1 (Jvm.Cond.code (⟨"java/util/ArrayList", "<init>", "()V"⟩ : MethodName) jdk_38_method_2_code 1 none :: ws) ({ frames := 3, cells := 0, slots := 0, locals := 36 } : Room)) (fun ag U => ag = #[(.ref a)] ∧ Z.Warmed39 U.vm ∧ U.heap = h0) (fun _ _ _ _ _ => True) (fun _ U o U' => ∃ v L, o = .returned v ∧ Q_rm11 Z a dc kd h0 n0 v U'.heap L ∧ FrameEnd U o U' L ({ frames := 3, cells := 0, slots := 0, locals := 36 } : Room).cells ({ frames := 3, cells := 0, slots := 0, locals := 36 } : Room).slots) := by
  refine MetFree.of_bodySF (plainFor_of_name pn_8) hisR ?_
  intro p e s m args below meth c s₁ Bd hml0 hP hK
  obtain ⟨rfl, hZ, hh⟩ := hP
  have hx := Bd.exec
  have hby := Bd.bytes
  have hml : c.maxLocals = 1 := hml0
  have hown : s.vm.findClass "java/util/ArrayList" = some m.cls := findClass_of_methodNamed Bd.named
  have hnm := (name_of_methodNamed Bd.named Bd.method).1
  have X0 : Stand p l e ({ frames := 3, cells := 0, slots := 0, locals := 36 } : Room) s m #[(.ref a)] below meth c s₁ [] 0 0 := Stand.of_body Bd
  have e0 : s₁.heap = h0 := by rw [← hh, Bd.state]; rfl
  have N0 := Fr.nil n0
  refine own_start (ef_rm11 m a) ?_
  intro F hF
  show own_Gl p.tables e below F (s₁.setTop (mkF m 0 #[.val (.ref a)] []))
  refine own_go (fun _ k => XS.aloadN X0.here hx rfl (hb hby d11_0) rfl rfl k) ?_
  show own_Gl p.tables e below F (s₁.setTop (mkF m 1 #[.val (.ref a)] [(.ref a)]))
  obtain ⟨_, _, ⟨T1, L1, k1, n1⟩, -, X1, ⟨Lc1, hQ1, l1, y1, z1⟩, st1⟩ := X0.specialBack hx (y := (⟨"java/util/AbstractList", "<init>", "()V"⟩ : MethodName)) rfl hown (mvT hZ (hw _ (List.mem_of_getElem? (i := 50) rfl))) (mvT hZ (hw _ (List.mem_of_getElem? (i := 51) rfl))) (mvT hZ (hw _ (List.mem_of_getElem? (i := 55) rfl))) (by decide) (backOf (W := 0) (rm12 l Z a0 hw [] a  h0 n0 Z0 E_a F1 F2 F3 g_a) hZ (hw _ (List.mem_of_getElem? (i := 55) rfl)) (hw _ (List.mem_of_getElem? (i := 54) rfl)) (by decide) (by decide)) (g := (mkF m 1 #[.val (.ref a)] [(.ref a)])) rfl (by rw [hml]; rfl) (Steps.refl _) (a := a) (argsL := []) (rest := []) (lenOf pd_1 rfl) rfl (by show 2 * 0 + _ ≤ _; exact Nat.le_of_eq rfl) (hb hby d11_1) (fun _ _ => ⟨rfl, e0, (by first | decide | exact Nat.le_of_ble_eq_true rfl), (by first | decide | exact Nat.le_of_ble_eq_true rfl)⟩)
  dsimp only [Pt.U, Pt.locs, Pt.cells, Pt.slots] at X1 l1 y1 z1 st1 hQ1
  have X1 := own_sn X1 (k' := 0) (n' := 0) y1 z1
  obtain ⟨rfl, N1, K1, GE1, GM1, GD1, GS1⟩ := hQ1
  have NF1 := own_fr l1 N0 N1
  have f1_1 := E_a.keep K1
  have Z1 : n0 ≤ T1.heap.size := Nat.le_trans Z0 K1.1
  have KK1 := Keep.trans (Keep.refl h0 [a]) K1 (by intro z hz; simp at hz; rcases hz with rfl; all_goals first | (left; simp; done) | (right; assumption))
  refine own_go (fun _ k => st1.trans k) ?_
  show own_Gl p.tables e below F (T1.setTop (mkF m 4 #[.val (.ref a)] []))
  have OK1 := OO.keep K1 (allS g_a all0)
  have U0 := SD.ext OK1.2
  refine own_go (fun _ k => XS.aloadN X1.here hx rfl (hb hby d11_4) rfl rfl k) ?_
  show own_Gl p.tables e below F (T1.setTop (mkF m 5 #[.val (.ref a)] [(.ref a)]))
  obtain ⟨T2, X2, e2, st2⟩ := getS2 X1 hx hZ hown (host := "") (Or.inl (hw _ (List.mem_of_getElem? (i := 65) rfl))) Via.refl rfl U0 (g := (mkF m 5 #[.val (.ref a)] [(.ref a)])) rfl (hb hby d11_5)
  refine own_go st2 ?_
  show own_Gl p.tables e below F (T2.setTop (mkF m 8 #[.val (.ref a)] [(.ref dc), (.ref a)]))
  obtain ⟨T3, h3, X3, e3, W3, st3⟩ := putF X2 hx hZ hown (host := "") (Or.inl (hw _ (List.mem_of_getElem? (i := 66) rfl))) Via.refl e2 GD1 GE1 (Or.inl (hw _ (List.mem_of_getElem? (i := 67) rfl))) (hw _ (List.mem_of_getElem? (i := 45) rfl)) (ty := (.array (.object "java/lang/Object"))) (by decide) rfl rfl (g := (mkF m 8 #[.val (.ref a)] [(.ref dc), (.ref a)])) rfl rfl (hb hby d11_8)
  have Fw3 := GD1.same W3
  have f3_1 := GE1.wr W3
  have f3_2 := GM1.other W3 (Or.inr (slot_ne (Or.inl (hw _ (List.mem_of_getElem? (i := 64) rfl))) (Or.inl (hw _ (List.mem_of_getElem? (i := 67) rfl))) (by decide) (t := .int) (t' := (.array (.object "java/lang/Object"))) (by decide) (by decide)))
  have f3_4 := GS1.other W3 (Or.inr (slot_ne (Or.inl (hw _ (List.mem_of_getElem? (i := 121) rfl))) (Or.inl (hw _ (List.mem_of_getElem? (i := 67) rfl))) (by decide) (t := .int) (t' := (.array (.object "java/lang/Object"))) (by decide) (by decide)))
  have f3_5 := U0.wr W3
  have Z3 : n0 ≤ h3.size := by rw [W3.size]; exact Z1
  have K3 := Keep.wr KK1 W3 (Or.inl (by simp))
  have N3 := Fr.snoc X3 NF1 g_a
  refine own_go st3 ?_
  show own_Gl p.tables e below F (T3.setTop (mkF m 11 #[.val (.ref a)] []))
  obtain ⟨fs, hr, hrun, hended, hW, hsame⟩ := X3.leave (v := none) (fun _ => rfl)
  subst hF
  refine own_fin ?_ ⟨hrun, hended, _, _, rfl, ?_, ⟨_, rfl⟩, hW, hsame.mono (by first | decide | exact Nat.le_of_ble_eq_true rfl) (by first | decide | exact Nat.le_of_ble_eq_true rfl)⟩
  · exact X3.returnOut hx Bd.returns (hb hby d11_11) hr
  · show Q_rm11 Z _ _ _ h0 n0 _ T3.heap _
    rw [e3]
    exact ⟨rfl, N3, K3, f3_1, f3_2, Fw3, f3_4⟩
theorem ef_rmgi (m : MethodId) (x0 : Addr) (x1 : Int32) : entryFrame m #[(.ref x0), (.int x1)] 4 = mkF m 0 #[.val (.ref x0), .val (.int x1), .unset, .unset] [] := by first | (simp [entryFrame, mkF, argsToLocals, Value.category]; done) | rfl
theorem d28_0 : decode jdk_38_method_6_code 0 = .ok (.aload_n 0, 1) := by decide +kernel
theorem d28_1 : decode jdk_38_method_6_code 1 = .ok (.getfield 9, 3) := by decide +kernel
theorem d28_4 : decode jdk_38_method_6_code 4 = .ok (.arraylength, 1) := by decide +kernel
theorem d28_5 : decode jdk_38_method_6_code 5 = .ok (.istore_n 2, 1) := by decide +kernel
theorem d28_6 : decode jdk_38_method_6_code 6 = .ok (.iload_n 2, 1) := by decide +kernel
theorem d28_7 : decode jdk_38_method_6_code 7 = .ok (.ifCond .gt 13, 3) := by decide +kernel
theorem d28_10 : decode jdk_38_method_6_code 10 = .ok (.aload_n 0, 1) := by decide +kernel
theorem d28_11 : decode jdk_38_method_6_code 11 = .ok (.getfield 9, 3) := by decide +kernel
theorem d28_14 : decode jdk_38_method_6_code 14 = .ok (.getstatic 39, 3) := by decide +kernel
theorem d28_17 : decode jdk_38_method_6_code 17 = .ok (.if_acmp .eq 28, 3) := by decide +kernel
theorem d28_45 : decode jdk_38_method_6_code 45 = .ok (.aload_n 0, 1) := by decide +kernel
theorem d28_46 : decode jdk_38_method_6_code 46 = .ok (.bipush 10, 2) := by decide +kernel
theorem d28_48 : decode jdk_38_method_6_code 48 = .ok (.iload_n 1, 1) := by decide +kernel
theorem d28_49 : decode jdk_38_method_6_code 49 = .ok (.invokestatic 79, 3) := by decide +kernel
theorem pd_5 : parseMethodDescriptor "(II)I" = some ⟨[.int, .int], some .int⟩ := by decide +kernel
theorem d28_52 : decode jdk_38_method_6_code 52 = .ok (.anewarray 7, 3) := by decide +kernel
theorem d28_55 : decode jdk_38_method_6_code 55 = .ok (.dup_x1, 1) := by decide +kernel
theorem d28_56 : decode jdk_38_method_6_code 56 = .ok (.putfield 9, 3) := by decide +kernel
theorem d28_59 : decode jdk_38_method_6_code 59 = .ok (.areturn, 1) := by decide +kernel
def Q_rmgi (Z : State) (a dc : Addr) (kd : ClassId) (mc : Int32) (h0 : Heap) (n0 : Nat) (v : Option Value) (h : Heap) (L : List Loc) : Prop := ∃ (b : Addr) (kb : ClassId), v = some (.ref b) ∧ Fr n0 L ∧ Keep h0 h [a] ∧ Exa Z h a "java/util/ArrayList" ∧ Fld Z h a "java/util/AbstractList" "modCount" "I" (.int mc) ∧ Fld Z h a "java/util/ArrayList" "elementData" "[Ljava/lang/Object;" (.ref b) ∧ Fld Z h a "java/util/ArrayList" "size" "I" (.int 0) ∧ h0.size ≤ b ∧ Arv Z h b kb (.object "java/lang/Object") 10 [.null, .null, .null, .null, .null, .null, .null, .null, .null, .null] .null ∧ Ovr Z kb "java/lang/Object" ∧ Exa Z h b "[Ljava/lang/Object;"
set_option maxRecDepth 65536 in
set_option maxHeartbeats 40000000 in
theorem rmgi (l : Launch) (Z : State) (a0 : Array Value) (hw : ∀ d ∈ tables_1, d.before a0 Z = true) (ws : List Jvm.Cond) (a dc : Addr) (kd : ClassId) (mc : Int32) (h0 : Heap) (n0 : Nat) (Z0 : n0 ≤ h0.size) (E_a : Exa Z h0 a "java/util/ArrayList") (F1 : Fld Z h0 a "java/util/AbstractList" "modCount" "I" (.int mc)) (F2 : Fld Z h0 a "java/util/ArrayList" "elementData" "[Ljava/lang/Object;" (.ref dc)) (F3 : Fld Z h0 a "java/util/ArrayList" "size" "I" (.int (0 : Int32))) (g_a : n0 ≤ a) (OO : Old Z n0 h0) (SD : Sta Z Z.heap "java/util/ArrayList" "DEFAULTCAPACITY_EMPTY_ELEMENTDATA" "[Ljava/lang/Object;" (.ref dc)) (VD : Arv Z Z.heap dc kd (.object "java/lang/Object") 0 [] .null) :
    MetFree l (⟨"java/util/ArrayList", "grow", "(I)[Ljava/lang/Object;"⟩ : MethodName) (head1 (Jvm.Cond.code (⟨"java/util/ArrayList", "grow", "(I)[Ljava/lang/Object;"⟩ : MethodName) jdk_38_method_6_code 4 (some (.array (.object "java/lang/Object"))) :: ws) ({ frames := 1, cells := 1, slots := 10, locals := 14 } : Room)) (fun ag U => ag = #[(.ref a), (.int (1 : Int32))] ∧ Z.Warmed39 U.vm ∧ U.heap = h0) (fun _ _ _ _ _ => True) (fun _ U o U' => ∃ v L, o = .returned v ∧ Q_rmgi Z a dc kd mc h0 n0 v U'.heap L ∧ FrameEnd U o U' L ({ frames := 1, cells := 1, slots := 10, locals := 14 } : Room).cells ({ frames := 1, cells := 1, slots := 10, locals := 14 } : Room).slots) := by
  refine MetFree.of_bodySF (plainFor_of_name pn_8) hisR ?_
  intro p e s m args below meth c s₁ Bd hml0 hP hK
  obtain ⟨rfl, hZ, hh⟩ := hP
  have hx := Bd.exec
  have hby := Bd.bytes
  have hml : c.maxLocals = 4 := hml0
  have hown : s.vm.findClass "java/util/ArrayList" = some m.cls := findClass_of_methodNamed Bd.named
  have hnm := (name_of_methodNamed Bd.named Bd.method).1
  have X0 : Stand p l e ({ frames := 1, cells := 1, slots := 10, locals := 14 } : Room) s m #[(.ref a), (.int (1 : Int32))] below meth c s₁ [] 0 0 := Stand.of_body Bd
  have e0 : s₁.heap = h0 := by rw [← hh, Bd.state]; rfl
  have N0 := Fr.nil n0
  refine own_start (ef_rmgi m a (1 : Int32)) ?_
  intro F hF
  show own_Gl p.tables e below F (s₁.setTop (mkF m 0 #[.val (.ref a), .val (.int (1 : Int32)), .unset, .unset] []))
  have U0 := SD.ext OO.2
  have UV := VD.ext OO.2
  refine own_go (fun _ k => XS.aloadN X0.here hx rfl (hb hby d28_0) rfl rfl k) ?_
  show own_Gl p.tables e below F (s₁.setTop (mkF m 1 #[.val (.ref a), .val (.int (1 : Int32)), .unset, .unset] [(.ref a)]))
  obtain ⟨T1, X1, e1, st1⟩ := getF X0 hx hZ hown (host := "") (Or.inl (hw _ (List.mem_of_getElem? (i := 66) rfl))) Via.refl e0 F2 (g := (mkF m 1 #[.val (.ref a), .val (.int (1 : Int32)), .unset, .unset] [(.ref a)])) rfl rfl (hb hby d28_1)
  refine own_go st1 ?_
  show own_Gl p.tables e below F (T1.setTop (mkF m 4 #[.val (.ref a), .val (.int (1 : Int32)), .unset, .unset] [(.ref dc)]))
  obtain ⟨cl2, Ar2, ak2, aS2, aN2, aH2, aG2⟩ := id UV
  refine own_go (fun _ k => X1.arraylength hx (by rw [e1]; exact Ar2.1) (State.isArrayOf_alike hZ.alike Ar2.2.1) (g := (mkF m 4 #[.val (.ref a), .val (.int (1 : Int32)), .unset, .unset] [(.ref dc)])) rfl rfl (hb hby d28_4) _ k) ?_
  rw [len_of aS2 aN2]
  show own_Gl p.tables e below F (T1.setTop (mkF m 5 #[.val (.ref a), .val (.int (1 : Int32)), .unset, .unset] [(.int (0 : Int32))]))
  refine own_go (fun _ k => XS.istoreN X1.here hx rfl (hb hby d28_5) rfl (l' := #[.val (.ref a), .val (.int (1 : Int32)), .val (.int (0 : Int32)), .unset]) rfl k) ?_
  show own_Gl p.tables e below F (T1.setTop (mkF m 6 #[.val (.ref a), .val (.int (1 : Int32)), .val (.int (0 : Int32)), .unset] []))
  refine own_go (fun _ k => XS.iloadN X1.here hx rfl (hb hby d28_6) rfl k) ?_
  show own_Gl p.tables e below F (T1.setTop (mkF m 7 #[.val (.ref a), .val (.int (1 : Int32)), .val (.int (0 : Int32)), .unset] [(.int (0 : Int32))]))
  refine own_go (fun _ k => XS.ifNo X1.here hx rfl (hb hby d28_7) rfl (XT.i0_gt_f (by decide)) k) ?_
  show own_Gl p.tables e below F (T1.setTop (mkF m 10 #[.val (.ref a), .val (.int (1 : Int32)), .val (.int (0 : Int32)), .unset] []))
  refine own_go (fun _ k => XS.aloadN X1.here hx rfl (hb hby d28_10) rfl rfl k) ?_
  show own_Gl p.tables e below F (T1.setTop (mkF m 11 #[.val (.ref a), .val (.int (1 : Int32)), .val (.int (0 : Int32)), .unset] [(.ref a)]))
  obtain ⟨T3, X3, e3, st3⟩ := getF X1 hx hZ hown (host := "") (Or.inl (hw _ (List.mem_of_getElem? (i := 66) rfl))) Via.refl e1 F2 (g := (mkF m 11 #[.val (.ref a), .val (.int (1 : Int32)), .val (.int (0 : Int32)), .unset] [(.ref a)])) rfl rfl (hb hby d28_11)
  refine own_go st3 ?_
  show own_Gl p.tables e below F (T3.setTop (mkF m 14 #[.val (.ref a), .val (.int (1 : Int32)), .val (.int (0 : Int32)), .unset] [(.ref dc)]))
  obtain ⟨T4, X4, e4, st4⟩ := getS2 X3 hx hZ hown (host := "") (Or.inl (hw _ (List.mem_of_getElem? (i := 65) rfl))) Via.refl e3 U0 (g := (mkF m 14 #[.val (.ref a), .val (.int (1 : Int32)), .val (.int (0 : Int32)), .unset] [(.ref dc)])) rfl (hb hby d28_14)
  refine own_go st4 ?_
  show own_Gl p.tables e below F (T4.setTop (mkF m 17 #[.val (.ref a), .val (.int (1 : Int32)), .val (.int (0 : Int32)), .unset] [(.ref dc), (.ref dc)]))
  refine own_go (fun _ k => Jvm.RoadKit.acmp (g := (mkF m 17 #[.val (.ref a), .val (.int (1 : Int32)), .val (.int (0 : Int32)), .unset] [(.ref dc), (.ref dc)])) X4 hx rfl rfl rfl (pc0 := 17) (pc' := 45) (same := true) rfl (hb hby d28_17) rfl (decide_eq_true rfl) (by decide) (by decide) k) ?_
  show own_Gl p.tables e below F (T4.setTop (mkF m 45 #[.val (.ref a), .val (.int (1 : Int32)), .val (.int (0 : Int32)), .unset] []))
  refine own_go (fun _ k => XS.aloadN X4.here hx rfl (hb hby d28_45) rfl rfl k) ?_
  show own_Gl p.tables e below F (T4.setTop (mkF m 46 #[.val (.ref a), .val (.int (1 : Int32)), .val (.int (0 : Int32)), .unset] [(.ref a)]))
  refine own_go (fun _ k => XS.bipush X4.here hx rfl (hb hby d28_46) k) ?_
  show own_Gl p.tables e below F (T4.setTop (mkF m 48 #[.val (.ref a), .val (.int (1 : Int32)), .val (.int (0 : Int32)), .unset] [(.int (10 : Int32)), (.ref a)]))
  refine own_go (fun _ k => XS.iloadN X4.here hx rfl (hb hby d28_48) rfl k) ?_
  show own_Gl p.tables e below F (T4.setTop (mkF m 49 #[.val (.ref a), .val (.int (1 : Int32)), .val (.int (0 : Int32)), .unset] [(.int (1 : Int32)), (.int (10 : Int32)), (.ref a)]))
  obtain ⟨_, _, ⟨T5, L5, k5, n5⟩, -, X5, ⟨Lc5, hQ5, l5, y5, z5⟩, st5⟩ := Jvm.LawKit.callS X4 hx (y := (⟨"java/lang/Math", "max", "(II)I"⟩ : MethodName)) hown (mvT hZ (hw _ (List.mem_of_getElem? (i := 174) rfl))) (mvT hZ (hw _ (List.mem_of_getElem? (i := 175) rfl))) (mvT hZ (hw _ (List.mem_of_getElem? (i := 176) rfl))) (mvT hZ (hw _ (List.mem_of_getElem? (i := 177) rfl))) (by decide) (backOf (W := 1) (rm29 l Z a0 hw [] (10 : Int32) (1 : Int32)  h0 n0 Z0 ) hZ (hw _ (List.mem_of_getElem? (i := 177) rfl)) (hw _ (List.mem_of_getElem? (i := 176) rfl)) (by decide) (by decide)) (g := (mkF m 49 #[.val (.ref a), .val (.int (1 : Int32)), .val (.int (0 : Int32)), .unset] [(.int (1 : Int32)), (.int (10 : Int32)), (.ref a)])) rfl (by rw [hml]; rfl) (argsL := [(.int (10 : Int32)), (.int (1 : Int32))]) (rest := [(.ref a)]) (lenOf pd_5 rfl) rfl (by show 2 * 0 + _ ≤ _; exact Nat.le_of_eq rfl) (hb hby d28_49) (fun _ _ => ⟨rfl, e4, (by first | decide | exact Nat.le_of_ble_eq_true rfl), (by first | decide | exact Nat.le_of_ble_eq_true rfl)⟩)
  dsimp only [Pt.U, Pt.locs, Pt.cells, Pt.slots] at X5 l5 y5 z5 st5 hQ5
  have X5 := own_sn X5 (k' := 0) (n' := 0) y5 z5
  obtain ⟨rfl, N5, e5⟩ := hQ5
  have NF5 := own_fr l5 N0 N5
  refine own_go st5 ?_
  show own_Gl p.tables e below F (T5.setTop (mkF m 52 #[.val (.ref a), .val (.int (1 : Int32)), .val (.int (0 : Int32)), .unset] [(.int (own_maxI (10 : Int32) (1 : Int32))), (.ref a)]))
  rw [(by decide : own_maxI (10 : Int32) (1 : Int32) = (10 : Int32))]
  show own_Gl p.tables e below F (T5.setTop (mkF m 52 #[.val (.ref a), .val (.int (1 : Int32)), .val (.int (0 : Int32)), .unset] [(.int (10 : Int32)), (.ref a)]))
  obtain ⟨T6, h6, k6, X6, e6, E6, A6, O6, EA6, st6⟩ := own_newR X5 hx hZ hown (hw _ (List.mem_of_getElem? (i := 178) rfl)) (hw _ (List.mem_of_getElem? (i := 179) rfl)) e5 (g := (mkF m 52 #[.val (.ref a), .val (.int (1 : Int32)), .val (.int (0 : Int32)), .unset] [(.int (10 : Int32)), (.ref a)])) rfl (hb hby d28_52) rfl (by decide) (cap := 10) (by decide) (by decide) (by decide) (by decide)
  obtain ⟨b6, g6⟩ : ∃ z, z = h0.size := ⟨_, rfl⟩
  rw [← g6] at A6 st6 EA6
  have ne_a_b6 : a ≠ b6 := Nat.ne_of_lt (Nat.lt_of_lt_of_le E_a.lt (Nat.le_of_eq g6.symm))
  have ne_dc_b6 : dc ≠ b6 := Nat.ne_of_lt (Nat.lt_of_lt_of_le UV.lt (Nat.le_of_eq g6.symm))
  have ge_b6 : n0 ≤ b6 := Nat.le_trans Z0 (Nat.le_of_eq g6.symm)
  have sz_b6 : h0.size ≤ b6 := Nat.le_trans ((Keep.refl h0 [a])).1 (Nat.le_of_eq g6.symm)
  have f6_0 := E_a.ext E6
  have f6_1 := F1.ext E6
  have f6_2 := F2.ext E6
  have f6_3 := F3.ext E6
  have f6_4 := U0.ext E6
  have f6_5 := UV.ext E6
  have Z6 : n0 ≤ h6.size := Nat.le_trans Z0 E6.1
  have K6 := Keep.ext (Keep.refl h0 [a]) E6
  have V6 : Arv Z h6 b6 k6 (.object "java/lang/Object") (10 : Int32) [.null, .null, .null, .null, .null, .null, .null, .null, .null, .null] .null := (Arv.new A6 (by decide)).pad (pad_rep [] .null 10)
  have X6 : Stand _ _ _ _ _ _ _ _ _ _ _ _ 1 10 := X6
  refine own_go st6 ?_
  show own_Gl p.tables e below F (T6.setTop (mkF m 55 #[.val (.ref a), .val (.int (1 : Int32)), .val (.int (0 : Int32)), .unset] [(.ref b6), (.ref a)]))
  refine own_go (fun _ k => XS.dupX1 X6.here hx rfl (hb hby d28_55) rfl rfl rfl k) ?_
  show own_Gl p.tables e below F (T6.setTop (mkF m 56 #[.val (.ref a), .val (.int (1 : Int32)), .val (.int (0 : Int32)), .unset] [(.ref b6), (.ref a), (.ref b6)]))
  obtain ⟨T7, h7, X7, e7, W7, st7⟩ := putF X6 hx hZ hown (host := "") (Or.inl (hw _ (List.mem_of_getElem? (i := 66) rfl))) Via.refl e6 f6_2 f6_0 (Or.inl (hw _ (List.mem_of_getElem? (i := 67) rfl))) (hw _ (List.mem_of_getElem? (i := 45) rfl)) (ty := (.array (.object "java/lang/Object"))) (by decide) rfl rfl (g := (mkF m 56 #[.val (.ref a), .val (.int (1 : Int32)), .val (.int (0 : Int32)), .unset] [(.ref b6), (.ref a), (.ref b6)])) rfl rfl (hb hby d28_56)
  have Fw7 := f6_2.same W7
  have f7_1 := f6_0.wr W7
  have f7_2 := f6_1.other W7 (Or.inr (slot_ne (Or.inl (hw _ (List.mem_of_getElem? (i := 64) rfl))) (Or.inl (hw _ (List.mem_of_getElem? (i := 67) rfl))) (by decide) (t := .int) (t' := (.array (.object "java/lang/Object"))) (by decide) (by decide)))
  have f7_4 := f6_3.other W7 (Or.inr (slot_ne (Or.inl (hw _ (List.mem_of_getElem? (i := 121) rfl))) (Or.inl (hw _ (List.mem_of_getElem? (i := 67) rfl))) (by decide) (t := .int) (t' := (.array (.object "java/lang/Object"))) (by decide) (by decide)))
  have f7_5 := f6_4.wr W7
  have f7_6 := V6.other W7 (Ne.symm ne_a_b6)
  have f7_7 := EA6.wr W7
  have Z7 : n0 ≤ h7.size := by rw [W7.size]; exact Z6
  have K7 := Keep.wr K6 W7 (Or.inl (by simp))
  have N7 := Fr.snoc X7 NF5 g_a
  refine own_go st7 ?_
  show own_Gl p.tables e below F (T7.setTop (mkF m 59 #[.val (.ref a), .val (.int (1 : Int32)), .val (.int (0 : Int32)), .unset] [(.ref b6)]))
  obtain ⟨fs, hr, hrun, hended, hW, hsame⟩ := X7.leave (v := some (.ref b6)) (fun h => by rw [Bd.returns] at h; cases h)
  subst hF
  refine own_fin ?_ ⟨hrun, hended, _, _, rfl, ?_, ⟨_, rfl⟩, hW, hsame.mono (by first | decide | exact Nat.le_of_ble_eq_true rfl) (by first | decide | exact Nat.le_of_ble_eq_true rfl)⟩
  · exact own_retA X7 hx Bd.returns rfl rfl (hb hby d28_59) hr
  · show Q_rmgi Z _ _ _ _ h0 n0 _ T7.heap _
    rw [e7]
    exact ⟨b6, k6, rfl, N7, K7, f7_1, f7_2, Fw7, f7_4, sz_b6, f7_6, O6, f7_7⟩
theorem ef_rmg0 (m : MethodId) (x0 : Addr) : entryFrame m #[(.ref x0)] 1 = mkF m 0 #[.val (.ref x0)] [] := by first | (simp [entryFrame, mkF, argsToLocals, Value.category]; done) | rfl
theorem d27_0 : decode jdk_38_method_7_code 0 = .ok (.aload_n 0, 1) := by decide +kernel
theorem d27_1 : decode jdk_38_method_7_code 1 = .ok (.aload_n 0, 1) := by decide +kernel
theorem d27_2 : decode jdk_38_method_7_code 2 = .ok (.getfield 48, 3) := by decide +kernel
theorem d27_5 : decode jdk_38_method_7_code 5 = .ok (.iconst 1, 1) := by decide +kernel
theorem d27_6 : decode jdk_38_method_7_code 6 = .ok (.iadd, 1) := by decide +kernel
theorem d27_7 : decode jdk_38_method_7_code 7 = .ok (.invokevirtual 69, 3) := by decide +kernel
theorem pd_6 : parseMethodDescriptor "(I)[Ljava/lang/Object;" = some ⟨[.int], some (.array (.object "java/lang/Object"))⟩ := by decide +kernel
theorem d27_10 : decode jdk_38_method_7_code 10 = .ok (.areturn, 1) := by decide +kernel
def Q_rmg0 (Z : State) (a dc : Addr) (kd : ClassId) (mc : Int32) (h0 : Heap) (n0 : Nat) (v : Option Value) (h : Heap) (L : List Loc) : Prop := ∃ (b : Addr) (kb : ClassId), v = some (.ref b) ∧ Fr n0 L ∧ Keep h0 h [a] ∧ Exa Z h a "java/util/ArrayList" ∧ Fld Z h a "java/util/AbstractList" "modCount" "I" (.int mc) ∧ Fld Z h a "java/util/ArrayList" "elementData" "[Ljava/lang/Object;" (.ref b) ∧ Fld Z h a "java/util/ArrayList" "size" "I" (.int 0) ∧ h0.size ≤ b ∧ Arv Z h b kb (.object "java/lang/Object") 10 [.null, .null, .null, .null, .null, .null, .null, .null, .null, .null] .null ∧ Ovr Z kb "java/lang/Object" ∧ Exa Z h b "[Ljava/lang/Object;"
set_option maxRecDepth 65536 in
set_option maxHeartbeats 40000000 in
theorem rmg0 (l : Launch) (Z : State) (a0 : Array Value) (hw : ∀ d ∈ tables_1, d.before a0 Z = true) (ws : List Jvm.Cond) (a dc : Addr) (kd : ClassId) (mc : Int32) (h0 : Heap) (n0 : Nat) (Z0 : n0 ≤ h0.size) (E_a : Exa Z h0 a "java/util/ArrayList") (F1 : Fld Z h0 a "java/util/AbstractList" "modCount" "I" (.int mc)) (F2 : Fld Z h0 a "java/util/ArrayList" "elementData" "[Ljava/lang/Object;" (.ref dc)) (F3 : Fld Z h0 a "java/util/ArrayList" "size" "I" (.int (0 : Int32))) (g_a : n0 ≤ a) (OO : Old Z n0 h0) (SD : Sta Z Z.heap "java/util/ArrayList" "DEFAULTCAPACITY_EMPTY_ELEMENTDATA" "[Ljava/lang/Object;" (.ref dc)) (VD : Arv Z Z.heap dc kd (.object "java/lang/Object") 0 [] .null) :
    MetFree l (⟨"java/util/ArrayList", "grow", "()[Ljava/lang/Object;"⟩ : MethodName) (head1 (Jvm.Cond.code (⟨"java/util/ArrayList", "grow", "()[Ljava/lang/Object;"⟩ : MethodName) jdk_38_method_7_code 1 (some (.array (.object "java/lang/Object"))) :: ws) ({ frames := 2, cells := 1, slots := 10, locals := 29 } : Room)) (fun ag U => ag = #[(.ref a)] ∧ Z.Warmed39 U.vm ∧ U.heap = h0) (fun _ _ _ _ _ => True) (fun _ U o U' => ∃ v L, o = .returned v ∧ Q_rmg0 Z a dc kd mc h0 n0 v U'.heap L ∧ FrameEnd U o U' L ({ frames := 2, cells := 1, slots := 10, locals := 29 } : Room).cells ({ frames := 2, cells := 1, slots := 10, locals := 29 } : Room).slots) := by
  refine MetFree.of_bodySF (plainFor_of_name pn_8) hisR ?_
  intro p e s m args below meth c s₁ Bd hml0 hP hK
  obtain ⟨rfl, hZ, hh⟩ := hP
  have hx := Bd.exec
  have hby := Bd.bytes
  have hml : c.maxLocals = 1 := hml0
  have hown : s.vm.findClass "java/util/ArrayList" = some m.cls := findClass_of_methodNamed Bd.named
  have hnm := (name_of_methodNamed Bd.named Bd.method).1
  have X0 : Stand p l e ({ frames := 2, cells := 1, slots := 10, locals := 29 } : Room) s m #[(.ref a)] below meth c s₁ [] 0 0 := Stand.of_body Bd
  have e0 : s₁.heap = h0 := by rw [← hh, Bd.state]; rfl
  have N0 := Fr.nil n0
  refine own_start (ef_rmg0 m a) ?_
  intro F hF
  show own_Gl p.tables e below F (s₁.setTop (mkF m 0 #[.val (.ref a)] []))
  refine own_go (fun _ k => XS.aloadN X0.here hx rfl (hb hby d27_0) rfl rfl k) ?_
  show own_Gl p.tables e below F (s₁.setTop (mkF m 1 #[.val (.ref a)] [(.ref a)]))
  refine own_go (fun _ k => XS.aloadN X0.here hx rfl (hb hby d27_1) rfl rfl k) ?_
  show own_Gl p.tables e below F (s₁.setTop (mkF m 2 #[.val (.ref a)] [(.ref a), (.ref a)]))
  obtain ⟨T1, X1, e1, st1⟩ := getF X0 hx hZ hown (host := "") (Or.inl (hw _ (List.mem_of_getElem? (i := 120) rfl))) Via.refl e0 F3 (g := (mkF m 2 #[.val (.ref a)] [(.ref a), (.ref a)])) rfl rfl (hb hby d27_2)
  refine own_go st1 ?_
  show own_Gl p.tables e below F (T1.setTop (mkF m 5 #[.val (.ref a)] [(.int (0 : Int32)), (.ref a)]))
  refine own_go (fun _ k => XS.iconst X1.here hx rfl (hb hby d27_5) k) ?_
  show own_Gl p.tables e below F (T1.setTop (mkF m 6 #[.val (.ref a)] [(.int (1 : Int32)), (.int (0 : Int32)), (.ref a)]))
  refine own_go (fun _ k => XS.iadd X1.here hx rfl (hb hby d27_6) rfl k) ?_
  show own_Gl p.tables e below F (T1.setTop (mkF m 7 #[.val (.ref a)] [(.int ((0 : Int32) + (1 : Int32))), (.ref a)]))
  rw [(by decide : (0 : Int32) + (1 : Int32) = (1 : Int32))]
  show own_Gl p.tables e below F (T1.setTop (mkF m 7 #[.val (.ref a)] [(.int (1 : Int32)), (.ref a)]))
  obtain ⟨cq2, q2, q2'⟩ := E_a.cell
  obtain ⟨_, _, ⟨T2, L2, k2, n2⟩, -, X2, ⟨Lc2, hQ2, l2, y2, z2⟩, st2⟩ := X1.privateBack hx (y := (⟨"java/util/ArrayList", "grow", "(I)[Ljava/lang/Object;"⟩ : MethodName)) hown (mvT hZ (hw _ (List.mem_of_getElem? (i := 169) rfl))) (mvT hZ (hw _ (List.mem_of_getElem? (i := 170) rfl))) (mvT hZ (hw _ (List.mem_of_getElem? (i := 172) rfl))) (Cond.privateMethod_at (mvP hZ (hw _ (List.mem_of_getElem? (i := 171) rfl)) (args := #[]))) (mvT hZ (hw _ (List.mem_of_getElem? (i := 173) rfl))) (by decide) (backOf (W := 0) (rmgi l Z a0 hw [] a dc kd mc h0 n0 Z0 E_a F1 F2 F3 g_a OO SD VD) hZ (hw _ (List.mem_of_getElem? (i := 173) rfl)) (hw _ (List.mem_of_getElem? (i := 46) rfl)) (by decide) (by decide)) (g := (mkF m 7 #[.val (.ref a)] [(.int (1 : Int32)), (.ref a)])) rfl (by rw [hml]; rfl) (Steps.refl _) (a := a) (by rw [e1]; exact q2) q2' (argsL := [(.int (1 : Int32))]) (rest := []) (lenOf pd_6 rfl) rfl (by show 2 * 0 + _ ≤ _; exact Nat.le_of_eq rfl) (hb hby d27_7) (fun _ _ => ⟨rfl, e1, (by first | decide | exact Nat.le_of_ble_eq_true rfl), (by first | decide | exact Nat.le_of_ble_eq_true rfl)⟩)
  dsimp only [Pt.U, Pt.locs, Pt.cells, Pt.slots] at X2 l2 y2 z2 st2 hQ2
  have X2 := own_sn X2 (k' := 1) (n' := 10) y2 z2
  obtain ⟨b2, kb2, rfl, N2, K2, GE2, GM2, GD2, GS2, hb2, VB2, OB2, EB2⟩ := hQ2
  have NF2 := own_fr l2 N0 N2
  have f2_1 := E_a.keep K2
  have Z2 : n0 ≤ T2.heap.size := Nat.le_trans Z0 K2.1
  have KK2 := Keep.trans (Keep.refl h0 [a]) K2 (by intro z hz; simp at hz; rcases hz with rfl; all_goals first | (left; simp; done) | (right; assumption))
  refine own_go (fun _ k => st2.trans k) ?_
  show own_Gl p.tables e below F (T2.setTop (mkF m 10 #[.val (.ref a)] [(.ref b2)]))
  obtain ⟨fs, hr, hrun, hended, hW, hsame⟩ := X2.leave (v := some (.ref b2)) (fun h => by rw [Bd.returns] at h; cases h)
  subst hF
  refine own_fin ?_ ⟨hrun, hended, _, _, rfl, ?_, ⟨_, rfl⟩, hW, hsame.mono (by first | decide | exact Nat.le_of_ble_eq_true rfl) (by first | decide | exact Nat.le_of_ble_eq_true rfl)⟩
  · exact own_retA X2 hx Bd.returns rfl rfl (hb hby d27_10) hr
  · show Q_rmg0 Z _ _ _ _ h0 n0 _ T2.heap _
    exact ⟨b2, kb2, rfl, NF2, KK2, GE2, GM2, GD2, GS2, hb2, VB2, OB2, EB2⟩
theorem ef_rm3f (m : MethodId) (x0 : Addr) (x1 : Addr) (x2 : Addr) (x3 : Int32) : entryFrame m #[(.ref x0), (.ref x1), (.ref x2), (.int x3)] 4 = mkF m 0 #[.val (.ref x0), .val (.ref x1), .val (.ref x2), .val (.int x3)] [] := by first | (simp [entryFrame, mkF, argsToLocals, Value.category]; done) | rfl
theorem d26_0 : decode jdk_38_method_24_code 0 = .ok (.iload_n 3, 1) := by decide +kernel
theorem d26_1 : decode jdk_38_method_24_code 1 = .ok (.aload_n 2, 1) := by decide +kernel
theorem d26_2 : decode jdk_38_method_24_code 2 = .ok (.arraylength, 1) := by decide +kernel
theorem d26_3 : decode jdk_38_method_24_code 3 = .ok (.if_icmp .ne 8, 3) := by decide +kernel
theorem d26_6 : decode jdk_38_method_24_code 6 = .ok (.aload_n 0, 1) := by decide +kernel
theorem d26_7 : decode jdk_38_method_24_code 7 = .ok (.invokevirtual 129, 3) := by decide +kernel
theorem pd_7 : parseMethodDescriptor "()[Ljava/lang/Object;" = some ⟨[], some (.array (.object "java/lang/Object"))⟩ := by decide +kernel
theorem d26_10 : decode jdk_38_method_24_code 10 = .ok (.astore_n 2, 1) := by decide +kernel
theorem d26_11 : decode jdk_38_method_24_code 11 = .ok (.aload_n 2, 1) := by decide +kernel
theorem d26_12 : decode jdk_38_method_24_code 12 = .ok (.iload_n 3, 1) := by decide +kernel
theorem d26_13 : decode jdk_38_method_24_code 13 = .ok (.aload_n 1, 1) := by decide +kernel
theorem d26_14 : decode jdk_38_method_24_code 14 = .ok (.aastore, 1) := by decide +kernel
theorem d26_15 : decode jdk_38_method_24_code 15 = .ok (.aload_n 0, 1) := by decide +kernel
theorem d26_16 : decode jdk_38_method_24_code 16 = .ok (.iload_n 3, 1) := by decide +kernel
theorem d26_17 : decode jdk_38_method_24_code 17 = .ok (.iconst 1, 1) := by decide +kernel
theorem d26_18 : decode jdk_38_method_24_code 18 = .ok (.iadd, 1) := by decide +kernel
theorem d26_19 : decode jdk_38_method_24_code 19 = .ok (.putfield 48, 3) := by decide +kernel
theorem d26_22 : decode jdk_38_method_24_code 22 = .ok (.return_, 1) := by decide +kernel
def Q_rm3f (Z : State) (a x dc : Addr) (kd : ClassId) (mc : Int32) (h0 : Heap) (n0 : Nat) (v : Option Value) (h : Heap) (L : List Loc) : Prop := ∃ (b : Addr) (kb : ClassId), v = none ∧ Fr n0 L ∧ Keep h0 h [a] ∧ Exa Z h a "java/util/ArrayList" ∧ Fld Z h a "java/util/AbstractList" "modCount" "I" (.int mc) ∧ Fld Z h a "java/util/ArrayList" "elementData" "[Ljava/lang/Object;" (.ref b) ∧ Fld Z h a "java/util/ArrayList" "size" "I" (.int 1) ∧ h0.size ≤ b ∧ Arv Z h b kb (.object "java/lang/Object") 10 [(.ref x), .null, .null, .null, .null, .null, .null, .null, .null, .null] .null ∧ Ovr Z kb "java/lang/Object" ∧ Exa Z h b "[Ljava/lang/Object;"
set_option maxRecDepth 65536 in
set_option maxHeartbeats 40000000 in
theorem rm3f (l : Launch) (Z : State) (a0 : Array Value) (hw : ∀ d ∈ tables_1, d.before a0 Z = true) (ws : List Jvm.Cond) (a x dc : Addr) (kd : ClassId) (mc : Int32) (h0 : Heap) (n0 : Nat) (Z0 : n0 ≤ h0.size) (E_a : Exa Z h0 a "java/util/ArrayList") (F1 : Fld Z h0 a "java/util/AbstractList" "modCount" "I" (.int mc)) (F2 : Fld Z h0 a "java/util/ArrayList" "elementData" "[Ljava/lang/Object;" (.ref dc)) (F3 : Fld Z h0 a "java/util/ArrayList" "size" "I" (.int (0 : Int32))) (g_a : n0 ≤ a) (OO : Old Z n0 h0) (SD : Sta Z Z.heap "java/util/ArrayList" "DEFAULTCAPACITY_EMPTY_ELEMENTDATA" "[Ljava/lang/Object;" (.ref dc)) (VD : Arv Z Z.heap dc kd (.object "java/lang/Object") 0 [] .null) (EX : Exa Z h0 x "java/lang/String") :
    MetFree l (⟨"java/util/ArrayList", "add", "(Ljava/lang/Object;[Ljava/lang/Object;I)V"⟩ : MethodName) (head1 (Jvm.Cond.code (⟨"java/util/ArrayList", "add", "(Ljava/lang/Object;[Ljava/lang/Object;I)V"⟩ : MethodName) jdk_38_method_24_code 4 none :: ws) ({ frames := 3, cells := 1, slots := 10, locals := 41 } : Room)) (fun ag U => ag = #[(.ref a), (.ref x), (.ref dc), (.int (0 : Int32))] ∧ Z.Warmed39 U.vm ∧ U.heap = h0) (fun _ _ _ _ _ => True) (fun _ U o U' => ∃ v L, o = .returned v ∧ Q_rm3f Z a x dc kd mc h0 n0 v U'.heap L ∧ FrameEnd U o U' L ({ frames := 3, cells := 1, slots := 10, locals := 41 } : Room).cells ({ frames := 3, cells := 1, slots := 10, locals := 41 } : Room).slots) := by
  refine MetFree.of_bodySF (plainFor_of_name pn_8) hisR ?_
  intro p e s m args below meth c s₁ Bd hml0 hP hK
  obtain ⟨rfl, hZ, hh⟩ := hP
  have hx := Bd.exec
  have hby := Bd.bytes
  have hml : c.maxLocals = 4 := hml0
  have hown : s.vm.findClass "java/util/ArrayList" = some m.cls := findClass_of_methodNamed Bd.named
  have hnm := (name_of_methodNamed Bd.named Bd.method).1
  have X0 : Stand p l e ({ frames := 3, cells := 1, slots := 10, locals := 41 } : Room) s m #[(.ref a), (.ref x), (.ref dc), (.int (0 : Int32))] below meth c s₁ [] 0 0 := Stand.of_body Bd
  have e0 : s₁.heap = h0 := by rw [← hh, Bd.state]; rfl
  have N0 := Fr.nil n0
  refine own_start (ef_rm3f m a x dc (0 : Int32)) ?_
  intro F hF
  show own_Gl p.tables e below F (s₁.setTop (mkF m 0 #[.val (.ref a), .val (.ref x), .val (.ref dc), .val (.int (0 : Int32))] []))
  have U0 := SD.ext OO.2
  have UV := VD.ext OO.2
  refine own_go (fun _ k => XS.iloadN X0.here hx rfl (hb hby d26_0) rfl k) ?_
  show own_Gl p.tables e below F (s₁.setTop (mkF m 1 #[.val (.ref a), .val (.ref x), .val (.ref dc), .val (.int (0 : Int32))] [(.int (0 : Int32))]))
  refine own_go (fun _ k => XS.aloadN X0.here hx rfl (hb hby d26_1) rfl rfl k) ?_
  show own_Gl p.tables e below F (s₁.setTop (mkF m 2 #[.val (.ref a), .val (.ref x), .val (.ref dc), .val (.int (0 : Int32))] [(.ref dc), (.int (0 : Int32))]))
  obtain ⟨cl1, Ar1, ak1, aS1, aN1, aH1, aG1⟩ := id UV
  refine own_go (fun _ k => X0.arraylength hx (by rw [e0]; exact Ar1.1) (State.isArrayOf_alike hZ.alike Ar1.2.1) (g := (mkF m 2 #[.val (.ref a), .val (.ref x), .val (.ref dc), .val (.int (0 : Int32))] [(.ref dc), (.int (0 : Int32))])) rfl rfl (hb hby d26_2) _ k) ?_
  rw [len_of aS1 aN1]
  show own_Gl p.tables e below F (s₁.setTop (mkF m 3 #[.val (.ref a), .val (.ref x), .val (.ref dc), .val (.int (0 : Int32))] [(.int (0 : Int32)), (.int (0 : Int32))]))
  refine own_go (fun _ k => XS.icmpNo X0.here hx rfl (hb hby d26_3) rfl (XT.ii_ne_f rfl) k) ?_
  show own_Gl p.tables e below F (s₁.setTop (mkF m 6 #[.val (.ref a), .val (.ref x), .val (.ref dc), .val (.int (0 : Int32))] []))
  refine own_go (fun _ k => XS.aloadN X0.here hx rfl (hb hby d26_6) rfl rfl k) ?_
  show own_Gl p.tables e below F (s₁.setTop (mkF m 7 #[.val (.ref a), .val (.ref x), .val (.ref dc), .val (.int (0 : Int32))] [(.ref a)]))
  obtain ⟨cq2, q2, q2'⟩ := E_a.cell
  obtain ⟨_, _, ⟨T2, L2, k2, n2⟩, -, X2, ⟨Lc2, hQ2, l2, y2, z2⟩, st2⟩ := X0.privateBack hx (y := (⟨"java/util/ArrayList", "grow", "()[Ljava/lang/Object;"⟩ : MethodName)) hown (mvT hZ (hw _ (List.mem_of_getElem? (i := 164) rfl))) (mvT hZ (hw _ (List.mem_of_getElem? (i := 165) rfl))) (mvT hZ (hw _ (List.mem_of_getElem? (i := 167) rfl))) (Cond.privateMethod_at (mvP hZ (hw _ (List.mem_of_getElem? (i := 166) rfl)) (args := #[]))) (mvT hZ (hw _ (List.mem_of_getElem? (i := 168) rfl))) (by decide) (backOf (W := 0) (rmg0 l Z a0 hw [] a dc kd mc h0 n0 Z0 E_a F1 F2 F3 g_a OO SD VD) hZ (hw _ (List.mem_of_getElem? (i := 168) rfl)) (hw _ (List.mem_of_getElem? (i := 46) rfl)) (by decide) (by decide)) (g := (mkF m 7 #[.val (.ref a), .val (.ref x), .val (.ref dc), .val (.int (0 : Int32))] [(.ref a)])) rfl (by rw [hml]; rfl) (Steps.refl _) (a := a) (by rw [e0]; exact q2) q2' (argsL := []) (rest := []) (lenOf pd_7 rfl) rfl (by show 2 * 0 + _ ≤ _; exact Nat.le_of_eq rfl) (hb hby d26_7) (fun _ _ => ⟨rfl, e0, (by first | decide | exact Nat.le_of_ble_eq_true rfl), (by first | decide | exact Nat.le_of_ble_eq_true rfl)⟩)
  dsimp only [Pt.U, Pt.locs, Pt.cells, Pt.slots] at X2 l2 y2 z2 st2 hQ2
  have X2 := own_sn X2 (k' := 1) (n' := 10) y2 z2
  obtain ⟨b2, kb2, rfl, N2, K2, GE2, GM2, GD2, GS2, hb2, VB2, OB2, EB2⟩ := hQ2
  have NF2 := own_fr l2 N0 N2
  have f2_1 := E_a.keep K2
  have f2_5 := EX.keep K2
  have Z2 : n0 ≤ T2.heap.size := Nat.le_trans Z0 K2.1
  have KK2 := Keep.trans (Keep.refl h0 [a]) K2 (by intro z hz; simp at hz; rcases hz with rfl; all_goals first | (left; simp; done) | (right; assumption))
  refine own_go (fun _ k => st2.trans k) ?_
  show own_Gl p.tables e below F (T2.setTop (mkF m 10 #[.val (.ref a), .val (.ref x), .val (.ref dc), .val (.int (0 : Int32))] [(.ref b2)]))
  have sz_b2 : h0.size ≤ b2 := hb2
  have ge_b2 : n0 ≤ b2 := Nat.le_trans Z0 hb2
  have ne_a_b2 : a ≠ b2 := ne_exa GE2 EB2 (by decide)
  have ne_x_b2 : x ≠ b2 := ne_exa f2_5 EB2 (by decide)
  refine own_go (fun _ k => XS.astoreN X2.here hx rfl (hb hby d26_10) rfl rfl (l' := #[.val (.ref a), .val (.ref x), .val (.ref b2), .val (.int (0 : Int32))]) rfl k) ?_
  show own_Gl p.tables e below F (T2.setTop (mkF m 11 #[.val (.ref a), .val (.ref x), .val (.ref b2), .val (.int (0 : Int32))] []))
  refine own_go (fun _ k => XS.aloadN X2.here hx rfl (hb hby d26_11) rfl rfl k) ?_
  show own_Gl p.tables e below F (T2.setTop (mkF m 12 #[.val (.ref a), .val (.ref x), .val (.ref b2), .val (.int (0 : Int32))] [(.ref b2)]))
  refine own_go (fun _ k => XS.iloadN X2.here hx rfl (hb hby d26_12) rfl k) ?_
  show own_Gl p.tables e below F (T2.setTop (mkF m 13 #[.val (.ref a), .val (.ref x), .val (.ref b2), .val (.int (0 : Int32))] [(.int (0 : Int32)), (.ref b2)]))
  refine own_go (fun _ k => XS.aloadN X2.here hx rfl (hb hby d26_13) rfl rfl k) ?_
  show own_Gl p.tables e below F (T2.setTop (mkF m 14 #[.val (.ref a), .val (.ref x), .val (.ref b2), .val (.int (0 : Int32))] [(.ref x), (.int (0 : Int32)), (.ref b2)]))
  obtain ⟨cl3, Ar3, ak3, aS3, aN3, aH3, aG3⟩ := id VB2
  have hin3 : ¬ ((0 : Int32) < 0 ∨ cl3.slots.size ≤ ((0 : Int32)).toNatClampNeg) := inb_of aS3 ⟨by decide, by decide⟩
  obtain ⟨T3, h3, X3, e3, W3, st3⟩ := stR X2 hx hZ rfl Ar3 (j := (0 : Int32)) hin3 rfl (Sto.ofV Ar3 ak3 OB2 (Ins.of_exa f2_5 (hw _ (List.mem_of_getElem? (i := 180) rfl)))) (g := (mkF m 14 #[.val (.ref a), .val (.ref x), .val (.ref b2), .val (.int (0 : Int32))] [(.ref x), (.int (0 : Int32)), (.ref b2)])) rfl rfl (hb hby d26_14)
  have V3 : Arv Z h3 b2 kb2 (.object "java/lang/Object") (10 : Int32) [(.ref x), .null, .null, .null, .null, .null, .null, .null, .null, .null] .null := Arv.set Ar3 ak3 aS3 aN3 aH3 aG3 rfl W3 0 rfl (by first | decide | exact Nat.le_of_ble_eq_true rfl | simp)
  have f3_1 := GE2.wr W3
  have f3_2 := f2_5.wr W3
  have f3_3 := GM2.other W3 (Or.inl ne_a_b2)
  have f3_4 := GD2.other W3 (Or.inl ne_a_b2)
  have f3_5 := GS2.other W3 (Or.inl ne_a_b2)
  have f3_7 := EB2.wr W3
  have Z3 : n0 ≤ h3.size := by rw [W3.size]; exact Z2
  have K3 := Keep.wr KK2 W3 (Or.inr sz_b2)
  have N3 := Fr.snoc X3 NF2 ge_b2
  refine own_go st3 ?_
  show own_Gl p.tables e below F (T3.setTop (mkF m 15 #[.val (.ref a), .val (.ref x), .val (.ref b2), .val (.int (0 : Int32))] []))
  refine own_go (fun _ k => XS.aloadN X3.here hx rfl (hb hby d26_15) rfl rfl k) ?_
  show own_Gl p.tables e below F (T3.setTop (mkF m 16 #[.val (.ref a), .val (.ref x), .val (.ref b2), .val (.int (0 : Int32))] [(.ref a)]))
  refine own_go (fun _ k => XS.iloadN X3.here hx rfl (hb hby d26_16) rfl k) ?_
  show own_Gl p.tables e below F (T3.setTop (mkF m 17 #[.val (.ref a), .val (.ref x), .val (.ref b2), .val (.int (0 : Int32))] [(.int (0 : Int32)), (.ref a)]))
  refine own_go (fun _ k => XS.iconst X3.here hx rfl (hb hby d26_17) k) ?_
  show own_Gl p.tables e below F (T3.setTop (mkF m 18 #[.val (.ref a), .val (.ref x), .val (.ref b2), .val (.int (0 : Int32))] [(.int (1 : Int32)), (.int (0 : Int32)), (.ref a)]))
  refine own_go (fun _ k => XS.iadd X3.here hx rfl (hb hby d26_18) rfl k) ?_
  show own_Gl p.tables e below F (T3.setTop (mkF m 19 #[.val (.ref a), .val (.ref x), .val (.ref b2), .val (.int (0 : Int32))] [(.int ((0 : Int32) + (1 : Int32))), (.ref a)]))
  rw [(by decide : (0 : Int32) + (1 : Int32) = (1 : Int32))]
  show own_Gl p.tables e below F (T3.setTop (mkF m 19 #[.val (.ref a), .val (.ref x), .val (.ref b2), .val (.int (0 : Int32))] [(.int (1 : Int32)), (.ref a)]))
  obtain ⟨T4, h4, X4, e4, W4, st4⟩ := putF X3 hx hZ hown (host := "") (Or.inl (hw _ (List.mem_of_getElem? (i := 120) rfl))) Via.refl e3 f3_5 f3_1 (Or.inl (hw _ (List.mem_of_getElem? (i := 121) rfl))) (hw _ (List.mem_of_getElem? (i := 45) rfl)) (ty := .int) (by decide) rfl rfl (g := (mkF m 19 #[.val (.ref a), .val (.ref x), .val (.ref b2), .val (.int (0 : Int32))] [(.int (1 : Int32)), (.ref a)])) rfl rfl (hb hby d26_19)
  have Fw4 := f3_5.same W4
  have f4_1 := f3_1.wr W4
  have f4_2 := f3_2.wr W4
  have f4_3 := f3_3.other W4 (Or.inr (slot_ne (Or.inl (hw _ (List.mem_of_getElem? (i := 64) rfl))) (Or.inl (hw _ (List.mem_of_getElem? (i := 121) rfl))) (by decide) (t := .int) (t' := .int) (by decide) (by decide)))
  have f4_4 := f3_4.other W4 (Or.inr (slot_ne (Or.inl (hw _ (List.mem_of_getElem? (i := 67) rfl))) (Or.inl (hw _ (List.mem_of_getElem? (i := 121) rfl))) (by decide) (t := (.array (.object "java/lang/Object"))) (t' := .int) (by decide) (by decide)))
  have f4_6 := V3.other W4 (Ne.symm ne_a_b2)
  have f4_7 := f3_7.wr W4
  have Z4 : n0 ≤ h4.size := by rw [W4.size]; exact Z3
  have K4 := Keep.wr K3 W4 (Or.inl (by simp))
  have N4 := Fr.snoc X4 N3 g_a
  refine own_go st4 ?_
  show own_Gl p.tables e below F (T4.setTop (mkF m 22 #[.val (.ref a), .val (.ref x), .val (.ref b2), .val (.int (0 : Int32))] []))
  obtain ⟨fs, hr, hrun, hended, hW, hsame⟩ := X4.leave (v := none) (fun _ => rfl)
  subst hF
  refine own_fin ?_ ⟨hrun, hended, _, _, rfl, ?_, ⟨_, rfl⟩, hW, hsame.mono (by first | decide | exact Nat.le_of_ble_eq_true rfl) (by first | decide | exact Nat.le_of_ble_eq_true rfl)⟩
  · exact X4.returnOut hx Bd.returns (hb hby d26_22) hr
  · show Q_rm3f Z _ _ _ _ _ h0 n0 _ T4.heap _
    rw [e4]
    exact ⟨b2, kb2, rfl, N4, K4, f4_1, f4_3, f4_4, Fw4, sz_b2, f4_6, OB2, f4_7⟩
theorem ef_rm1f (m : MethodId) (x0 : Addr) (x1 : Addr) : entryFrame m #[(.ref x0), (.ref x1)] 2 = mkF m 0 #[.val (.ref x0), .val (.ref x1)] [] := by first | (simp [entryFrame, mkF, argsToLocals, Value.category]; done) | rfl
theorem d25_0 : decode jdk_38_method_25_code 0 = .ok (.aload_n 0, 1) := by decide +kernel
theorem d25_1 : decode jdk_38_method_25_code 1 = .ok (.dup, 1) := by decide +kernel
theorem d25_2 : decode jdk_38_method_25_code 2 = .ok (.getfield 63, 3) := by decide +kernel
theorem d25_5 : decode jdk_38_method_25_code 5 = .ok (.iconst 1, 1) := by decide +kernel
theorem d25_6 : decode jdk_38_method_25_code 6 = .ok (.iadd, 1) := by decide +kernel
theorem d25_7 : decode jdk_38_method_25_code 7 = .ok (.putfield 63, 3) := by decide +kernel
theorem d25_10 : decode jdk_38_method_25_code 10 = .ok (.aload_n 0, 1) := by decide +kernel
theorem d25_11 : decode jdk_38_method_25_code 11 = .ok (.aload_n 1, 1) := by decide +kernel
theorem d25_12 : decode jdk_38_method_25_code 12 = .ok (.aload_n 0, 1) := by decide +kernel
theorem d25_13 : decode jdk_38_method_25_code 13 = .ok (.getfield 9, 3) := by decide +kernel
theorem d25_16 : decode jdk_38_method_25_code 16 = .ok (.aload_n 0, 1) := by decide +kernel
theorem d25_17 : decode jdk_38_method_25_code 17 = .ok (.getfield 48, 3) := by decide +kernel
theorem d25_20 : decode jdk_38_method_25_code 20 = .ok (.invokevirtual 131, 3) := by decide +kernel
theorem pd_8 : parseMethodDescriptor "(Ljava/lang/Object;[Ljava/lang/Object;I)V" = some ⟨[(.object "java/lang/Object"), (.array (.object "java/lang/Object")), .int], none⟩ := by decide +kernel
theorem d25_23 : decode jdk_38_method_25_code 23 = .ok (.iconst 1, 1) := by decide +kernel
theorem d25_24 : decode jdk_38_method_25_code 24 = .ok (.ireturn, 1) := by decide +kernel
def Q_rm1f (Z : State) (a x dc : Addr) (kd : ClassId) (h0 : Heap) (n0 : Nat) (v : Option Value) (h : Heap) (L : List Loc) : Prop := ∃ (b : Addr) (kb : ClassId), v = some (.int 1) ∧ Fr n0 L ∧ Keep h0 h [a] ∧ Exa Z h a "java/util/ArrayList" ∧ Fld Z h a "java/util/AbstractList" "modCount" "I" (.int 1) ∧ Fld Z h a "java/util/ArrayList" "elementData" "[Ljava/lang/Object;" (.ref b) ∧ Fld Z h a "java/util/ArrayList" "size" "I" (.int 1) ∧ h0.size ≤ b ∧ Arv Z h b kb (.object "java/lang/Object") 10 [(.ref x), .null, .null, .null, .null, .null, .null, .null, .null, .null] .null ∧ Ovr Z kb "java/lang/Object" ∧ Exa Z h b "[Ljava/lang/Object;"
set_option maxRecDepth 65536 in
set_option maxHeartbeats 40000000 in
theorem rm1f (l : Launch) (Z : State) (a0 : Array Value) (hw : ∀ d ∈ tables_1, d.before a0 Z = true) (ws : List Jvm.Cond) (a x dc : Addr) (kd : ClassId) (h0 : Heap) (n0 : Nat) (Z0 : n0 ≤ h0.size) (E_a : Exa Z h0 a "java/util/ArrayList") (F1 : Fld Z h0 a "java/util/AbstractList" "modCount" "I" (.int (0 : Int32))) (F2 : Fld Z h0 a "java/util/ArrayList" "elementData" "[Ljava/lang/Object;" (.ref dc)) (F3 : Fld Z h0 a "java/util/ArrayList" "size" "I" (.int (0 : Int32))) (g_a : n0 ≤ a) (OO : Old Z n0 h0) (SD : Sta Z Z.heap "java/util/ArrayList" "DEFAULTCAPACITY_EMPTY_ELEMENTDATA" "[Ljava/lang/Object;" (.ref dc)) (VD : Arv Z Z.heap dc kd (.object "java/lang/Object") 0 [] .null) (EX : Exa Z h0 x "java/lang/String") :
    MetFree l (⟨"java/util/ArrayList", "add", "(Ljava/lang/Object;)Z"⟩ : MethodName) (head1 (Jvm.Cond.code (⟨"java/util/ArrayList", "add", "(Ljava/lang/Object;)Z"⟩ : MethodName) jdk_38_method_25_code 2 (some .boolean) :: ws) ({ frames := 4, cells := 1, slots := 10, locals := 56 } : Room)) (fun ag U => ag = #[(.ref a), (.ref x)] ∧ Z.Warmed39 U.vm ∧ U.heap = h0) (fun _ _ _ _ _ => True) (fun _ U o U' => ∃ v L, o = .returned v ∧ Q_rm1f Z a x dc kd h0 n0 v U'.heap L ∧ FrameEnd U o U' L ({ frames := 4, cells := 1, slots := 10, locals := 56 } : Room).cells ({ frames := 4, cells := 1, slots := 10, locals := 56 } : Room).slots) := by
  refine MetFree.of_bodySF (plainFor_of_name pn_8) hisR ?_
  intro p e s m args below meth c s₁ Bd hml0 hP hK
  obtain ⟨rfl, hZ, hh⟩ := hP
  have hx := Bd.exec
  have hby := Bd.bytes
  have hml : c.maxLocals = 2 := hml0
  have hown : s.vm.findClass "java/util/ArrayList" = some m.cls := findClass_of_methodNamed Bd.named
  have hnm := (name_of_methodNamed Bd.named Bd.method).1
  have X0 : Stand p l e ({ frames := 4, cells := 1, slots := 10, locals := 56 } : Room) s m #[(.ref a), (.ref x)] below meth c s₁ [] 0 0 := Stand.of_body Bd
  have e0 : s₁.heap = h0 := by rw [← hh, Bd.state]; rfl
  have N0 := Fr.nil n0
  refine own_start (ef_rm1f m a x) ?_
  intro F hF
  show own_Gl p.tables e below F (s₁.setTop (mkF m 0 #[.val (.ref a), .val (.ref x)] []))
  refine own_go (fun _ k => XS.aloadN X0.here hx rfl (hb hby d25_0) rfl rfl k) ?_
  show own_Gl p.tables e below F (s₁.setTop (mkF m 1 #[.val (.ref a), .val (.ref x)] [(.ref a)]))
  refine own_go (fun _ k => XS.dup X0.here hx rfl (hb hby d25_1) rfl rfl k) ?_
  show own_Gl p.tables e below F (s₁.setTop (mkF m 2 #[.val (.ref a), .val (.ref x)] [(.ref a), (.ref a)]))
  obtain ⟨T1, X1, e1, st1⟩ := getF X0 hx hZ hown (host := "") (Or.inl (hw _ (List.mem_of_getElem? (i := 157) rfl))) (Via.of (hw _ (List.mem_of_getElem? (i := 158) rfl))) e0 F1 (g := (mkF m 2 #[.val (.ref a), .val (.ref x)] [(.ref a), (.ref a)])) rfl rfl (hb hby d25_2)
  refine own_go st1 ?_
  show own_Gl p.tables e below F (T1.setTop (mkF m 5 #[.val (.ref a), .val (.ref x)] [(.int (0 : Int32)), (.ref a)]))
  refine own_go (fun _ k => XS.iconst X1.here hx rfl (hb hby d25_5) k) ?_
  show own_Gl p.tables e below F (T1.setTop (mkF m 6 #[.val (.ref a), .val (.ref x)] [(.int (1 : Int32)), (.int (0 : Int32)), (.ref a)]))
  refine own_go (fun _ k => XS.iadd X1.here hx rfl (hb hby d25_6) rfl k) ?_
  show own_Gl p.tables e below F (T1.setTop (mkF m 7 #[.val (.ref a), .val (.ref x)] [(.int ((0 : Int32) + (1 : Int32))), (.ref a)]))
  rw [(by decide : (0 : Int32) + (1 : Int32) = (1 : Int32))]
  show own_Gl p.tables e below F (T1.setTop (mkF m 7 #[.val (.ref a), .val (.ref x)] [(.int (1 : Int32)), (.ref a)]))
  obtain ⟨T2, h2, X2, e2, W2, st2⟩ := putF X1 hx hZ hown (host := "") (Or.inl (hw _ (List.mem_of_getElem? (i := 157) rfl))) (Via.of (hw _ (List.mem_of_getElem? (i := 158) rfl))) e1 F1 E_a (Or.inl (hw _ (List.mem_of_getElem? (i := 64) rfl))) (hw _ (List.mem_of_getElem? (i := 45) rfl)) (ty := .int) (by decide) rfl rfl (g := (mkF m 7 #[.val (.ref a), .val (.ref x)] [(.int (1 : Int32)), (.ref a)])) rfl rfl (hb hby d25_7)
  have Fw2 := F1.same W2
  have f2_1 := E_a.wr W2
  have f2_3 := F2.other W2 (Or.inr (slot_ne (Or.inl (hw _ (List.mem_of_getElem? (i := 67) rfl))) (Or.inl (hw _ (List.mem_of_getElem? (i := 64) rfl))) (by decide) (t := (.array (.object "java/lang/Object"))) (t' := .int) (by decide) (by decide)))
  have f2_4 := F3.other W2 (Or.inr (slot_ne (Or.inl (hw _ (List.mem_of_getElem? (i := 121) rfl))) (Or.inl (hw _ (List.mem_of_getElem? (i := 64) rfl))) (by decide) (t := .int) (t' := .int) (by decide) (by decide)))
  have f2_5 := EX.wr W2
  have f2_6 := OO.wr W2 g_a
  have Z2 : n0 ≤ h2.size := by rw [W2.size]; exact Z0
  have K2 := Keep.wr (Keep.refl h0 [a]) W2 (Or.inl (by simp))
  have N2 := Fr.snoc X2 N0 g_a
  refine own_go st2 ?_
  show own_Gl p.tables e below F (T2.setTop (mkF m 10 #[.val (.ref a), .val (.ref x)] []))
  refine own_go (fun _ k => XS.aloadN X2.here hx rfl (hb hby d25_10) rfl rfl k) ?_
  show own_Gl p.tables e below F (T2.setTop (mkF m 11 #[.val (.ref a), .val (.ref x)] [(.ref a)]))
  refine own_go (fun _ k => XS.aloadN X2.here hx rfl (hb hby d25_11) rfl rfl k) ?_
  show own_Gl p.tables e below F (T2.setTop (mkF m 12 #[.val (.ref a), .val (.ref x)] [(.ref x), (.ref a)]))
  refine own_go (fun _ k => XS.aloadN X2.here hx rfl (hb hby d25_12) rfl rfl k) ?_
  show own_Gl p.tables e below F (T2.setTop (mkF m 13 #[.val (.ref a), .val (.ref x)] [(.ref a), (.ref x), (.ref a)]))
  obtain ⟨T3, X3, e3, st3⟩ := getF X2 hx hZ hown (host := "") (Or.inl (hw _ (List.mem_of_getElem? (i := 66) rfl))) Via.refl e2 f2_3 (g := (mkF m 13 #[.val (.ref a), .val (.ref x)] [(.ref a), (.ref x), (.ref a)])) rfl rfl (hb hby d25_13)
  refine own_go st3 ?_
  show own_Gl p.tables e below F (T3.setTop (mkF m 16 #[.val (.ref a), .val (.ref x)] [(.ref dc), (.ref x), (.ref a)]))
  refine own_go (fun _ k => XS.aloadN X3.here hx rfl (hb hby d25_16) rfl rfl k) ?_
  show own_Gl p.tables e below F (T3.setTop (mkF m 17 #[.val (.ref a), .val (.ref x)] [(.ref a), (.ref dc), (.ref x), (.ref a)]))
  obtain ⟨T4, X4, e4, st4⟩ := getF X3 hx hZ hown (host := "") (Or.inl (hw _ (List.mem_of_getElem? (i := 120) rfl))) Via.refl e3 f2_4 (g := (mkF m 17 #[.val (.ref a), .val (.ref x)] [(.ref a), (.ref dc), (.ref x), (.ref a)])) rfl rfl (hb hby d25_17)
  refine own_go st4 ?_
  show own_Gl p.tables e below F (T4.setTop (mkF m 20 #[.val (.ref a), .val (.ref x)] [(.int (0 : Int32)), (.ref dc), (.ref x), (.ref a)]))
  obtain ⟨cq5, q5, q5'⟩ := f2_1.cell
  obtain ⟨_, _, ⟨T5, L5, k5, n5⟩, -, X5, ⟨Lc5, hQ5, l5, y5, z5⟩, st5⟩ := X4.privateBack hx (y := (⟨"java/util/ArrayList", "add", "(Ljava/lang/Object;[Ljava/lang/Object;I)V"⟩ : MethodName)) hown (mvT hZ (hw _ (List.mem_of_getElem? (i := 159) rfl))) (mvT hZ (hw _ (List.mem_of_getElem? (i := 160) rfl))) (mvT hZ (hw _ (List.mem_of_getElem? (i := 162) rfl))) (Cond.privateMethod_at (mvP hZ (hw _ (List.mem_of_getElem? (i := 161) rfl)) (args := #[]))) (mvT hZ (hw _ (List.mem_of_getElem? (i := 163) rfl))) (by decide) (backOf (W := 0) (rm3f l Z a0 hw [] a x dc kd (1 : Int32) h2 n0 Z2 f2_1 Fw2 f2_3 f2_4 g_a f2_6 SD VD f2_5) hZ (hw _ (List.mem_of_getElem? (i := 163) rfl)) (hw _ (List.mem_of_getElem? (i := 46) rfl)) (by decide) (by decide)) (g := (mkF m 20 #[.val (.ref a), .val (.ref x)] [(.int (0 : Int32)), (.ref dc), (.ref x), (.ref a)])) rfl (by rw [hml]; rfl) (Steps.refl _) (a := a) (by rw [e4]; exact q5) q5' (argsL := [(.ref x), (.ref dc), (.int (0 : Int32))]) (rest := []) (lenOf pd_8 rfl) rfl (by show 2 * 0 + _ ≤ _; exact Nat.le_of_eq rfl) (hb hby d25_20) (fun _ _ => ⟨rfl, e4, (by first | decide | exact Nat.le_of_ble_eq_true rfl), (by first | decide | exact Nat.le_of_ble_eq_true rfl)⟩)
  dsimp only [Pt.U, Pt.locs, Pt.cells, Pt.slots] at X5 l5 y5 z5 st5 hQ5
  have X5 := own_sn X5 (k' := 1) (n' := 10) y5 z5
  obtain ⟨b5, kb5, rfl, N5, K5, GE5, GM5, GD5, GS5, hb5, VB5, OB5, EB5⟩ := hQ5
  have NF5 := own_fr l5 N2 N5
  have f5_1 := f2_1.keep K5
  have f5_5 := f2_5.keep K5
  have f5_6 := f2_6.keep K5 (allS g_a (all0))
  have Z5 : n0 ≤ T5.heap.size := Nat.le_trans Z2 K5.1
  have KK5 := Keep.trans K2 K5 (by intro z hz; simp at hz; rcases hz with rfl; all_goals first | (left; simp; done) | (right; assumption))
  refine own_go (fun _ k => st5.trans k) ?_
  show own_Gl p.tables e below F (T5.setTop (mkF m 23 #[.val (.ref a), .val (.ref x)] []))
  refine own_go (fun _ k => XS.iconst X5.here hx rfl (hb hby d25_23) k) ?_
  show own_Gl p.tables e below F (T5.setTop (mkF m 24 #[.val (.ref a), .val (.ref x)] [(.int (1 : Int32))]))
  have hbb : h0.size ≤ b5 := Nat.le_trans (K2).1 hb5
  obtain ⟨fs, hr, hrun, hended, hW, hsame⟩ := X5.leave (v := some (.int (1 : Int32))) (fun h => by rw [Bd.returns] at h; cases h)
  subst hF
  refine own_fin ?_ ⟨hrun, hended, _, _, rfl, ?_, ⟨_, rfl⟩, hW, hsame.mono (by first | decide | exact Nat.le_of_ble_eq_true rfl) (by first | decide | exact Nat.le_of_ble_eq_true rfl)⟩
  · exact own_retN X5 hx (t := .boolean) Bd.returns (by simp) rfl (hb hby d25_24) hr
  · show Q_rm1f Z _ _ _ _ h0 n0 _ T5.heap _
    exact ⟨b5, kb5, rfl, NF5, KK5, GE5, GM5, GD5, GS5, hbb, VB5, OB5, EB5⟩
theorem ef_rm3_1 (m : MethodId) (x0 : Addr) (x1 : Addr) (x2 : Addr) (x3 : Int32) : entryFrame m #[(.ref x0), (.ref x1), (.ref x2), (.int x3)] 4 = mkF m 0 #[.val (.ref x0), .val (.ref x1), .val (.ref x2), .val (.int x3)] [] := by first | (simp [entryFrame, mkF, argsToLocals, Value.category]; done) | rfl
def Q_rm3_1 (Z : State) (a x b : Addr) (kb : ClassId) (x0 : Addr) (h0 : Heap) (n0 : Nat) (v : Option Value) (h : Heap) (L : List Loc) : Prop := v = none ∧ Fr n0 L ∧ Keep h0 h [a, b] ∧ Exa Z h a "java/util/ArrayList" ∧ Fld Z h a "java/util/AbstractList" "modCount" "I" (.int 2) ∧ Fld Z h a "java/util/ArrayList" "elementData" "[Ljava/lang/Object;" (.ref b) ∧ Fld Z h a "java/util/ArrayList" "size" "I" (.int 2) ∧ Arv Z h b kb (.object "java/lang/Object") 10 [(.ref x0), (.ref x), .null, .null, .null, .null, .null, .null, .null, .null] .null ∧ Exa Z h b "[Ljava/lang/Object;"
set_option maxRecDepth 65536 in
set_option maxHeartbeats 40000000 in
theorem rm3_1 (l : Launch) (Z : State) (a0 : Array Value) (hw : ∀ d ∈ tables_1, d.before a0 Z = true) (ws : List Jvm.Cond) (a x b : Addr) (kb : ClassId) (x0 : Addr) (h0 : Heap) (n0 : Nat) (Z0 : n0 ≤ h0.size) (E_a : Exa Z h0 a "java/util/ArrayList") (F1 : Fld Z h0 a "java/util/AbstractList" "modCount" "I" (.int (2 : Int32))) (F2 : Fld Z h0 a "java/util/ArrayList" "elementData" "[Ljava/lang/Object;" (.ref b)) (F3 : Fld Z h0 a "java/util/ArrayList" "size" "I" (.int (1 : Int32))) (g_a : n0 ≤ a) (VB : Arv Z h0 b kb (.object "java/lang/Object") 10 [(.ref x0), .null, .null, .null, .null, .null, .null, .null, .null, .null] .null) (OB : Ovr Z kb "java/lang/Object") (EB : Exa Z h0 b "[Ljava/lang/Object;") (g_b : n0 ≤ b) (EX : Exa Z h0 x "java/lang/String") :
    MetFree l (⟨"java/util/ArrayList", "add", "(Ljava/lang/Object;[Ljava/lang/Object;I)V"⟩ : MethodName) (head1 (Jvm.Cond.code (⟨"java/util/ArrayList", "add", "(Ljava/lang/Object;[Ljava/lang/Object;I)V"⟩ : MethodName) jdk_38_method_24_code 4 none :: ws) ({ frames := 3, cells := 1, slots := 10, locals := 41 } : Room)) (fun ag U => ag = #[(.ref a), (.ref x), (.ref b), (.int (1 : Int32))] ∧ Z.Warmed39 U.vm ∧ U.heap = h0) (fun _ _ _ _ _ => True) (fun _ U o U' => ∃ v L, o = .returned v ∧ Q_rm3_1 Z a x b kb x0 h0 n0 v U'.heap L ∧ FrameEnd U o U' L ({ frames := 3, cells := 1, slots := 10, locals := 41 } : Room).cells ({ frames := 3, cells := 1, slots := 10, locals := 41 } : Room).slots) := by
  refine MetFree.of_bodySF (plainFor_of_name pn_8) hisR ?_
  intro p e s m args below meth c s₁ Bd hml0 hP hK
  obtain ⟨rfl, hZ, hh⟩ := hP
  have hx := Bd.exec
  have hby := Bd.bytes
  have hml : c.maxLocals = 4 := hml0
  have hown : s.vm.findClass "java/util/ArrayList" = some m.cls := findClass_of_methodNamed Bd.named
  have hnm := (name_of_methodNamed Bd.named Bd.method).1
  have X0 : Stand p l e ({ frames := 3, cells := 1, slots := 10, locals := 41 } : Room) s m #[(.ref a), (.ref x), (.ref b), (.int (1 : Int32))] below meth c s₁ [] 0 0 := Stand.of_body Bd
  have e0 : s₁.heap = h0 := by rw [← hh, Bd.state]; rfl
  have N0 := Fr.nil n0
  refine own_start (ef_rm3_1 m a x b (1 : Int32)) ?_
  intro F hF
  show own_Gl p.tables e below F (s₁.setTop (mkF m 0 #[.val (.ref a), .val (.ref x), .val (.ref b), .val (.int (1 : Int32))] []))
  have ne_a_b : a ≠ b := ne_exa E_a EB (by decide)
  have ne_x_b : x ≠ b := ne_exa EX EB (by decide)
  have ne_a_x : a ≠ x := ne_exa E_a EX (by decide)
  refine own_go (fun _ k => XS.iloadN X0.here hx rfl (hb hby d26_0) rfl k) ?_
  show own_Gl p.tables e below F (s₁.setTop (mkF m 1 #[.val (.ref a), .val (.ref x), .val (.ref b), .val (.int (1 : Int32))] [(.int (1 : Int32))]))
  refine own_go (fun _ k => XS.aloadN X0.here hx rfl (hb hby d26_1) rfl rfl k) ?_
  show own_Gl p.tables e below F (s₁.setTop (mkF m 2 #[.val (.ref a), .val (.ref x), .val (.ref b), .val (.int (1 : Int32))] [(.ref b), (.int (1 : Int32))]))
  obtain ⟨cl1, Ar1, ak1, aS1, aN1, aH1, aG1⟩ := id VB
  refine own_go (fun _ k => X0.arraylength hx (by rw [e0]; exact Ar1.1) (State.isArrayOf_alike hZ.alike Ar1.2.1) (g := (mkF m 2 #[.val (.ref a), .val (.ref x), .val (.ref b), .val (.int (1 : Int32))] [(.ref b), (.int (1 : Int32))])) rfl rfl (hb hby d26_2) _ k) ?_
  rw [len_of aS1 aN1]
  show own_Gl p.tables e below F (s₁.setTop (mkF m 3 #[.val (.ref a), .val (.ref x), .val (.ref b), .val (.int (1 : Int32))] [(.int (10 : Int32)), (.int (1 : Int32))]))
  refine own_go (fun _ k => XS.icmpYes X0.here hx rfl (pc0 := 3) (pc' := 11) rfl (hb hby d26_3) rfl (XT.ii_ne_t (by decide)) (by decide) (by decide) k) ?_
  show own_Gl p.tables e below F (s₁.setTop (mkF m 11 #[.val (.ref a), .val (.ref x), .val (.ref b), .val (.int (1 : Int32))] []))
  refine own_go (fun _ k => XS.aloadN X0.here hx rfl (hb hby d26_11) rfl rfl k) ?_
  show own_Gl p.tables e below F (s₁.setTop (mkF m 12 #[.val (.ref a), .val (.ref x), .val (.ref b), .val (.int (1 : Int32))] [(.ref b)]))
  refine own_go (fun _ k => XS.iloadN X0.here hx rfl (hb hby d26_12) rfl k) ?_
  show own_Gl p.tables e below F (s₁.setTop (mkF m 13 #[.val (.ref a), .val (.ref x), .val (.ref b), .val (.int (1 : Int32))] [(.int (1 : Int32)), (.ref b)]))
  refine own_go (fun _ k => XS.aloadN X0.here hx rfl (hb hby d26_13) rfl rfl k) ?_
  show own_Gl p.tables e below F (s₁.setTop (mkF m 14 #[.val (.ref a), .val (.ref x), .val (.ref b), .val (.int (1 : Int32))] [(.ref x), (.int (1 : Int32)), (.ref b)]))
  obtain ⟨cl2, Ar2, ak2, aS2, aN2, aH2, aG2⟩ := id VB
  have hin2 : ¬ ((1 : Int32) < 0 ∨ cl2.slots.size ≤ ((1 : Int32)).toNatClampNeg) := inb_of aS2 ⟨by decide, by decide⟩
  obtain ⟨T2, h2, X2, e2, W2, st2⟩ := stR X0 hx hZ e0 Ar2 (j := (1 : Int32)) hin2 rfl (Sto.ofV Ar2 ak2 OB (Ins.of_exa EX (hw _ (List.mem_of_getElem? (i := 180) rfl)))) (g := (mkF m 14 #[.val (.ref a), .val (.ref x), .val (.ref b), .val (.int (1 : Int32))] [(.ref x), (.int (1 : Int32)), (.ref b)])) rfl rfl (hb hby d26_14)
  have V2 : Arv Z h2 b kb (.object "java/lang/Object") (10 : Int32) [(.ref x0), (.ref x), .null, .null, .null, .null, .null, .null, .null, .null] .null := Arv.set Ar2 ak2 aS2 aN2 aH2 aG2 rfl W2 1 rfl (by first | decide | exact Nat.le_of_ble_eq_true rfl | simp)
  have f2_1 := E_a.wr W2
  have f2_2 := F1.other W2 (Or.inl ne_a_b)
  have f2_3 := F2.other W2 (Or.inl ne_a_b)
  have f2_4 := F3.other W2 (Or.inl ne_a_b)
  have f2_6 := EB.wr W2
  have f2_7 := EX.wr W2
  have Z2 : n0 ≤ h2.size := by rw [W2.size]; exact Z0
  have K2 := Keep.wr (Keep.refl h0 [a, b]) W2 (Or.inl (by simp))
  have N2 := Fr.snoc X2 N0 g_b
  refine own_go st2 ?_
  show own_Gl p.tables e below F (T2.setTop (mkF m 15 #[.val (.ref a), .val (.ref x), .val (.ref b), .val (.int (1 : Int32))] []))
  refine own_go (fun _ k => XS.aloadN X2.here hx rfl (hb hby d26_15) rfl rfl k) ?_
  show own_Gl p.tables e below F (T2.setTop (mkF m 16 #[.val (.ref a), .val (.ref x), .val (.ref b), .val (.int (1 : Int32))] [(.ref a)]))
  refine own_go (fun _ k => XS.iloadN X2.here hx rfl (hb hby d26_16) rfl k) ?_
  show own_Gl p.tables e below F (T2.setTop (mkF m 17 #[.val (.ref a), .val (.ref x), .val (.ref b), .val (.int (1 : Int32))] [(.int (1 : Int32)), (.ref a)]))
  refine own_go (fun _ k => XS.iconst X2.here hx rfl (hb hby d26_17) k) ?_
  show own_Gl p.tables e below F (T2.setTop (mkF m 18 #[.val (.ref a), .val (.ref x), .val (.ref b), .val (.int (1 : Int32))] [(.int (1 : Int32)), (.int (1 : Int32)), (.ref a)]))
  refine own_go (fun _ k => XS.iadd X2.here hx rfl (hb hby d26_18) rfl k) ?_
  show own_Gl p.tables e below F (T2.setTop (mkF m 19 #[.val (.ref a), .val (.ref x), .val (.ref b), .val (.int (1 : Int32))] [(.int ((1 : Int32) + (1 : Int32))), (.ref a)]))
  rw [(by decide : (1 : Int32) + (1 : Int32) = (2 : Int32))]
  show own_Gl p.tables e below F (T2.setTop (mkF m 19 #[.val (.ref a), .val (.ref x), .val (.ref b), .val (.int (1 : Int32))] [(.int (2 : Int32)), (.ref a)]))
  obtain ⟨T3, h3, X3, e3, W3, st3⟩ := putF X2 hx hZ hown (host := "") (Or.inl (hw _ (List.mem_of_getElem? (i := 120) rfl))) Via.refl e2 f2_4 f2_1 (Or.inl (hw _ (List.mem_of_getElem? (i := 121) rfl))) (hw _ (List.mem_of_getElem? (i := 45) rfl)) (ty := .int) (by decide) rfl rfl (g := (mkF m 19 #[.val (.ref a), .val (.ref x), .val (.ref b), .val (.int (1 : Int32))] [(.int (2 : Int32)), (.ref a)])) rfl rfl (hb hby d26_19)
  have Fw3 := f2_4.same W3
  have f3_1 := f2_1.wr W3
  have f3_2 := f2_2.other W3 (Or.inr (slot_ne (Or.inl (hw _ (List.mem_of_getElem? (i := 64) rfl))) (Or.inl (hw _ (List.mem_of_getElem? (i := 121) rfl))) (by decide) (t := .int) (t' := .int) (by decide) (by decide)))
  have f3_3 := f2_3.other W3 (Or.inr (slot_ne (Or.inl (hw _ (List.mem_of_getElem? (i := 67) rfl))) (Or.inl (hw _ (List.mem_of_getElem? (i := 121) rfl))) (by decide) (t := (.array (.object "java/lang/Object"))) (t' := .int) (by decide) (by decide)))
  have f3_5 := V2.other W3 (Ne.symm ne_a_b)
  have f3_6 := f2_6.wr W3
  have f3_7 := f2_7.wr W3
  have Z3 : n0 ≤ h3.size := by rw [W3.size]; exact Z2
  have K3 := Keep.wr K2 W3 (Or.inl (by simp))
  have N3 := Fr.snoc X3 N2 g_a
  refine own_go st3 ?_
  show own_Gl p.tables e below F (T3.setTop (mkF m 22 #[.val (.ref a), .val (.ref x), .val (.ref b), .val (.int (1 : Int32))] []))
  obtain ⟨fs, hr, hrun, hended, hW, hsame⟩ := X3.leave (v := none) (fun _ => rfl)
  subst hF
  refine own_fin ?_ ⟨hrun, hended, _, _, rfl, ?_, ⟨_, rfl⟩, hW, hsame.mono (by first | decide | exact Nat.le_of_ble_eq_true rfl) (by first | decide | exact Nat.le_of_ble_eq_true rfl)⟩
  · exact X3.returnOut hx Bd.returns (hb hby d26_22) hr
  · show Q_rm3_1 Z _ _ _ _ _ h0 n0 _ T3.heap _
    rw [e3]
    exact ⟨rfl, N3, K3, f3_1, f3_2, f3_3, Fw3, f3_5, f3_6⟩
theorem ef_rm1_1 (m : MethodId) (x0 : Addr) (x1 : Addr) : entryFrame m #[(.ref x0), (.ref x1)] 2 = mkF m 0 #[.val (.ref x0), .val (.ref x1)] [] := by first | (simp [entryFrame, mkF, argsToLocals, Value.category]; done) | rfl
def Q_rm1_1 (Z : State) (a x b : Addr) (kb : ClassId) (x0 : Addr) (h0 : Heap) (n0 : Nat) (v : Option Value) (h : Heap) (L : List Loc) : Prop := v = some (.int 1) ∧ Fr n0 L ∧ Keep h0 h [a, b] ∧ Exa Z h a "java/util/ArrayList" ∧ Fld Z h a "java/util/AbstractList" "modCount" "I" (.int 2) ∧ Fld Z h a "java/util/ArrayList" "elementData" "[Ljava/lang/Object;" (.ref b) ∧ Fld Z h a "java/util/ArrayList" "size" "I" (.int 2) ∧ Arv Z h b kb (.object "java/lang/Object") 10 [(.ref x0), (.ref x), .null, .null, .null, .null, .null, .null, .null, .null] .null ∧ Exa Z h b "[Ljava/lang/Object;"
set_option maxRecDepth 65536 in
set_option maxHeartbeats 40000000 in
theorem rm1_1 (l : Launch) (Z : State) (a0 : Array Value) (hw : ∀ d ∈ tables_1, d.before a0 Z = true) (ws : List Jvm.Cond) (a x b : Addr) (kb : ClassId) (x0 : Addr) (h0 : Heap) (n0 : Nat) (Z0 : n0 ≤ h0.size) (E_a : Exa Z h0 a "java/util/ArrayList") (F1 : Fld Z h0 a "java/util/AbstractList" "modCount" "I" (.int (1 : Int32))) (F2 : Fld Z h0 a "java/util/ArrayList" "elementData" "[Ljava/lang/Object;" (.ref b)) (F3 : Fld Z h0 a "java/util/ArrayList" "size" "I" (.int (1 : Int32))) (g_a : n0 ≤ a) (VB : Arv Z h0 b kb (.object "java/lang/Object") 10 [(.ref x0), .null, .null, .null, .null, .null, .null, .null, .null, .null] .null) (OB : Ovr Z kb "java/lang/Object") (EB : Exa Z h0 b "[Ljava/lang/Object;") (g_b : n0 ≤ b) (EX : Exa Z h0 x "java/lang/String") :
    MetFree l (⟨"java/util/ArrayList", "add", "(Ljava/lang/Object;)Z"⟩ : MethodName) (head1 (Jvm.Cond.code (⟨"java/util/ArrayList", "add", "(Ljava/lang/Object;)Z"⟩ : MethodName) jdk_38_method_25_code 2 (some .boolean) :: ws) ({ frames := 4, cells := 1, slots := 10, locals := 56 } : Room)) (fun ag U => ag = #[(.ref a), (.ref x)] ∧ Z.Warmed39 U.vm ∧ U.heap = h0) (fun _ _ _ _ _ => True) (fun _ U o U' => ∃ v L, o = .returned v ∧ Q_rm1_1 Z a x b kb x0 h0 n0 v U'.heap L ∧ FrameEnd U o U' L ({ frames := 4, cells := 1, slots := 10, locals := 56 } : Room).cells ({ frames := 4, cells := 1, slots := 10, locals := 56 } : Room).slots) := by
  refine MetFree.of_bodySF (plainFor_of_name pn_8) hisR ?_
  intro p e s m args below meth c s₁ Bd hml0 hP hK
  obtain ⟨rfl, hZ, hh⟩ := hP
  have hx := Bd.exec
  have hby := Bd.bytes
  have hml : c.maxLocals = 2 := hml0
  have hown : s.vm.findClass "java/util/ArrayList" = some m.cls := findClass_of_methodNamed Bd.named
  have hnm := (name_of_methodNamed Bd.named Bd.method).1
  have X0 : Stand p l e ({ frames := 4, cells := 1, slots := 10, locals := 56 } : Room) s m #[(.ref a), (.ref x)] below meth c s₁ [] 0 0 := Stand.of_body Bd
  have e0 : s₁.heap = h0 := by rw [← hh, Bd.state]; rfl
  have N0 := Fr.nil n0
  refine own_start (ef_rm1_1 m a x) ?_
  intro F hF
  show own_Gl p.tables e below F (s₁.setTop (mkF m 0 #[.val (.ref a), .val (.ref x)] []))
  have ne_a_b : a ≠ b := ne_exa E_a EB (by decide)
  have ne_x_b : x ≠ b := ne_exa EX EB (by decide)
  have ne_a_x : a ≠ x := ne_exa E_a EX (by decide)
  refine own_go (fun _ k => XS.aloadN X0.here hx rfl (hb hby d25_0) rfl rfl k) ?_
  show own_Gl p.tables e below F (s₁.setTop (mkF m 1 #[.val (.ref a), .val (.ref x)] [(.ref a)]))
  refine own_go (fun _ k => XS.dup X0.here hx rfl (hb hby d25_1) rfl rfl k) ?_
  show own_Gl p.tables e below F (s₁.setTop (mkF m 2 #[.val (.ref a), .val (.ref x)] [(.ref a), (.ref a)]))
  obtain ⟨T1, X1, e1, st1⟩ := getF X0 hx hZ hown (host := "") (Or.inl (hw _ (List.mem_of_getElem? (i := 157) rfl))) (Via.of (hw _ (List.mem_of_getElem? (i := 158) rfl))) e0 F1 (g := (mkF m 2 #[.val (.ref a), .val (.ref x)] [(.ref a), (.ref a)])) rfl rfl (hb hby d25_2)
  refine own_go st1 ?_
  show own_Gl p.tables e below F (T1.setTop (mkF m 5 #[.val (.ref a), .val (.ref x)] [(.int (1 : Int32)), (.ref a)]))
  refine own_go (fun _ k => XS.iconst X1.here hx rfl (hb hby d25_5) k) ?_
  show own_Gl p.tables e below F (T1.setTop (mkF m 6 #[.val (.ref a), .val (.ref x)] [(.int (1 : Int32)), (.int (1 : Int32)), (.ref a)]))
  refine own_go (fun _ k => XS.iadd X1.here hx rfl (hb hby d25_6) rfl k) ?_
  show own_Gl p.tables e below F (T1.setTop (mkF m 7 #[.val (.ref a), .val (.ref x)] [(.int ((1 : Int32) + (1 : Int32))), (.ref a)]))
  rw [(by decide : (1 : Int32) + (1 : Int32) = (2 : Int32))]
  show own_Gl p.tables e below F (T1.setTop (mkF m 7 #[.val (.ref a), .val (.ref x)] [(.int (2 : Int32)), (.ref a)]))
  obtain ⟨T2, h2, X2, e2, W2, st2⟩ := putF X1 hx hZ hown (host := "") (Or.inl (hw _ (List.mem_of_getElem? (i := 157) rfl))) (Via.of (hw _ (List.mem_of_getElem? (i := 158) rfl))) e1 F1 E_a (Or.inl (hw _ (List.mem_of_getElem? (i := 64) rfl))) (hw _ (List.mem_of_getElem? (i := 45) rfl)) (ty := .int) (by decide) rfl rfl (g := (mkF m 7 #[.val (.ref a), .val (.ref x)] [(.int (2 : Int32)), (.ref a)])) rfl rfl (hb hby d25_7)
  have Fw2 := F1.same W2
  have f2_1 := E_a.wr W2
  have f2_3 := F2.other W2 (Or.inr (slot_ne (Or.inl (hw _ (List.mem_of_getElem? (i := 67) rfl))) (Or.inl (hw _ (List.mem_of_getElem? (i := 64) rfl))) (by decide) (t := (.array (.object "java/lang/Object"))) (t' := .int) (by decide) (by decide)))
  have f2_4 := F3.other W2 (Or.inr (slot_ne (Or.inl (hw _ (List.mem_of_getElem? (i := 121) rfl))) (Or.inl (hw _ (List.mem_of_getElem? (i := 64) rfl))) (by decide) (t := .int) (t' := .int) (by decide) (by decide)))
  have f2_5 := VB.other W2 (Ne.symm ne_a_b)
  have f2_6 := EB.wr W2
  have f2_7 := EX.wr W2
  have Z2 : n0 ≤ h2.size := by rw [W2.size]; exact Z0
  have K2 := Keep.wr (Keep.refl h0 [a, b]) W2 (Or.inl (by simp))
  have N2 := Fr.snoc X2 N0 g_a
  refine own_go st2 ?_
  show own_Gl p.tables e below F (T2.setTop (mkF m 10 #[.val (.ref a), .val (.ref x)] []))
  refine own_go (fun _ k => XS.aloadN X2.here hx rfl (hb hby d25_10) rfl rfl k) ?_
  show own_Gl p.tables e below F (T2.setTop (mkF m 11 #[.val (.ref a), .val (.ref x)] [(.ref a)]))
  refine own_go (fun _ k => XS.aloadN X2.here hx rfl (hb hby d25_11) rfl rfl k) ?_
  show own_Gl p.tables e below F (T2.setTop (mkF m 12 #[.val (.ref a), .val (.ref x)] [(.ref x), (.ref a)]))
  refine own_go (fun _ k => XS.aloadN X2.here hx rfl (hb hby d25_12) rfl rfl k) ?_
  show own_Gl p.tables e below F (T2.setTop (mkF m 13 #[.val (.ref a), .val (.ref x)] [(.ref a), (.ref x), (.ref a)]))
  obtain ⟨T3, X3, e3, st3⟩ := getF X2 hx hZ hown (host := "") (Or.inl (hw _ (List.mem_of_getElem? (i := 66) rfl))) Via.refl e2 f2_3 (g := (mkF m 13 #[.val (.ref a), .val (.ref x)] [(.ref a), (.ref x), (.ref a)])) rfl rfl (hb hby d25_13)
  refine own_go st3 ?_
  show own_Gl p.tables e below F (T3.setTop (mkF m 16 #[.val (.ref a), .val (.ref x)] [(.ref b), (.ref x), (.ref a)]))
  refine own_go (fun _ k => XS.aloadN X3.here hx rfl (hb hby d25_16) rfl rfl k) ?_
  show own_Gl p.tables e below F (T3.setTop (mkF m 17 #[.val (.ref a), .val (.ref x)] [(.ref a), (.ref b), (.ref x), (.ref a)]))
  obtain ⟨T4, X4, e4, st4⟩ := getF X3 hx hZ hown (host := "") (Or.inl (hw _ (List.mem_of_getElem? (i := 120) rfl))) Via.refl e3 f2_4 (g := (mkF m 17 #[.val (.ref a), .val (.ref x)] [(.ref a), (.ref b), (.ref x), (.ref a)])) rfl rfl (hb hby d25_17)
  refine own_go st4 ?_
  show own_Gl p.tables e below F (T4.setTop (mkF m 20 #[.val (.ref a), .val (.ref x)] [(.int (1 : Int32)), (.ref b), (.ref x), (.ref a)]))
  obtain ⟨cq5, q5, q5'⟩ := f2_1.cell
  obtain ⟨_, _, ⟨T5, L5, k5, n5⟩, -, X5, ⟨Lc5, hQ5, l5, y5, z5⟩, st5⟩ := X4.privateBack hx (y := (⟨"java/util/ArrayList", "add", "(Ljava/lang/Object;[Ljava/lang/Object;I)V"⟩ : MethodName)) hown (mvT hZ (hw _ (List.mem_of_getElem? (i := 159) rfl))) (mvT hZ (hw _ (List.mem_of_getElem? (i := 160) rfl))) (mvT hZ (hw _ (List.mem_of_getElem? (i := 162) rfl))) (Cond.privateMethod_at (mvP hZ (hw _ (List.mem_of_getElem? (i := 161) rfl)) (args := #[]))) (mvT hZ (hw _ (List.mem_of_getElem? (i := 163) rfl))) (by decide) (backOf (W := 0) (rm3_1 l Z a0 hw [] a x b kb x0 h2 n0 Z2 f2_1 Fw2 f2_3 f2_4 g_a f2_5 OB f2_6 g_b f2_7) hZ (hw _ (List.mem_of_getElem? (i := 163) rfl)) (hw _ (List.mem_of_getElem? (i := 46) rfl)) (by decide) (by decide)) (g := (mkF m 20 #[.val (.ref a), .val (.ref x)] [(.int (1 : Int32)), (.ref b), (.ref x), (.ref a)])) rfl (by rw [hml]; rfl) (Steps.refl _) (a := a) (by rw [e4]; exact q5) q5' (argsL := [(.ref x), (.ref b), (.int (1 : Int32))]) (rest := []) (lenOf pd_8 rfl) rfl (by show 2 * 0 + _ ≤ _; exact Nat.le_of_eq rfl) (hb hby d25_20) (fun _ _ => ⟨rfl, e4, (by first | decide | exact Nat.le_of_ble_eq_true rfl), (by first | decide | exact Nat.le_of_ble_eq_true rfl)⟩)
  dsimp only [Pt.U, Pt.locs, Pt.cells, Pt.slots] at X5 l5 y5 z5 st5 hQ5
  have X5 := own_sn X5 (k' := 1) (n' := 10) y5 z5
  obtain ⟨rfl, N5, K5, GE5, GM5, GD5, GS5, VB5, EB5⟩ := hQ5
  have NF5 := own_fr l5 N2 N5
  have f5_1 := f2_1.keep K5
  have f5_6 := f2_6.keep K5
  have f5_7 := f2_7.keep K5
  have Z5 : n0 ≤ T5.heap.size := Nat.le_trans Z2 K5.1
  have KK5 := Keep.trans K2 K5 (by intro z hz; simp at hz; rcases hz with rfl | rfl; all_goals first | (left; simp; done) | (right; assumption))
  refine own_go (fun _ k => st5.trans k) ?_
  show own_Gl p.tables e below F (T5.setTop (mkF m 23 #[.val (.ref a), .val (.ref x)] []))
  refine own_go (fun _ k => XS.iconst X5.here hx rfl (hb hby d25_23) k) ?_
  show own_Gl p.tables e below F (T5.setTop (mkF m 24 #[.val (.ref a), .val (.ref x)] [(.int (1 : Int32))]))
  obtain ⟨fs, hr, hrun, hended, hW, hsame⟩ := X5.leave (v := some (.int (1 : Int32))) (fun h => by rw [Bd.returns] at h; cases h)
  subst hF
  refine own_fin ?_ ⟨hrun, hended, _, _, rfl, ?_, ⟨_, rfl⟩, hW, hsame.mono (by first | decide | exact Nat.le_of_ble_eq_true rfl) (by first | decide | exact Nat.le_of_ble_eq_true rfl)⟩
  · exact own_retN X5 hx (t := .boolean) Bd.returns (by simp) rfl (hb hby d25_24) hr
  · show Q_rm1_1 Z _ _ _ _ _ h0 n0 _ T5.heap _
    exact ⟨rfl, NF5, KK5, GE5, GM5, GD5, GS5, VB5, EB5⟩
theorem ef_rm3_2 (m : MethodId) (x0 : Addr) (x1 : Addr) (x2 : Addr) (x3 : Int32) : entryFrame m #[(.ref x0), (.ref x1), (.ref x2), (.int x3)] 4 = mkF m 0 #[.val (.ref x0), .val (.ref x1), .val (.ref x2), .val (.int x3)] [] := by first | (simp [entryFrame, mkF, argsToLocals, Value.category]; done) | rfl
def Q_rm3_2 (Z : State) (a x b : Addr) (kb : ClassId) (x0 x1 : Addr) (h0 : Heap) (n0 : Nat) (v : Option Value) (h : Heap) (L : List Loc) : Prop := v = none ∧ Fr n0 L ∧ Keep h0 h [a, b] ∧ Exa Z h a "java/util/ArrayList" ∧ Fld Z h a "java/util/AbstractList" "modCount" "I" (.int 3) ∧ Fld Z h a "java/util/ArrayList" "elementData" "[Ljava/lang/Object;" (.ref b) ∧ Fld Z h a "java/util/ArrayList" "size" "I" (.int 3) ∧ Arv Z h b kb (.object "java/lang/Object") 10 [(.ref x0), (.ref x1), (.ref x), .null, .null, .null, .null, .null, .null, .null] .null ∧ Exa Z h b "[Ljava/lang/Object;"
set_option maxRecDepth 65536 in
set_option maxHeartbeats 40000000 in
theorem rm3_2 (l : Launch) (Z : State) (a0 : Array Value) (hw : ∀ d ∈ tables_1, d.before a0 Z = true) (ws : List Jvm.Cond) (a x b : Addr) (kb : ClassId) (x0 x1 : Addr) (h0 : Heap) (n0 : Nat) (Z0 : n0 ≤ h0.size) (E_a : Exa Z h0 a "java/util/ArrayList") (F1 : Fld Z h0 a "java/util/AbstractList" "modCount" "I" (.int (3 : Int32))) (F2 : Fld Z h0 a "java/util/ArrayList" "elementData" "[Ljava/lang/Object;" (.ref b)) (F3 : Fld Z h0 a "java/util/ArrayList" "size" "I" (.int (2 : Int32))) (g_a : n0 ≤ a) (VB : Arv Z h0 b kb (.object "java/lang/Object") 10 [(.ref x0), (.ref x1), .null, .null, .null, .null, .null, .null, .null, .null] .null) (OB : Ovr Z kb "java/lang/Object") (EB : Exa Z h0 b "[Ljava/lang/Object;") (g_b : n0 ≤ b) (EX : Exa Z h0 x "java/lang/String") :
    MetFree l (⟨"java/util/ArrayList", "add", "(Ljava/lang/Object;[Ljava/lang/Object;I)V"⟩ : MethodName) (head1 (Jvm.Cond.code (⟨"java/util/ArrayList", "add", "(Ljava/lang/Object;[Ljava/lang/Object;I)V"⟩ : MethodName) jdk_38_method_24_code 4 none :: ws) ({ frames := 3, cells := 1, slots := 10, locals := 41 } : Room)) (fun ag U => ag = #[(.ref a), (.ref x), (.ref b), (.int (2 : Int32))] ∧ Z.Warmed39 U.vm ∧ U.heap = h0) (fun _ _ _ _ _ => True) (fun _ U o U' => ∃ v L, o = .returned v ∧ Q_rm3_2 Z a x b kb x0 x1 h0 n0 v U'.heap L ∧ FrameEnd U o U' L ({ frames := 3, cells := 1, slots := 10, locals := 41 } : Room).cells ({ frames := 3, cells := 1, slots := 10, locals := 41 } : Room).slots) := by
  refine MetFree.of_bodySF (plainFor_of_name pn_8) hisR ?_
  intro p e s m args below meth c s₁ Bd hml0 hP hK
  obtain ⟨rfl, hZ, hh⟩ := hP
  have hx := Bd.exec
  have hby := Bd.bytes
  have hml : c.maxLocals = 4 := hml0
  have hown : s.vm.findClass "java/util/ArrayList" = some m.cls := findClass_of_methodNamed Bd.named
  have hnm := (name_of_methodNamed Bd.named Bd.method).1
  have X0 : Stand p l e ({ frames := 3, cells := 1, slots := 10, locals := 41 } : Room) s m #[(.ref a), (.ref x), (.ref b), (.int (2 : Int32))] below meth c s₁ [] 0 0 := Stand.of_body Bd
  have e0 : s₁.heap = h0 := by rw [← hh, Bd.state]; rfl
  have N0 := Fr.nil n0
  refine own_start (ef_rm3_2 m a x b (2 : Int32)) ?_
  intro F hF
  show own_Gl p.tables e below F (s₁.setTop (mkF m 0 #[.val (.ref a), .val (.ref x), .val (.ref b), .val (.int (2 : Int32))] []))
  have ne_a_b : a ≠ b := ne_exa E_a EB (by decide)
  have ne_x_b : x ≠ b := ne_exa EX EB (by decide)
  have ne_a_x : a ≠ x := ne_exa E_a EX (by decide)
  refine own_go (fun _ k => XS.iloadN X0.here hx rfl (hb hby d26_0) rfl k) ?_
  show own_Gl p.tables e below F (s₁.setTop (mkF m 1 #[.val (.ref a), .val (.ref x), .val (.ref b), .val (.int (2 : Int32))] [(.int (2 : Int32))]))
  refine own_go (fun _ k => XS.aloadN X0.here hx rfl (hb hby d26_1) rfl rfl k) ?_
  show own_Gl p.tables e below F (s₁.setTop (mkF m 2 #[.val (.ref a), .val (.ref x), .val (.ref b), .val (.int (2 : Int32))] [(.ref b), (.int (2 : Int32))]))
  obtain ⟨cl1, Ar1, ak1, aS1, aN1, aH1, aG1⟩ := id VB
  refine own_go (fun _ k => X0.arraylength hx (by rw [e0]; exact Ar1.1) (State.isArrayOf_alike hZ.alike Ar1.2.1) (g := (mkF m 2 #[.val (.ref a), .val (.ref x), .val (.ref b), .val (.int (2 : Int32))] [(.ref b), (.int (2 : Int32))])) rfl rfl (hb hby d26_2) _ k) ?_
  rw [len_of aS1 aN1]
  show own_Gl p.tables e below F (s₁.setTop (mkF m 3 #[.val (.ref a), .val (.ref x), .val (.ref b), .val (.int (2 : Int32))] [(.int (10 : Int32)), (.int (2 : Int32))]))
  refine own_go (fun _ k => XS.icmpYes X0.here hx rfl (pc0 := 3) (pc' := 11) rfl (hb hby d26_3) rfl (XT.ii_ne_t (by decide)) (by decide) (by decide) k) ?_
  show own_Gl p.tables e below F (s₁.setTop (mkF m 11 #[.val (.ref a), .val (.ref x), .val (.ref b), .val (.int (2 : Int32))] []))
  refine own_go (fun _ k => XS.aloadN X0.here hx rfl (hb hby d26_11) rfl rfl k) ?_
  show own_Gl p.tables e below F (s₁.setTop (mkF m 12 #[.val (.ref a), .val (.ref x), .val (.ref b), .val (.int (2 : Int32))] [(.ref b)]))
  refine own_go (fun _ k => XS.iloadN X0.here hx rfl (hb hby d26_12) rfl k) ?_
  show own_Gl p.tables e below F (s₁.setTop (mkF m 13 #[.val (.ref a), .val (.ref x), .val (.ref b), .val (.int (2 : Int32))] [(.int (2 : Int32)), (.ref b)]))
  refine own_go (fun _ k => XS.aloadN X0.here hx rfl (hb hby d26_13) rfl rfl k) ?_
  show own_Gl p.tables e below F (s₁.setTop (mkF m 14 #[.val (.ref a), .val (.ref x), .val (.ref b), .val (.int (2 : Int32))] [(.ref x), (.int (2 : Int32)), (.ref b)]))
  obtain ⟨cl2, Ar2, ak2, aS2, aN2, aH2, aG2⟩ := id VB
  have hin2 : ¬ ((2 : Int32) < 0 ∨ cl2.slots.size ≤ ((2 : Int32)).toNatClampNeg) := inb_of aS2 ⟨by decide, by decide⟩
  obtain ⟨T2, h2, X2, e2, W2, st2⟩ := stR X0 hx hZ e0 Ar2 (j := (2 : Int32)) hin2 rfl (Sto.ofV Ar2 ak2 OB (Ins.of_exa EX (hw _ (List.mem_of_getElem? (i := 180) rfl)))) (g := (mkF m 14 #[.val (.ref a), .val (.ref x), .val (.ref b), .val (.int (2 : Int32))] [(.ref x), (.int (2 : Int32)), (.ref b)])) rfl rfl (hb hby d26_14)
  have V2 : Arv Z h2 b kb (.object "java/lang/Object") (10 : Int32) [(.ref x0), (.ref x1), (.ref x), .null, .null, .null, .null, .null, .null, .null] .null := Arv.set Ar2 ak2 aS2 aN2 aH2 aG2 rfl W2 2 rfl (by first | decide | exact Nat.le_of_ble_eq_true rfl | simp)
  have f2_1 := E_a.wr W2
  have f2_2 := F1.other W2 (Or.inl ne_a_b)
  have f2_3 := F2.other W2 (Or.inl ne_a_b)
  have f2_4 := F3.other W2 (Or.inl ne_a_b)
  have f2_6 := EB.wr W2
  have f2_7 := EX.wr W2
  have Z2 : n0 ≤ h2.size := by rw [W2.size]; exact Z0
  have K2 := Keep.wr (Keep.refl h0 [a, b]) W2 (Or.inl (by simp))
  have N2 := Fr.snoc X2 N0 g_b
  refine own_go st2 ?_
  show own_Gl p.tables e below F (T2.setTop (mkF m 15 #[.val (.ref a), .val (.ref x), .val (.ref b), .val (.int (2 : Int32))] []))
  refine own_go (fun _ k => XS.aloadN X2.here hx rfl (hb hby d26_15) rfl rfl k) ?_
  show own_Gl p.tables e below F (T2.setTop (mkF m 16 #[.val (.ref a), .val (.ref x), .val (.ref b), .val (.int (2 : Int32))] [(.ref a)]))
  refine own_go (fun _ k => XS.iloadN X2.here hx rfl (hb hby d26_16) rfl k) ?_
  show own_Gl p.tables e below F (T2.setTop (mkF m 17 #[.val (.ref a), .val (.ref x), .val (.ref b), .val (.int (2 : Int32))] [(.int (2 : Int32)), (.ref a)]))
  refine own_go (fun _ k => XS.iconst X2.here hx rfl (hb hby d26_17) k) ?_
  show own_Gl p.tables e below F (T2.setTop (mkF m 18 #[.val (.ref a), .val (.ref x), .val (.ref b), .val (.int (2 : Int32))] [(.int (1 : Int32)), (.int (2 : Int32)), (.ref a)]))
  refine own_go (fun _ k => XS.iadd X2.here hx rfl (hb hby d26_18) rfl k) ?_
  show own_Gl p.tables e below F (T2.setTop (mkF m 19 #[.val (.ref a), .val (.ref x), .val (.ref b), .val (.int (2 : Int32))] [(.int ((2 : Int32) + (1 : Int32))), (.ref a)]))
  rw [(by decide : (2 : Int32) + (1 : Int32) = (3 : Int32))]
  show own_Gl p.tables e below F (T2.setTop (mkF m 19 #[.val (.ref a), .val (.ref x), .val (.ref b), .val (.int (2 : Int32))] [(.int (3 : Int32)), (.ref a)]))
  obtain ⟨T3, h3, X3, e3, W3, st3⟩ := putF X2 hx hZ hown (host := "") (Or.inl (hw _ (List.mem_of_getElem? (i := 120) rfl))) Via.refl e2 f2_4 f2_1 (Or.inl (hw _ (List.mem_of_getElem? (i := 121) rfl))) (hw _ (List.mem_of_getElem? (i := 45) rfl)) (ty := .int) (by decide) rfl rfl (g := (mkF m 19 #[.val (.ref a), .val (.ref x), .val (.ref b), .val (.int (2 : Int32))] [(.int (3 : Int32)), (.ref a)])) rfl rfl (hb hby d26_19)
  have Fw3 := f2_4.same W3
  have f3_1 := f2_1.wr W3
  have f3_2 := f2_2.other W3 (Or.inr (slot_ne (Or.inl (hw _ (List.mem_of_getElem? (i := 64) rfl))) (Or.inl (hw _ (List.mem_of_getElem? (i := 121) rfl))) (by decide) (t := .int) (t' := .int) (by decide) (by decide)))
  have f3_3 := f2_3.other W3 (Or.inr (slot_ne (Or.inl (hw _ (List.mem_of_getElem? (i := 67) rfl))) (Or.inl (hw _ (List.mem_of_getElem? (i := 121) rfl))) (by decide) (t := (.array (.object "java/lang/Object"))) (t' := .int) (by decide) (by decide)))
  have f3_5 := V2.other W3 (Ne.symm ne_a_b)
  have f3_6 := f2_6.wr W3
  have f3_7 := f2_7.wr W3
  have Z3 : n0 ≤ h3.size := by rw [W3.size]; exact Z2
  have K3 := Keep.wr K2 W3 (Or.inl (by simp))
  have N3 := Fr.snoc X3 N2 g_a
  refine own_go st3 ?_
  show own_Gl p.tables e below F (T3.setTop (mkF m 22 #[.val (.ref a), .val (.ref x), .val (.ref b), .val (.int (2 : Int32))] []))
  obtain ⟨fs, hr, hrun, hended, hW, hsame⟩ := X3.leave (v := none) (fun _ => rfl)
  subst hF
  refine own_fin ?_ ⟨hrun, hended, _, _, rfl, ?_, ⟨_, rfl⟩, hW, hsame.mono (by first | decide | exact Nat.le_of_ble_eq_true rfl) (by first | decide | exact Nat.le_of_ble_eq_true rfl)⟩
  · exact X3.returnOut hx Bd.returns (hb hby d26_22) hr
  · show Q_rm3_2 Z _ _ _ _ _ _ h0 n0 _ T3.heap _
    rw [e3]
    exact ⟨rfl, N3, K3, f3_1, f3_2, f3_3, Fw3, f3_5, f3_6⟩
theorem ef_rm1_2 (m : MethodId) (x0 : Addr) (x1 : Addr) : entryFrame m #[(.ref x0), (.ref x1)] 2 = mkF m 0 #[.val (.ref x0), .val (.ref x1)] [] := by first | (simp [entryFrame, mkF, argsToLocals, Value.category]; done) | rfl
def Q_rm1_2 (Z : State) (a x b : Addr) (kb : ClassId) (x0 x1 : Addr) (h0 : Heap) (n0 : Nat) (v : Option Value) (h : Heap) (L : List Loc) : Prop := v = some (.int 1) ∧ Fr n0 L ∧ Keep h0 h [a, b] ∧ Exa Z h a "java/util/ArrayList" ∧ Fld Z h a "java/util/AbstractList" "modCount" "I" (.int 3) ∧ Fld Z h a "java/util/ArrayList" "elementData" "[Ljava/lang/Object;" (.ref b) ∧ Fld Z h a "java/util/ArrayList" "size" "I" (.int 3) ∧ Arv Z h b kb (.object "java/lang/Object") 10 [(.ref x0), (.ref x1), (.ref x), .null, .null, .null, .null, .null, .null, .null] .null ∧ Exa Z h b "[Ljava/lang/Object;"
set_option maxRecDepth 65536 in
set_option maxHeartbeats 40000000 in
theorem rm1_2 (l : Launch) (Z : State) (a0 : Array Value) (hw : ∀ d ∈ tables_1, d.before a0 Z = true) (ws : List Jvm.Cond) (a x b : Addr) (kb : ClassId) (x0 x1 : Addr) (h0 : Heap) (n0 : Nat) (Z0 : n0 ≤ h0.size) (E_a : Exa Z h0 a "java/util/ArrayList") (F1 : Fld Z h0 a "java/util/AbstractList" "modCount" "I" (.int (2 : Int32))) (F2 : Fld Z h0 a "java/util/ArrayList" "elementData" "[Ljava/lang/Object;" (.ref b)) (F3 : Fld Z h0 a "java/util/ArrayList" "size" "I" (.int (2 : Int32))) (g_a : n0 ≤ a) (VB : Arv Z h0 b kb (.object "java/lang/Object") 10 [(.ref x0), (.ref x1), .null, .null, .null, .null, .null, .null, .null, .null] .null) (OB : Ovr Z kb "java/lang/Object") (EB : Exa Z h0 b "[Ljava/lang/Object;") (g_b : n0 ≤ b) (EX : Exa Z h0 x "java/lang/String") :
    MetFree l (⟨"java/util/ArrayList", "add", "(Ljava/lang/Object;)Z"⟩ : MethodName) (head1 (Jvm.Cond.code (⟨"java/util/ArrayList", "add", "(Ljava/lang/Object;)Z"⟩ : MethodName) jdk_38_method_25_code 2 (some .boolean) :: ws) ({ frames := 4, cells := 1, slots := 10, locals := 56 } : Room)) (fun ag U => ag = #[(.ref a), (.ref x)] ∧ Z.Warmed39 U.vm ∧ U.heap = h0) (fun _ _ _ _ _ => True) (fun _ U o U' => ∃ v L, o = .returned v ∧ Q_rm1_2 Z a x b kb x0 x1 h0 n0 v U'.heap L ∧ FrameEnd U o U' L ({ frames := 4, cells := 1, slots := 10, locals := 56 } : Room).cells ({ frames := 4, cells := 1, slots := 10, locals := 56 } : Room).slots) := by
  refine MetFree.of_bodySF (plainFor_of_name pn_8) hisR ?_
  intro p e s m args below meth c s₁ Bd hml0 hP hK
  obtain ⟨rfl, hZ, hh⟩ := hP
  have hx := Bd.exec
  have hby := Bd.bytes
  have hml : c.maxLocals = 2 := hml0
  have hown : s.vm.findClass "java/util/ArrayList" = some m.cls := findClass_of_methodNamed Bd.named
  have hnm := (name_of_methodNamed Bd.named Bd.method).1
  have X0 : Stand p l e ({ frames := 4, cells := 1, slots := 10, locals := 56 } : Room) s m #[(.ref a), (.ref x)] below meth c s₁ [] 0 0 := Stand.of_body Bd
  have e0 : s₁.heap = h0 := by rw [← hh, Bd.state]; rfl
  have N0 := Fr.nil n0
  refine own_start (ef_rm1_2 m a x) ?_
  intro F hF
  show own_Gl p.tables e below F (s₁.setTop (mkF m 0 #[.val (.ref a), .val (.ref x)] []))
  have ne_a_b : a ≠ b := ne_exa E_a EB (by decide)
  have ne_x_b : x ≠ b := ne_exa EX EB (by decide)
  have ne_a_x : a ≠ x := ne_exa E_a EX (by decide)
  refine own_go (fun _ k => XS.aloadN X0.here hx rfl (hb hby d25_0) rfl rfl k) ?_
  show own_Gl p.tables e below F (s₁.setTop (mkF m 1 #[.val (.ref a), .val (.ref x)] [(.ref a)]))
  refine own_go (fun _ k => XS.dup X0.here hx rfl (hb hby d25_1) rfl rfl k) ?_
  show own_Gl p.tables e below F (s₁.setTop (mkF m 2 #[.val (.ref a), .val (.ref x)] [(.ref a), (.ref a)]))
  obtain ⟨T1, X1, e1, st1⟩ := getF X0 hx hZ hown (host := "") (Or.inl (hw _ (List.mem_of_getElem? (i := 157) rfl))) (Via.of (hw _ (List.mem_of_getElem? (i := 158) rfl))) e0 F1 (g := (mkF m 2 #[.val (.ref a), .val (.ref x)] [(.ref a), (.ref a)])) rfl rfl (hb hby d25_2)
  refine own_go st1 ?_
  show own_Gl p.tables e below F (T1.setTop (mkF m 5 #[.val (.ref a), .val (.ref x)] [(.int (2 : Int32)), (.ref a)]))
  refine own_go (fun _ k => XS.iconst X1.here hx rfl (hb hby d25_5) k) ?_
  show own_Gl p.tables e below F (T1.setTop (mkF m 6 #[.val (.ref a), .val (.ref x)] [(.int (1 : Int32)), (.int (2 : Int32)), (.ref a)]))
  refine own_go (fun _ k => XS.iadd X1.here hx rfl (hb hby d25_6) rfl k) ?_
  show own_Gl p.tables e below F (T1.setTop (mkF m 7 #[.val (.ref a), .val (.ref x)] [(.int ((2 : Int32) + (1 : Int32))), (.ref a)]))
  rw [(by decide : (2 : Int32) + (1 : Int32) = (3 : Int32))]
  show own_Gl p.tables e below F (T1.setTop (mkF m 7 #[.val (.ref a), .val (.ref x)] [(.int (3 : Int32)), (.ref a)]))
  obtain ⟨T2, h2, X2, e2, W2, st2⟩ := putF X1 hx hZ hown (host := "") (Or.inl (hw _ (List.mem_of_getElem? (i := 157) rfl))) (Via.of (hw _ (List.mem_of_getElem? (i := 158) rfl))) e1 F1 E_a (Or.inl (hw _ (List.mem_of_getElem? (i := 64) rfl))) (hw _ (List.mem_of_getElem? (i := 45) rfl)) (ty := .int) (by decide) rfl rfl (g := (mkF m 7 #[.val (.ref a), .val (.ref x)] [(.int (3 : Int32)), (.ref a)])) rfl rfl (hb hby d25_7)
  have Fw2 := F1.same W2
  have f2_1 := E_a.wr W2
  have f2_3 := F2.other W2 (Or.inr (slot_ne (Or.inl (hw _ (List.mem_of_getElem? (i := 67) rfl))) (Or.inl (hw _ (List.mem_of_getElem? (i := 64) rfl))) (by decide) (t := (.array (.object "java/lang/Object"))) (t' := .int) (by decide) (by decide)))
  have f2_4 := F3.other W2 (Or.inr (slot_ne (Or.inl (hw _ (List.mem_of_getElem? (i := 121) rfl))) (Or.inl (hw _ (List.mem_of_getElem? (i := 64) rfl))) (by decide) (t := .int) (t' := .int) (by decide) (by decide)))
  have f2_5 := VB.other W2 (Ne.symm ne_a_b)
  have f2_6 := EB.wr W2
  have f2_7 := EX.wr W2
  have Z2 : n0 ≤ h2.size := by rw [W2.size]; exact Z0
  have K2 := Keep.wr (Keep.refl h0 [a, b]) W2 (Or.inl (by simp))
  have N2 := Fr.snoc X2 N0 g_a
  refine own_go st2 ?_
  show own_Gl p.tables e below F (T2.setTop (mkF m 10 #[.val (.ref a), .val (.ref x)] []))
  refine own_go (fun _ k => XS.aloadN X2.here hx rfl (hb hby d25_10) rfl rfl k) ?_
  show own_Gl p.tables e below F (T2.setTop (mkF m 11 #[.val (.ref a), .val (.ref x)] [(.ref a)]))
  refine own_go (fun _ k => XS.aloadN X2.here hx rfl (hb hby d25_11) rfl rfl k) ?_
  show own_Gl p.tables e below F (T2.setTop (mkF m 12 #[.val (.ref a), .val (.ref x)] [(.ref x), (.ref a)]))
  refine own_go (fun _ k => XS.aloadN X2.here hx rfl (hb hby d25_12) rfl rfl k) ?_
  show own_Gl p.tables e below F (T2.setTop (mkF m 13 #[.val (.ref a), .val (.ref x)] [(.ref a), (.ref x), (.ref a)]))
  obtain ⟨T3, X3, e3, st3⟩ := getF X2 hx hZ hown (host := "") (Or.inl (hw _ (List.mem_of_getElem? (i := 66) rfl))) Via.refl e2 f2_3 (g := (mkF m 13 #[.val (.ref a), .val (.ref x)] [(.ref a), (.ref x), (.ref a)])) rfl rfl (hb hby d25_13)
  refine own_go st3 ?_
  show own_Gl p.tables e below F (T3.setTop (mkF m 16 #[.val (.ref a), .val (.ref x)] [(.ref b), (.ref x), (.ref a)]))
  refine own_go (fun _ k => XS.aloadN X3.here hx rfl (hb hby d25_16) rfl rfl k) ?_
  show own_Gl p.tables e below F (T3.setTop (mkF m 17 #[.val (.ref a), .val (.ref x)] [(.ref a), (.ref b), (.ref x), (.ref a)]))
  obtain ⟨T4, X4, e4, st4⟩ := getF X3 hx hZ hown (host := "") (Or.inl (hw _ (List.mem_of_getElem? (i := 120) rfl))) Via.refl e3 f2_4 (g := (mkF m 17 #[.val (.ref a), .val (.ref x)] [(.ref a), (.ref b), (.ref x), (.ref a)])) rfl rfl (hb hby d25_17)
  refine own_go st4 ?_
  show own_Gl p.tables e below F (T4.setTop (mkF m 20 #[.val (.ref a), .val (.ref x)] [(.int (2 : Int32)), (.ref b), (.ref x), (.ref a)]))
  obtain ⟨cq5, q5, q5'⟩ := f2_1.cell
  obtain ⟨_, _, ⟨T5, L5, k5, n5⟩, -, X5, ⟨Lc5, hQ5, l5, y5, z5⟩, st5⟩ := X4.privateBack hx (y := (⟨"java/util/ArrayList", "add", "(Ljava/lang/Object;[Ljava/lang/Object;I)V"⟩ : MethodName)) hown (mvT hZ (hw _ (List.mem_of_getElem? (i := 159) rfl))) (mvT hZ (hw _ (List.mem_of_getElem? (i := 160) rfl))) (mvT hZ (hw _ (List.mem_of_getElem? (i := 162) rfl))) (Cond.privateMethod_at (mvP hZ (hw _ (List.mem_of_getElem? (i := 161) rfl)) (args := #[]))) (mvT hZ (hw _ (List.mem_of_getElem? (i := 163) rfl))) (by decide) (backOf (W := 0) (rm3_2 l Z a0 hw [] a x b kb x0 x1 h2 n0 Z2 f2_1 Fw2 f2_3 f2_4 g_a f2_5 OB f2_6 g_b f2_7) hZ (hw _ (List.mem_of_getElem? (i := 163) rfl)) (hw _ (List.mem_of_getElem? (i := 46) rfl)) (by decide) (by decide)) (g := (mkF m 20 #[.val (.ref a), .val (.ref x)] [(.int (2 : Int32)), (.ref b), (.ref x), (.ref a)])) rfl (by rw [hml]; rfl) (Steps.refl _) (a := a) (by rw [e4]; exact q5) q5' (argsL := [(.ref x), (.ref b), (.int (2 : Int32))]) (rest := []) (lenOf pd_8 rfl) rfl (by show 2 * 0 + _ ≤ _; exact Nat.le_of_eq rfl) (hb hby d25_20) (fun _ _ => ⟨rfl, e4, (by first | decide | exact Nat.le_of_ble_eq_true rfl), (by first | decide | exact Nat.le_of_ble_eq_true rfl)⟩)
  dsimp only [Pt.U, Pt.locs, Pt.cells, Pt.slots] at X5 l5 y5 z5 st5 hQ5
  have X5 := own_sn X5 (k' := 1) (n' := 10) y5 z5
  obtain ⟨rfl, N5, K5, GE5, GM5, GD5, GS5, VB5, EB5⟩ := hQ5
  have NF5 := own_fr l5 N2 N5
  have f5_1 := f2_1.keep K5
  have f5_6 := f2_6.keep K5
  have f5_7 := f2_7.keep K5
  have Z5 : n0 ≤ T5.heap.size := Nat.le_trans Z2 K5.1
  have KK5 := Keep.trans K2 K5 (by intro z hz; simp at hz; rcases hz with rfl | rfl; all_goals first | (left; simp; done) | (right; assumption))
  refine own_go (fun _ k => st5.trans k) ?_
  show own_Gl p.tables e below F (T5.setTop (mkF m 23 #[.val (.ref a), .val (.ref x)] []))
  refine own_go (fun _ k => XS.iconst X5.here hx rfl (hb hby d25_23) k) ?_
  show own_Gl p.tables e below F (T5.setTop (mkF m 24 #[.val (.ref a), .val (.ref x)] [(.int (1 : Int32))]))
  obtain ⟨fs, hr, hrun, hended, hW, hsame⟩ := X5.leave (v := some (.int (1 : Int32))) (fun h => by rw [Bd.returns] at h; cases h)
  subst hF
  refine own_fin ?_ ⟨hrun, hended, _, _, rfl, ?_, ⟨_, rfl⟩, hW, hsame.mono (by first | decide | exact Nat.le_of_ble_eq_true rfl) (by first | decide | exact Nat.le_of_ble_eq_true rfl)⟩
  · exact own_retN X5 hx (t := .boolean) Bd.returns (by simp) rfl (hb hby d25_24) hr
  · show Q_rm1_2 Z _ _ _ _ _ _ h0 n0 _ T5.heap _
    exact ⟨rfl, NF5, KK5, GE5, GM5, GD5, GS5, VB5, EB5⟩
theorem ef_rmOi (m : MethodId) (x0 : Addr) (x1 : Addr) : entryFrame m #[(.ref x0), (.ref x1)] 2 = mkF m 0 #[.val (.ref x0), .val (.ref x1)] [] := by first | (simp [entryFrame, mkF, argsToLocals, Value.category]; done) | rfl
theorem pn_9 : plainName "java/util/Optional" = true := by first | (simp [plainName, overriddenIn]; done) | decide +kernel
theorem d16_0 : decode jdk_32_method_2_code 0 = .ok (.aload_n 0, 1) := by decide +kernel
theorem d16_1 : decode jdk_32_method_2_code 1 = .ok (.invokespecial 7, 3) := by decide +kernel
theorem d16_4 : decode jdk_32_method_2_code 4 = .ok (.aload_n 0, 1) := by decide +kernel
theorem d16_5 : decode jdk_32_method_2_code 5 = .ok (.aload_n 1, 1) := by decide +kernel
theorem d16_6 : decode jdk_32_method_2_code 6 = .ok (.putfield 13, 3) := by decide +kernel
theorem d16_9 : decode jdk_32_method_2_code 9 = .ok (.return_, 1) := by decide +kernel
def Q_rmOi (Z : State) (a b : Addr) (h0 : Heap) (n0 : Nat) (v : Option Value) (h : Heap) (L : List Loc) : Prop := v = none ∧ Fr n0 L ∧ Keep h0 h [a] ∧ Exa Z h a "java/util/Optional" ∧ Fld Z h a "java/util/Optional" "value" "Ljava/lang/Object;" (.ref b)
set_option maxRecDepth 65536 in
set_option maxHeartbeats 40000000 in
theorem rmOi (l : Launch) (Z : State) (a0 : Array Value) (hw : ∀ d ∈ tables_1, d.before a0 Z = true) (ws : List Jvm.Cond) (a b : Addr) (h0 : Heap) (n0 : Nat) (Z0 : n0 ≤ h0.size) (E_a : Exa Z h0 a "java/util/Optional") (F_value : Fld Z h0 a "java/util/Optional" "value" "Ljava/lang/Object;" .null) (g_a : n0 ≤ a) :
    MetFree l (⟨"java/util/Optional", "<init>", "(Ljava/lang/Object;)V"⟩ : MethodName) (head1 (Jvm.Cond.code (⟨"java/util/Optional", "<init>", "(Ljava/lang/Object;)V"⟩ : MethodName) jdk_32_method_2_code 2 none :: ws) ({ frames := 1, cells := 0, slots := 0, locals := 12 } : Room)) (fun ag U => ag = #[(.ref a), (.ref b)] ∧ Z.Warmed39 U.vm ∧ U.heap = h0) (fun _ _ _ _ _ => True) (fun _ U o U' => ∃ v L, o = .returned v ∧ Q_rmOi Z a b h0 n0 v U'.heap L ∧ FrameEnd U o U' L ({ frames := 1, cells := 0, slots := 0, locals := 12 } : Room).cells ({ frames := 1, cells := 0, slots := 0, locals := 12 } : Room).slots) := by
  refine MetFree.of_bodySF (plainFor_of_name pn_9) hisR ?_
  intro p e s m args below meth c s₁ Bd hml0 hP hK
  obtain ⟨rfl, hZ, hh⟩ := hP
  have hx := Bd.exec
  have hby := Bd.bytes
  have hml : c.maxLocals = 2 := hml0
  have hown : s.vm.findClass "java/util/Optional" = some m.cls := findClass_of_methodNamed Bd.named
  have hnm := (name_of_methodNamed Bd.named Bd.method).1
  have X0 : Stand p l e ({ frames := 1, cells := 0, slots := 0, locals := 12 } : Room) s m #[(.ref a), (.ref b)] below meth c s₁ [] 0 0 := Stand.of_body Bd
  have e0 : s₁.heap = h0 := by rw [← hh, Bd.state]; rfl
  have N0 := Fr.nil n0
  refine own_start (ef_rmOi m a b) ?_
  intro F hF
  show own_Gl p.tables e below F (s₁.setTop (mkF m 0 #[.val (.ref a), .val (.ref b)] []))
  refine own_go (fun _ k => XS.aloadN X0.here hx rfl (hb hby d16_0) rfl rfl k) ?_
  show own_Gl p.tables e below F (s₁.setTop (mkF m 1 #[.val (.ref a), .val (.ref b)] [(.ref a)]))
  obtain ⟨T1, X1, e1, st1⟩ := initO X0 hx hZ hown (hw _ (List.mem_of_getElem? (i := 82) rfl)) (hw _ (List.mem_of_getElem? (i := 12) rfl)) (hw _ (List.mem_of_getElem? (i := 13) rfl)) e0 (g := (mkF m 1 #[.val (.ref a), .val (.ref b)] [(.ref a)])) rfl (by rw [hml]; rfl) rfl (hb hby d16_1) (by decide) (W := 0) (by show 2 * 0 + _ ≤ _; exact Nat.le_of_eq rfl) (by decide)
  refine own_go st1 ?_
  show own_Gl p.tables e below F (T1.setTop (mkF m 4 #[.val (.ref a), .val (.ref b)] []))
  refine own_go (fun _ k => XS.aloadN X1.here hx rfl (hb hby d16_4) rfl rfl k) ?_
  show own_Gl p.tables e below F (T1.setTop (mkF m 5 #[.val (.ref a), .val (.ref b)] [(.ref a)]))
  refine own_go (fun _ k => XS.aloadN X1.here hx rfl (hb hby d16_5) rfl rfl k) ?_
  show own_Gl p.tables e below F (T1.setTop (mkF m 6 #[.val (.ref a), .val (.ref b)] [(.ref b), (.ref a)]))
  obtain ⟨T2, h2, X2, e2, W2, st2⟩ := putF X1 hx hZ hown (host := "") (Or.inl (hw _ (List.mem_of_getElem? (i := 83) rfl))) Via.refl e1 F_value E_a (Or.inr ⟨(hw _ (List.mem_of_getElem? (i := 84) rfl)), rfl, hnm⟩) (hw _ (List.mem_of_getElem? (i := 73) rfl)) (ty := (.object "java/lang/Object")) (by decide) rfl rfl (g := (mkF m 6 #[.val (.ref a), .val (.ref b)] [(.ref b), (.ref a)])) rfl rfl (hb hby d16_6)
  have Fw2 := F_value.same W2
  have f2_1 := E_a.wr W2
  have Z2 : n0 ≤ h2.size := by rw [W2.size]; exact Z0
  have K2 := Keep.wr (Keep.refl h0 [a]) W2 (Or.inl (by simp))
  have N2 := Fr.snoc X2 N0 g_a
  refine own_go st2 ?_
  show own_Gl p.tables e below F (T2.setTop (mkF m 9 #[.val (.ref a), .val (.ref b)] []))
  obtain ⟨fs, hr, hrun, hended, hW, hsame⟩ := X2.leave (v := none) (fun _ => rfl)
  subst hF
  refine own_fin ?_ ⟨hrun, hended, _, _, rfl, ?_, ⟨_, rfl⟩, hW, hsame.mono (by first | decide | exact Nat.le_of_ble_eq_true rfl) (by first | decide | exact Nat.le_of_ble_eq_true rfl)⟩
  · exact X2.returnOut hx Bd.returns (hb hby d16_9) hr
  · show Q_rmOi Z _ _ h0 n0 _ T2.heap _
    rw [e2]
    exact ⟨rfl, N2, K2, f2_1, Fw2⟩
theorem ef_rm14 (m : MethodId) (x0 : Addr) : entryFrame m #[(.ref x0)] 1 = mkF m 0 #[.val (.ref x0)] [] := by first | (simp [entryFrame, mkF, argsToLocals, Value.category]; done) | rfl
theorem d14_0 : decode jdk_32_method_3_code 0 = .ok (.new 2, 3) := by decide +kernel
theorem d14_3 : decode jdk_32_method_3_code 3 = .ok (.dup, 1) := by decide +kernel
theorem d14_4 : decode jdk_32_method_3_code 4 = .ok (.aload_n 0, 1) := by decide +kernel
theorem d14_5 : decode jdk_32_method_3_code 5 = .ok (.invokestatic 17, 3) := by decide +kernel
theorem pd_9 : parseMethodDescriptor "(Ljava/lang/Object;)Ljava/lang/Object;" = some ⟨[(.object "java/lang/Object")], some (.object "java/lang/Object")⟩ := by decide +kernel
theorem d14_8 : decode jdk_32_method_3_code 8 = .ok (.invokespecial 23, 3) := by decide +kernel
theorem pd_10 : parseMethodDescriptor "(Ljava/lang/Object;)V" = some ⟨[(.object "java/lang/Object")], none⟩ := by decide +kernel
theorem d14_11 : decode jdk_32_method_3_code 11 = .ok (.areturn, 1) := by decide +kernel
def Q_rm14 (Z : State) (b : Addr) (h0 : Heap) (n0 : Nat) (v : Option Value) (h : Heap) (L : List Loc) : Prop := ∃ x : Addr, v = some (.ref x) ∧ Fr n0 L ∧ Keep h0 h []
set_option maxRecDepth 65536 in
set_option maxHeartbeats 40000000 in
theorem rm14 (l : Launch) (Z : State) (a0 : Array Value) (hw : ∀ d ∈ tables_1, d.before a0 Z = true) (ws : List Jvm.Cond) (b : Addr) (h0 : Heap) (n0 : Nat) (Z0 : n0 ≤ h0.size) :
    MetFree l (⟨"java/util/Optional", "of", "(Ljava/lang/Object;)Ljava/util/Optional;"⟩ : MethodName) (head1 (Jvm.Cond.code (⟨"java/util/Optional", "of", "(Ljava/lang/Object;)Ljava/util/Optional;"⟩ : MethodName) jdk_32_method_3_code 1 (some (.object "java/util/Optional")) :: ws) ({ frames := 2, cells := 1, slots := 1, locals := 26 } : Room)) (fun ag U => ag = #[(.ref b)] ∧ Z.Warmed39 U.vm ∧ U.heap = h0) (fun _ _ _ _ _ => True) (fun _ U o U' => ∃ v L, o = .returned v ∧ Q_rm14 Z b h0 n0 v U'.heap L ∧ FrameEnd U o U' L ({ frames := 2, cells := 1, slots := 1, locals := 26 } : Room).cells ({ frames := 2, cells := 1, slots := 1, locals := 26 } : Room).slots) := by
  refine MetFree.of_bodySF (plainFor_of_name pn_9) hisR ?_
  intro p e s m args below meth c s₁ Bd hml0 hP hK
  obtain ⟨rfl, hZ, hh⟩ := hP
  have hx := Bd.exec
  have hby := Bd.bytes
  have hml : c.maxLocals = 1 := hml0
  have hown : s.vm.findClass "java/util/Optional" = some m.cls := findClass_of_methodNamed Bd.named
  have hnm := (name_of_methodNamed Bd.named Bd.method).1
  have X0 : Stand p l e ({ frames := 2, cells := 1, slots := 1, locals := 26 } : Room) s m #[(.ref b)] below meth c s₁ [] 0 0 := Stand.of_body Bd
  have e0 : s₁.heap = h0 := by rw [← hh, Bd.state]; rfl
  have N0 := Fr.nil n0
  refine own_start (ef_rm14 m b) ?_
  intro F hF
  show own_Gl p.tables e below F (s₁.setTop (mkF m 0 #[.val (.ref b)] []))
  obtain ⟨T1, h1, X1, e1, E1, A1, D1, -, st1⟩ := newO X0 hx hZ hown (hw _ (List.mem_of_getElem? (i := 72) rfl)) (hw _ (List.mem_of_getElem? (i := 73) rfl)) (hw _ (List.mem_of_getElem? (i := 70) rfl)) e0 (g := (mkF m 0 #[.val (.ref b)] [])) rfl (hb hby d14_0) (by first | decide | exact Nat.le_of_ble_eq_true rfl) (by first | decide | exact Nat.le_of_ble_eq_true rfl)
  obtain ⟨b1, g1⟩ : ∃ z, z = h0.size := ⟨_, rfl⟩
  rw [← g1] at A1 D1 st1
  have ge_b1 : n0 ≤ b1 := Nat.le_trans Z0 (Nat.le_of_eq g1.symm)
  have sz_b1 : h0.size ≤ b1 := Nat.le_trans ((Keep.refl h0 [])).1 (Nat.le_of_eq g1.symm)
  have Z1 : n0 ≤ h1.size := Nat.le_trans Z0 E1.1
  have K1 := Keep.ext (Keep.refl h0 []) E1
  have F1_value : Fld Z h1 b1 "java/util/Optional" "value" "Ljava/lang/Object;" .null := D1 (Or.inr (hw _ (List.mem_of_getElem? (i := 84) rfl))) (ty := (.object "java/lang/Object")) (by decide)
  have X1 : Stand _ _ _ _ _ _ _ _ _ _ _ _ 1 1 := X1
  refine own_go st1 ?_
  show own_Gl p.tables e below F (T1.setTop (mkF m 3 #[.val (.ref b)] [(.ref b1)]))
  refine own_go (fun _ k => XS.dup X1.here hx rfl (hb hby d14_3) rfl rfl k) ?_
  show own_Gl p.tables e below F (T1.setTop (mkF m 4 #[.val (.ref b)] [(.ref b1), (.ref b1)]))
  refine own_go (fun _ k => XS.aloadN X1.here hx rfl (hb hby d14_4) rfl rfl k) ?_
  show own_Gl p.tables e below F (T1.setTop (mkF m 5 #[.val (.ref b)] [(.ref b), (.ref b1), (.ref b1)]))
  obtain ⟨_, _, ⟨T2, L2, k2, n2⟩, -, X2, ⟨Lc2, hQ2, l2, y2, z2⟩, st2⟩ := Jvm.LawKit.callS X1 hx (y := (⟨"java/util/Objects", "requireNonNull", "(Ljava/lang/Object;)Ljava/lang/Object;"⟩ : MethodName)) hown (mvT hZ (hw _ (List.mem_of_getElem? (i := 74) rfl))) (mvT hZ (hw _ (List.mem_of_getElem? (i := 75) rfl))) (mvT hZ (hw _ (List.mem_of_getElem? (i := 76) rfl))) (mvT hZ (hw _ (List.mem_of_getElem? (i := 77) rfl))) (by decide) (backOf (W := 2) (rm15 l Z a0 hw [] b  h1 n0 Z1 ) hZ (hw _ (List.mem_of_getElem? (i := 77) rfl)) (hw _ (List.mem_of_getElem? (i := 76) rfl)) (by decide) (by decide)) (g := (mkF m 5 #[.val (.ref b)] [(.ref b), (.ref b1), (.ref b1)])) rfl (by rw [hml]; rfl) (argsL := [(.ref b)]) (rest := [(.ref b1), (.ref b1)]) (lenOf pd_9 rfl) rfl (by show 2 * 0 + _ ≤ _; exact Nat.le_of_eq rfl) (hb hby d14_5) (fun _ _ => ⟨rfl, e1, (by first | decide | exact Nat.le_of_ble_eq_true rfl), (by first | decide | exact Nat.le_of_ble_eq_true rfl)⟩)
  dsimp only [Pt.U, Pt.locs, Pt.cells, Pt.slots] at X2 l2 y2 z2 st2 hQ2
  have X2 := own_sn X2 (k' := 1) (n' := 1) y2 z2
  obtain ⟨rfl, N2, e2⟩ := hQ2
  have NF2 := own_fr l2 N0 N2
  refine own_go st2 ?_
  show own_Gl p.tables e below F (T2.setTop (mkF m 8 #[.val (.ref b)] [(.ref b), (.ref b1), (.ref b1)]))
  obtain ⟨_, _, ⟨T3, L3, k3, n3⟩, -, X3, ⟨Lc3, hQ3, l3, y3, z3⟩, st3⟩ := X2.specialBack hx (y := (⟨"java/util/Optional", "<init>", "(Ljava/lang/Object;)V"⟩ : MethodName)) rfl hown (mvT hZ (hw _ (List.mem_of_getElem? (i := 78) rfl))) (mvT hZ (hw _ (List.mem_of_getElem? (i := 79) rfl))) (mvT hZ (hw _ (List.mem_of_getElem? (i := 81) rfl))) (by decide) (backOf (W := 1) (rmOi l Z a0 hw [] b1 b  h1 n0 Z1 A1 F1_value ge_b1 ) hZ (hw _ (List.mem_of_getElem? (i := 81) rfl)) (hw _ (List.mem_of_getElem? (i := 70) rfl)) (by decide) (by decide)) (g := (mkF m 8 #[.val (.ref b)] [(.ref b), (.ref b1), (.ref b1)])) rfl (by rw [hml]; rfl) (Steps.refl _) (a := b1) (argsL := [(.ref b)]) (rest := [(.ref b1)]) (lenOf pd_10 rfl) rfl (by show 2 * 0 + _ ≤ _; exact Nat.le_of_eq rfl) (hb hby d14_8) (fun _ _ => ⟨rfl, e2, (by first | decide | exact Nat.le_of_ble_eq_true rfl), (by first | decide | exact Nat.le_of_ble_eq_true rfl)⟩)
  dsimp only [Pt.U, Pt.locs, Pt.cells, Pt.slots] at X3 l3 y3 z3 st3 hQ3
  have X3 := own_sn X3 (k' := 1) (n' := 1) y3 z3
  obtain ⟨rfl, N3, K3, G3_E, G3_value⟩ := hQ3
  have NF3 := own_fr l3 NF2 N3
  have f3_1 := A1.keep K3
  have Z3 : n0 ≤ T3.heap.size := Nat.le_trans Z1 K3.1
  have KK3 := Keep.trans K1 K3 (by intro z hz; simp at hz; rcases hz with rfl; all_goals first | (left; simp; done) | (right; assumption))
  refine own_go (fun _ k => st3.trans k) ?_
  show own_Gl p.tables e below F (T3.setTop (mkF m 11 #[.val (.ref b)] [(.ref b1)]))
  obtain ⟨fs, hr, hrun, hended, hW, hsame⟩ := X3.leave (v := some (.ref b1)) (fun h => by rw [Bd.returns] at h; cases h)
  subst hF
  refine own_fin ?_ ⟨hrun, hended, _, _, rfl, ?_, ⟨_, rfl⟩, hW, hsame.mono (by first | decide | exact Nat.le_of_ble_eq_true rfl) (by first | decide | exact Nat.le_of_ble_eq_true rfl)⟩
  · exact own_retA X3 hx Bd.returns rfl rfl (hb hby d14_11) hr
  · show Q_rm14 Z _ h0 n0 _ T3.heap _
    exact ⟨b1, rfl, NF3, KK3⟩
theorem ef_rm30 (m : MethodId)  : entryFrame m #[] 1 = mkF m 0 #[.unset] [] := by first | (simp [entryFrame, mkF, argsToLocals, Value.category]; done) | rfl
theorem d30_0 : decode jdk_32_method_1_code 0 = .ok (.getstatic 1, 3) := by decide +kernel
theorem d30_3 : decode jdk_32_method_1_code 3 = .ok (.astore_n 0, 1) := by decide +kernel
theorem d30_4 : decode jdk_32_method_1_code 4 = .ok (.aload_n 0, 1) := by decide +kernel
theorem d30_5 : decode jdk_32_method_1_code 5 = .ok (.areturn, 1) := by decide +kernel
def Q_rm30 (Z : State) (oe : Addr) (h0 : Heap) (n0 : Nat) (v : Option Value) (h : Heap) (L : List Loc) : Prop := v = some (.ref oe) ∧ Fr n0 L ∧ h = h0
set_option maxRecDepth 65536 in
set_option maxHeartbeats 40000000 in
theorem rm30 (l : Launch) (Z : State) (a0 : Array Value) (hw : ∀ d ∈ tables_1, d.before a0 Z = true) (ws : List Jvm.Cond) (oe : Addr) (h0 : Heap) (n0 : Nat) (Z0 : n0 ≤ h0.size) (OO : Old Z n0 h0) (SE : Sta Z Z.heap "java/util/Optional" "EMPTY" "Ljava/util/Optional;" (.ref oe)) :
    MetFree l (⟨"java/util/Optional", "empty", "()Ljava/util/Optional;"⟩ : MethodName) (head1 (Jvm.Cond.code (⟨"java/util/Optional", "empty", "()Ljava/util/Optional;"⟩ : MethodName) jdk_32_method_1_code 1 (some (.object "java/util/Optional")) :: ws) ({ frames := 0, cells := 0, slots := 0, locals := 0 } : Room)) (fun ag U => ag = #[] ∧ Z.Warmed39 U.vm ∧ U.heap = h0) (fun _ _ _ _ _ => True) (fun _ U o U' => ∃ v L, o = .returned v ∧ Q_rm30 Z oe h0 n0 v U'.heap L ∧ FrameEnd U o U' L ({ frames := 0, cells := 0, slots := 0, locals := 0 } : Room).cells ({ frames := 0, cells := 0, slots := 0, locals := 0 } : Room).slots) := by
  refine MetFree.of_bodySF (plainFor_of_name pn_9) hisR ?_
  intro p e s m args below meth c s₁ Bd hml0 hP hK
  obtain ⟨rfl, hZ, hh⟩ := hP
  have hx := Bd.exec
  have hby := Bd.bytes
  have hml : c.maxLocals = 1 := hml0
  have hown : s.vm.findClass "java/util/Optional" = some m.cls := findClass_of_methodNamed Bd.named
  have hnm := (name_of_methodNamed Bd.named Bd.method).1
  have X0 : Stand p l e ({ frames := 0, cells := 0, slots := 0, locals := 0 } : Room) s m #[] below meth c s₁ [] 0 0 := Stand.of_body Bd
  have e0 : s₁.heap = h0 := by rw [← hh, Bd.state]; rfl
  have N0 := Fr.nil n0
  refine own_start (ef_rm30 m ) ?_
  intro F hF
  show own_Gl p.tables e below F (s₁.setTop (mkF m 0 #[.unset] []))
  have U0 := SE.ext OO.2
  obtain ⟨T1, X1, e1, st1⟩ := getS2 X0 hx hZ hown (host := "") (Or.inl (hw _ (List.mem_of_getElem? (i := 184) rfl))) Via.refl e0 U0 (g := (mkF m 0 #[.unset] [])) rfl (hb hby d30_0)
  refine own_go st1 ?_
  show own_Gl p.tables e below F (T1.setTop (mkF m 3 #[.unset] [(.ref oe)]))
  refine own_go (fun _ k => XS.astoreN X1.here hx rfl (hb hby d30_3) rfl rfl (l' := #[.val (.ref oe)]) rfl k) ?_
  show own_Gl p.tables e below F (T1.setTop (mkF m 4 #[.val (.ref oe)] []))
  refine own_go (fun _ k => XS.aloadN X1.here hx rfl (hb hby d30_4) rfl rfl k) ?_
  show own_Gl p.tables e below F (T1.setTop (mkF m 5 #[.val (.ref oe)] [(.ref oe)]))
  obtain ⟨fs, hr, hrun, hended, hW, hsame⟩ := X1.leave (v := some (.ref oe)) (fun h => by rw [Bd.returns] at h; cases h)
  subst hF
  refine own_fin ?_ ⟨hrun, hended, _, _, rfl, ?_, ⟨_, rfl⟩, hW, hsame.mono (by first | decide | exact Nat.le_of_ble_eq_true rfl) (by first | decide | exact Nat.le_of_ble_eq_true rfl)⟩
  · exact own_retA X1 hx Bd.returns rfl rfl (hb hby d30_5) hr
  · show Q_rm30 Z _ h0 n0 _ T1.heap _
    rw [e1]
    exact ⟨rfl, N0, rfl⟩
theorem ef_rmC3_1 (m : MethodId) (x0 : Addr) (x1 : Int32) (x2 : Addr) : entryFrame m #[(.ref x0), (.int x1), (.ref x2)] 4 = mkF m 0 #[.val (.ref x0), .val (.int x1), .val (.ref x2), .unset] [] := by first | (simp [entryFrame, mkF, argsToLocals, Value.category]; done) | rfl
theorem pn_10 : plainName "java/util/Arrays" = true := by first | (simp [plainName, overriddenIn]; done) | decide +kernel
theorem d33_0 : decode jdk_65_method_120_code 0 = .ok (.aload_n 2, 1) := by decide +kernel
theorem d33_1 : decode jdk_65_method_120_code 1 = .ok (.ldc 110, 2) := by decide +kernel
theorem d33_3 : decode jdk_65_method_120_code 3 = .ok (.if_acmp .ne 10, 3) := by decide +kernel
theorem d33_6 : decode jdk_65_method_120_code 6 = .ok (.iload_n 1, 1) := by decide +kernel
theorem d33_7 : decode jdk_65_method_120_code 7 = .ok (.anewarray 2, 3) := by decide +kernel
theorem d33_10 : decode jdk_65_method_120_code 10 = .ok (.goto 14, 3) := by decide +kernel
theorem d33_24 : decode jdk_65_method_120_code 24 = .ok (.astore_n 3, 1) := by decide +kernel
theorem d33_25 : decode jdk_65_method_120_code 25 = .ok (.aload_n 0, 1) := by decide +kernel
theorem d33_26 : decode jdk_65_method_120_code 26 = .ok (.iconst 0, 1) := by decide +kernel
theorem d33_27 : decode jdk_65_method_120_code 27 = .ok (.aload_n 3, 1) := by decide +kernel
theorem d33_28 : decode jdk_65_method_120_code 28 = .ok (.iconst 0, 1) := by decide +kernel
theorem d33_29 : decode jdk_65_method_120_code 29 = .ok (.aload_n 0, 1) := by decide +kernel
theorem d33_30 : decode jdk_65_method_120_code 30 = .ok (.arraylength, 1) := by decide +kernel
theorem d33_31 : decode jdk_65_method_120_code 31 = .ok (.iload_n 1, 1) := by decide +kernel
theorem d33_32 : decode jdk_65_method_120_code 32 = .ok (.invokestatic 304, 3) := by decide +kernel
theorem d33_35 : decode jdk_65_method_120_code 35 = .ok (.invokestatic 150, 3) := by decide +kernel
theorem d33_38 : decode jdk_65_method_120_code 38 = .ok (.aload_n 3, 1) := by decide +kernel
theorem d33_39 : decode jdk_65_method_120_code 39 = .ok (.areturn, 1) := by decide +kernel
def Q_rmC3_1 (Z : State) (b mi : Addr) (kb : ClassId) (x0 : Addr) (h0 : Heap) (n0 : Nat) (v : Option Value) (h : Heap) (L : List Loc) : Prop := ∃ (t : Addr) (kt : ClassId), v = some (.ref t) ∧ Fr n0 L ∧ Keep h0 h [] ∧ h0.size ≤ t ∧ Arv Z h t kt (.object "java/lang/Object") 1 [(.ref x0)] .null ∧ Ovr Z kt "java/lang/Object"
set_option maxRecDepth 65536 in
set_option maxHeartbeats 40000000 in
theorem rmC3_1 (l : Launch) (Z : State) (a0 : Array Value) (hw : ∀ d ∈ tables_1, d.before a0 Z = true) (ws : List Jvm.Cond) (b mi : Addr) (kb : ClassId) (x0 : Addr) (h0 : Heap) (n0 : Nat) (Z0 : n0 ≤ h0.size) (VB : Arv Z h0 b kb (.object "java/lang/Object") 10 [(.ref x0), .null, .null, .null, .null, .null, .null, .null, .null, .null] .null) (EB : Exa Z h0 b "[Ljava/lang/Object;") (MI : Mir Z "[Ljava/lang/Object;" mi) (EX0 : Exa Z h0 x0 "java/lang/String") :
    MetFree l (⟨"java/util/Arrays", "copyOf", "([Ljava/lang/Object;ILjava/lang/Class;)[Ljava/lang/Object;"⟩ : MethodName) (head1 (Jvm.Cond.code (⟨"java/util/Arrays", "copyOf", "([Ljava/lang/Object;ILjava/lang/Class;)[Ljava/lang/Object;"⟩ : MethodName) jdk_65_method_120_code 4 (some (.array (.object "java/lang/Object"))) :: ws) ({ frames := 1, cells := 1, slots := 1, locals := 60 } : Room)) (fun ag U => ag = #[(.ref b), (.int (1 : Int32)), (.ref mi)] ∧ Z.Warmed39 U.vm ∧ U.heap = h0) (fun _ _ _ _ _ => True) (fun _ U o U' => ∃ v L, o = .returned v ∧ Q_rmC3_1 Z b mi kb x0 h0 n0 v U'.heap L ∧ FrameEnd U o U' L ({ frames := 1, cells := 1, slots := 1, locals := 60 } : Room).cells ({ frames := 1, cells := 1, slots := 1, locals := 60 } : Room).slots) := by
  refine MetFree.of_bodySF (plainFor_of_name pn_10) hisR ?_
  intro p e s m args below meth c s₁ Bd hml0 hP hK
  obtain ⟨rfl, hZ, hh⟩ := hP
  have hx := Bd.exec
  have hby := Bd.bytes
  have hml : c.maxLocals = 4 := hml0
  have hown : s.vm.findClass "java/util/Arrays" = some m.cls := findClass_of_methodNamed Bd.named
  have hnm := (name_of_methodNamed Bd.named Bd.method).1
  have X0 : Stand p l e ({ frames := 1, cells := 1, slots := 1, locals := 60 } : Room) s m #[(.ref b), (.int (1 : Int32)), (.ref mi)] below meth c s₁ [] 0 0 := Stand.of_body Bd
  have e0 : s₁.heap = h0 := by rw [← hh, Bd.state]; rfl
  have N0 := Fr.nil n0
  refine own_start (ef_rmC3_1 m b (1 : Int32) mi) ?_
  intro F hF
  show own_Gl p.tables e below F (s₁.setTop (mkF m 0 #[.val (.ref b), .val (.int (1 : Int32)), .val (.ref mi), .unset] []))
  refine own_go (fun _ k => XS.aloadN X0.here hx rfl (hb hby d33_0) rfl rfl k) ?_
  show own_Gl p.tables e below F (s₁.setTop (mkF m 1 #[.val (.ref b), .val (.int (1 : Int32)), .val (.ref mi), .unset] [(.ref mi)]))
  obtain ⟨vmM, XM, stM⟩ := X0.ldcMirror hx hown (mvT hZ (hw _ (List.mem_of_getElem? (i := 206) rfl))) (own_mirev hZ MI) (g := (mkF m 1 #[.val (.ref b), .val (.int (1 : Int32)), .val (.ref mi), .unset] [(.ref mi)])) rfl (hb hby d33_1)
  have eM : (s₁.setVm vmM).heap = h0 := e0
  refine own_go stM ?_
  show own_Gl p.tables e below F ((s₁.setVm vmM).setTop (mkF m 3 #[.val (.ref b), .val (.int (1 : Int32)), .val (.ref mi), .unset] [(.ref mi), (.ref mi)]))
  refine own_go (fun _ k => Jvm.RoadKit.acmp (g := (mkF m 3 #[.val (.ref b), .val (.int (1 : Int32)), .val (.ref mi), .unset] [(.ref mi), (.ref mi)])) XM hx rfl rfl rfl (pc0 := 3) (pc' := 6) (same := true) rfl (hb hby d33_3) rfl (decide_eq_true rfl) (by decide) (by decide) k) ?_
  show own_Gl p.tables e below F ((s₁.setVm vmM).setTop (mkF m 6 #[.val (.ref b), .val (.int (1 : Int32)), .val (.ref mi), .unset] []))
  refine own_go (fun _ k => XS.iloadN XM.here hx rfl (hb hby d33_6) rfl k) ?_
  show own_Gl p.tables e below F ((s₁.setVm vmM).setTop (mkF m 7 #[.val (.ref b), .val (.int (1 : Int32)), .val (.ref mi), .unset] [(.int (1 : Int32))]))
  obtain ⟨T1, h1, k1, X1, e1, E1, A1, O1, st1⟩ := newR XM hx hZ hown (hw _ (List.mem_of_getElem? (i := 207) rfl)) (hw _ (List.mem_of_getElem? (i := 179) rfl)) eM (g := (mkF m 7 #[.val (.ref b), .val (.int (1 : Int32)), .val (.ref mi), .unset] [(.int (1 : Int32))])) rfl (hb hby d33_7) rfl (by decide) (cap := 1) (by decide) (by decide) (by decide) (by decide)
  obtain ⟨b1, g1⟩ : ∃ z, z = h0.size := ⟨_, rfl⟩
  rw [← g1] at A1 st1
  have ne_b_b1 : b ≠ b1 := Nat.ne_of_lt (Nat.lt_of_lt_of_le VB.lt (Nat.le_of_eq g1.symm))
  have ne_x0_b1 : x0 ≠ b1 := Nat.ne_of_lt (Nat.lt_of_lt_of_le EX0.lt (Nat.le_of_eq g1.symm))
  have ge_b1 : n0 ≤ b1 := Nat.le_trans Z0 (Nat.le_of_eq g1.symm)
  have sz_b1 : h0.size ≤ b1 := Nat.le_trans ((Keep.refl h0 [])).1 (Nat.le_of_eq g1.symm)
  have f1_0 := VB.ext E1
  have f1_1 := EB.ext E1
  have f1_2 := EX0.ext E1
  have Z1 : n0 ≤ h1.size := Nat.le_trans Z0 E1.1
  have K1 := Keep.ext (Keep.refl h0 []) E1
  have V1 : Arv Z h1 b1 k1 (.object "java/lang/Object") (1 : Int32) [.null] .null := (Arv.new A1 (by decide)).pad (pad_rep [] .null 1)
  have X1 : Stand _ _ _ _ _ _ _ _ _ _ _ _ 1 1 := X1
  refine own_go st1 ?_
  show own_Gl p.tables e below F (T1.setTop (mkF m 10 #[.val (.ref b), .val (.int (1 : Int32)), .val (.ref mi), .unset] [(.ref b1)]))
  refine own_go (fun _ k => XS.goto X1.here hx rfl (pc0 := 10) (pc' := 24) rfl (hb hby d33_10) (by decide) (by decide) k) ?_
  show own_Gl p.tables e below F (T1.setTop (mkF m 24 #[.val (.ref b), .val (.int (1 : Int32)), .val (.ref mi), .unset] [(.ref b1)]))
  refine own_go (fun _ k => XS.astoreN X1.here hx rfl (hb hby d33_24) rfl rfl (l' := #[.val (.ref b), .val (.int (1 : Int32)), .val (.ref mi), .val (.ref b1)]) rfl k) ?_
  show own_Gl p.tables e below F (T1.setTop (mkF m 25 #[.val (.ref b), .val (.int (1 : Int32)), .val (.ref mi), .val (.ref b1)] []))
  refine own_go (fun _ k => XS.aloadN X1.here hx rfl (hb hby d33_25) rfl rfl k) ?_
  show own_Gl p.tables e below F (T1.setTop (mkF m 26 #[.val (.ref b), .val (.int (1 : Int32)), .val (.ref mi), .val (.ref b1)] [(.ref b)]))
  refine own_go (fun _ k => XS.iconst X1.here hx rfl (hb hby d33_26) k) ?_
  show own_Gl p.tables e below F (T1.setTop (mkF m 27 #[.val (.ref b), .val (.int (1 : Int32)), .val (.ref mi), .val (.ref b1)] [(.int (0 : Int32)), (.ref b)]))
  refine own_go (fun _ k => XS.aloadN X1.here hx rfl (hb hby d33_27) rfl rfl k) ?_
  show own_Gl p.tables e below F (T1.setTop (mkF m 28 #[.val (.ref b), .val (.int (1 : Int32)), .val (.ref mi), .val (.ref b1)] [(.ref b1), (.int (0 : Int32)), (.ref b)]))
  refine own_go (fun _ k => XS.iconst X1.here hx rfl (hb hby d33_28) k) ?_
  show own_Gl p.tables e below F (T1.setTop (mkF m 29 #[.val (.ref b), .val (.int (1 : Int32)), .val (.ref mi), .val (.ref b1)] [(.int (0 : Int32)), (.ref b1), (.int (0 : Int32)), (.ref b)]))
  refine own_go (fun _ k => XS.aloadN X1.here hx rfl (hb hby d33_29) rfl rfl k) ?_
  show own_Gl p.tables e below F (T1.setTop (mkF m 30 #[.val (.ref b), .val (.int (1 : Int32)), .val (.ref mi), .val (.ref b1)] [(.ref b), (.int (0 : Int32)), (.ref b1), (.int (0 : Int32)), (.ref b)]))
  obtain ⟨cl2, Ar2, ak2, aS2, aN2, aH2, aG2⟩ := id f1_0
  refine own_go (fun _ k => X1.arraylength hx (by rw [e1]; exact Ar2.1) (State.isArrayOf_alike hZ.alike Ar2.2.1) (g := (mkF m 30 #[.val (.ref b), .val (.int (1 : Int32)), .val (.ref mi), .val (.ref b1)] [(.ref b), (.int (0 : Int32)), (.ref b1), (.int (0 : Int32)), (.ref b)])) rfl rfl (hb hby d33_30) _ k) ?_
  rw [len_of aS2 aN2]
  show own_Gl p.tables e below F (T1.setTop (mkF m 31 #[.val (.ref b), .val (.int (1 : Int32)), .val (.ref mi), .val (.ref b1)] [(.int (10 : Int32)), (.int (0 : Int32)), (.ref b1), (.int (0 : Int32)), (.ref b)]))
  refine own_go (fun _ k => XS.iloadN X1.here hx rfl (hb hby d33_31) rfl k) ?_
  show own_Gl p.tables e below F (T1.setTop (mkF m 32 #[.val (.ref b), .val (.int (1 : Int32)), .val (.ref mi), .val (.ref b1)] [(.int (1 : Int32)), (.int (10 : Int32)), (.int (0 : Int32)), (.ref b1), (.int (0 : Int32)), (.ref b)]))
  obtain ⟨_, _, ⟨T3, L3, k3, n3⟩, -, X3, ⟨Lc3, hQ3, l3, y3, z3⟩, st3⟩ := Jvm.LawKit.callS X1 hx (y := (⟨"java/lang/Math", "min", "(II)I"⟩ : MethodName)) hown (mvT hZ (hw _ (List.mem_of_getElem? (i := 208) rfl))) (mvT hZ (hw _ (List.mem_of_getElem? (i := 209) rfl))) (mvT hZ (hw _ (List.mem_of_getElem? (i := 176) rfl))) (mvT hZ (hw _ (List.mem_of_getElem? (i := 210) rfl))) (by decide) (backOf (W := 4) (rm34 l Z a0 hw [] (10 : Int32) (1 : Int32)  h1 n0 Z1 ) hZ (hw _ (List.mem_of_getElem? (i := 210) rfl)) (hw _ (List.mem_of_getElem? (i := 176) rfl)) (by decide) (by decide)) (g := (mkF m 32 #[.val (.ref b), .val (.int (1 : Int32)), .val (.ref mi), .val (.ref b1)] [(.int (1 : Int32)), (.int (10 : Int32)), (.int (0 : Int32)), (.ref b1), (.int (0 : Int32)), (.ref b)])) rfl (by rw [hml]; rfl) (argsL := [(.int (10 : Int32)), (.int (1 : Int32))]) (rest := [(.int (0 : Int32)), (.ref b1), (.int (0 : Int32)), (.ref b)]) (lenOf pd_5 rfl) rfl (by show 2 * 0 + _ ≤ _; exact Nat.le_of_eq rfl) (hb hby d33_32) (fun _ _ => ⟨rfl, e1, (by first | decide | exact Nat.le_of_ble_eq_true rfl), (by first | decide | exact Nat.le_of_ble_eq_true rfl)⟩)
  dsimp only [Pt.U, Pt.locs, Pt.cells, Pt.slots] at X3 l3 y3 z3 st3 hQ3
  have X3 := own_sn X3 (k' := 1) (n' := 1) y3 z3
  obtain ⟨rfl, N3, e3⟩ := hQ3
  have NF3 := own_fr l3 N0 N3
  refine own_go st3 ?_
  show own_Gl p.tables e below F (T3.setTop (mkF m 35 #[.val (.ref b), .val (.int (1 : Int32)), .val (.ref mi), .val (.ref b1)] [(.int (own_minI (10 : Int32) (1 : Int32))), (.int (0 : Int32)), (.ref b1), (.int (0 : Int32)), (.ref b)]))
  rw [(by decide : own_minI (10 : Int32) (1 : Int32) = (1 : Int32))]
  show own_Gl p.tables e below F (T3.setTop (mkF m 35 #[.val (.ref b), .val (.int (1 : Int32)), .val (.ref mi), .val (.ref b1)] [(.int (1 : Int32)), (.int (0 : Int32)), (.ref b1), (.int (0 : Int32)), (.ref b)]))
  obtain ⟨clT, ArT, akT, -, -, -, -⟩ := id V1
  obtain ⟨TC, hC, LC, XC, eC, NC, KC, VC, stC⟩ := cpA X3 hx hZ hown (hw _ (List.mem_of_getElem? (i := 211) rfl)) (hw _ (List.mem_of_getElem? (i := 214) rfl)) (hw _ (List.mem_of_getElem? (i := 212) rfl)) (hw _ (List.mem_of_getElem? (i := 213) rfl)) e3 (sp := (0 : Int32)) (dp := (0 : Int32)) (nn := (1 : Int32)) (us := [(.ref x0)]) f1_0 V1 (Or.inr ⟨rfl, rfl, ⟨Sto.ofV ArT akT O1 (Ins.of_exa f1_2 (hw _ (List.mem_of_getElem? (i := 180) rfl))), trivial⟩⟩) (by decide) (by decide) (by decide) (by decide) (by decide) rfl (by decide) NF3 ge_b1 (g := (mkF m 35 #[.val (.ref b), .val (.int (1 : Int32)), .val (.ref mi), .val (.ref b1)] [(.int (1 : Int32)), (.int (0 : Int32)), (.ref b1), (.int (0 : Int32)), (.ref b)])) rfl (by rw [hml]; rfl) rfl (hb hby d33_35) (by decide) (W := 0) (by show 2 * 0 + _ ≤ _; exact Nat.le_of_eq rfl) (by decide)
  have VT : Arv Z hC b1 k1 (.object "java/lang/Object") 1 [(.ref x0)] .null := VC
  have KZ : Keep h0 hC [] := Keep.trans K1 KC (allS (Or.inr sz_b1) all0)
  refine own_go stC ?_
  show own_Gl p.tables e below F (TC.setTop (mkF m 38 #[.val (.ref b), .val (.int (1 : Int32)), .val (.ref mi), .val (.ref b1)] []))
  refine own_go (fun _ k => XS.aloadN XC.here hx rfl (hb hby d33_38) rfl rfl k) ?_
  show own_Gl p.tables e below F (TC.setTop (mkF m 39 #[.val (.ref b), .val (.int (1 : Int32)), .val (.ref mi), .val (.ref b1)] [(.ref b1)]))
  obtain ⟨fs, hr, hrun, hended, hW, hsame⟩ := XC.leave (v := some (.ref b1)) (fun h => by rw [Bd.returns] at h; cases h)
  subst hF
  refine own_fin ?_ ⟨hrun, hended, _, _, rfl, ?_, ⟨_, rfl⟩, hW, hsame.mono (by first | decide | exact Nat.le_of_ble_eq_true rfl) (by first | decide | exact Nat.le_of_ble_eq_true rfl)⟩
  · exact own_retA XC hx Bd.returns rfl rfl (hb hby d33_39) hr
  · show Q_rmC3_1 Z _ _ _ _ h0 n0 _ TC.heap _
    rw [eC]
    exact ⟨b1, k1, rfl, NC, KZ, sz_b1, VT, O1⟩
theorem ef_rmC2_1 (m : MethodId) (x0 : Addr) (x1 : Int32) : entryFrame m #[(.ref x0), (.int x1)] 2 = mkF m 0 #[.val (.ref x0), .val (.int x1)] [] := by first | (simp [entryFrame, mkF, argsToLocals, Value.category]; done) | rfl
theorem d32_0 : decode jdk_65_method_119_code 0 = .ok (.aload_n 0, 1) := by decide +kernel
theorem d32_1 : decode jdk_65_method_119_code 1 = .ok (.iload_n 1, 1) := by decide +kernel
theorem d32_2 : decode jdk_65_method_119_code 2 = .ok (.aload_n 0, 1) := by decide +kernel
theorem d32_3 : decode jdk_65_method_119_code 3 = .ok (.invokevirtual 86, 3) := by decide +kernel
theorem d32_6 : decode jdk_65_method_119_code 6 = .ok (.invokestatic 300, 3) := by decide +kernel
theorem pd_11 : parseMethodDescriptor "([Ljava/lang/Object;ILjava/lang/Class;)[Ljava/lang/Object;" = some ⟨[(.array (.object "java/lang/Object")), .int, (.object "java/lang/Class")], some (.array (.object "java/lang/Object"))⟩ := by decide +kernel
theorem d32_9 : decode jdk_65_method_119_code 9 = .ok (.areturn, 1) := by decide +kernel
def Q_rmC2_1 (Z : State) (b mi : Addr) (kb : ClassId) (x0 : Addr) (h0 : Heap) (n0 : Nat) (v : Option Value) (h : Heap) (L : List Loc) : Prop := ∃ (t : Addr) (kt : ClassId), v = some (.ref t) ∧ Fr n0 L ∧ Keep h0 h [] ∧ h0.size ≤ t ∧ Arv Z h t kt (.object "java/lang/Object") 1 [(.ref x0)] .null ∧ Ovr Z kt "java/lang/Object"
set_option maxRecDepth 65536 in
set_option maxHeartbeats 40000000 in
theorem rmC2_1 (l : Launch) (Z : State) (a0 : Array Value) (hw : ∀ d ∈ tables_1, d.before a0 Z = true) (ws : List Jvm.Cond) (b mi : Addr) (kb : ClassId) (x0 : Addr) (h0 : Heap) (n0 : Nat) (Z0 : n0 ≤ h0.size) (VB : Arv Z h0 b kb (.object "java/lang/Object") 10 [(.ref x0), .null, .null, .null, .null, .null, .null, .null, .null, .null] .null) (EB : Exa Z h0 b "[Ljava/lang/Object;") (MI : Mir Z "[Ljava/lang/Object;" mi) (EX0 : Exa Z h0 x0 "java/lang/String") :
    MetFree l (⟨"java/util/Arrays", "copyOf", "([Ljava/lang/Object;I)[Ljava/lang/Object;"⟩ : MethodName) (head1 (Jvm.Cond.code (⟨"java/util/Arrays", "copyOf", "([Ljava/lang/Object;I)[Ljava/lang/Object;"⟩ : MethodName) jdk_65_method_119_code 2 (some (.array (.object "java/lang/Object"))) :: ws) ({ frames := 2, cells := 1, slots := 1, locals := 75 } : Room)) (fun ag U => ag = #[(.ref b), (.int (1 : Int32))] ∧ Z.Warmed39 U.vm ∧ U.heap = h0) (fun _ _ _ _ _ => True) (fun _ U o U' => ∃ v L, o = .returned v ∧ Q_rmC2_1 Z b mi kb x0 h0 n0 v U'.heap L ∧ FrameEnd U o U' L ({ frames := 2, cells := 1, slots := 1, locals := 75 } : Room).cells ({ frames := 2, cells := 1, slots := 1, locals := 75 } : Room).slots) := by
  refine MetFree.of_bodySF (plainFor_of_name pn_10) hisR ?_
  intro p e s m args below meth c s₁ Bd hml0 hP hK
  obtain ⟨rfl, hZ, hh⟩ := hP
  have hx := Bd.exec
  have hby := Bd.bytes
  have hml : c.maxLocals = 2 := hml0
  have hown : s.vm.findClass "java/util/Arrays" = some m.cls := findClass_of_methodNamed Bd.named
  have hnm := (name_of_methodNamed Bd.named Bd.method).1
  have X0 : Stand p l e ({ frames := 2, cells := 1, slots := 1, locals := 75 } : Room) s m #[(.ref b), (.int (1 : Int32))] below meth c s₁ [] 0 0 := Stand.of_body Bd
  have e0 : s₁.heap = h0 := by rw [← hh, Bd.state]; rfl
  have N0 := Fr.nil n0
  refine own_start (ef_rmC2_1 m b (1 : Int32)) ?_
  intro F hF
  show own_Gl p.tables e below F (s₁.setTop (mkF m 0 #[.val (.ref b), .val (.int (1 : Int32))] []))
  refine own_go (fun _ k => XS.aloadN X0.here hx rfl (hb hby d32_0) rfl rfl k) ?_
  show own_Gl p.tables e below F (s₁.setTop (mkF m 1 #[.val (.ref b), .val (.int (1 : Int32))] [(.ref b)]))
  refine own_go (fun _ k => XS.iloadN X0.here hx rfl (hb hby d32_1) rfl k) ?_
  show own_Gl p.tables e below F (s₁.setTop (mkF m 2 #[.val (.ref b), .val (.int (1 : Int32))] [(.int (1 : Int32)), (.ref b)]))
  refine own_go (fun _ k => XS.aloadN X0.here hx rfl (hb hby d32_2) rfl rfl k) ?_
  show own_Gl p.tables e below F (s₁.setTop (mkF m 3 #[.val (.ref b), .val (.int (1 : Int32))] [(.ref b), (.int (1 : Int32)), (.ref b)]))
  obtain ⟨TG, XG, eG, stG⟩ := gcls X0 hx hZ hown (hw _ (List.mem_of_getElem? (i := 197) rfl)) (hw _ (List.mem_of_getElem? (i := 198) rfl)) (hw _ (List.mem_of_getElem? (i := 109) rfl)) (hw _ (List.mem_of_getElem? (i := 200) rfl)) (hw _ (List.mem_of_getElem? (i := 199) rfl)) (hw _ (List.mem_of_getElem? (i := 201) rfl)) e0 EB MI (g := (mkF m 3 #[.val (.ref b), .val (.int (1 : Int32))] [(.ref b), (.int (1 : Int32)), (.ref b)])) rfl (by rw [hml]; rfl) rfl (hb hby d32_3) (by decide) (W := 2) (by show 2 * 0 + _ ≤ _; exact Nat.le_of_eq rfl) (by decide)
  refine own_go stG ?_
  show own_Gl p.tables e below F (TG.setTop (mkF m 6 #[.val (.ref b), .val (.int (1 : Int32))] [(.ref mi), (.int (1 : Int32)), (.ref b)]))
  obtain ⟨_, _, ⟨T1, L1, k1, n1⟩, -, X1, ⟨Lc1, hQ1, l1, y1, z1⟩, st1⟩ := Jvm.LawKit.callS XG hx (y := (⟨"java/util/Arrays", "copyOf", "([Ljava/lang/Object;ILjava/lang/Class;)[Ljava/lang/Object;"⟩ : MethodName)) hown (mvT hZ (hw _ (List.mem_of_getElem? (i := 203) rfl))) (mvT hZ (hw _ (List.mem_of_getElem? (i := 204) rfl))) (mvT hZ (hw _ (List.mem_of_getElem? (i := 195) rfl))) (mvT hZ (hw _ (List.mem_of_getElem? (i := 205) rfl))) (by decide) (backOf (W := 0) (rmC3_1 l Z a0 hw [] b mi kb x0 h0 n0 Z0 VB EB MI EX0) hZ (hw _ (List.mem_of_getElem? (i := 205) rfl)) (hw _ (List.mem_of_getElem? (i := 195) rfl)) (by decide) (by decide)) (g := (mkF m 6 #[.val (.ref b), .val (.int (1 : Int32))] [(.ref mi), (.int (1 : Int32)), (.ref b)])) rfl (by rw [hml]; rfl) (argsL := [(.ref b), (.int (1 : Int32)), (.ref mi)]) (rest := []) (lenOf pd_11 rfl) rfl (by show 2 * 0 + _ ≤ _; exact Nat.le_of_eq rfl) (hb hby d32_6) (fun _ _ => ⟨rfl, eG, (by first | decide | exact Nat.le_of_ble_eq_true rfl), (by first | decide | exact Nat.le_of_ble_eq_true rfl)⟩)
  dsimp only [Pt.U, Pt.locs, Pt.cells, Pt.slots] at X1 l1 y1 z1 st1 hQ1
  have X1 := own_sn X1 (k' := 1) (n' := 1) y1 z1
  obtain ⟨t1, kt1, rfl, N1, K1, ht1, VT1, OT1⟩ := hQ1
  have NF1 := own_fr l1 N0 N1
  have Z1 : n0 ≤ T1.heap.size := Nat.le_trans Z0 K1.1
  have KK1 := Keep.trans (Keep.refl h0 []) K1 (fun _ q => nomatch q)
  refine own_go st1 ?_
  show own_Gl p.tables e below F (T1.setTop (mkF m 9 #[.val (.ref b), .val (.int (1 : Int32))] [(.ref t1)]))
  obtain ⟨fs, hr, hrun, hended, hW, hsame⟩ := X1.leave (v := some (.ref t1)) (fun h => by rw [Bd.returns] at h; cases h)
  subst hF
  refine own_fin ?_ ⟨hrun, hended, _, _, rfl, ?_, ⟨_, rfl⟩, hW, hsame.mono (by first | decide | exact Nat.le_of_ble_eq_true rfl) (by first | decide | exact Nat.le_of_ble_eq_true rfl)⟩
  · exact own_retA X1 hx Bd.returns rfl rfl (hb hby d32_9) hr
  · show Q_rmC2_1 Z _ _ _ _ h0 n0 _ T1.heap _
    exact ⟨t1, kt1, rfl, NF1, KK1, ht1, VT1, OT1⟩
theorem ef_rmTA_1 (m : MethodId) (x0 : Addr) : entryFrame m #[(.ref x0)] 1 = mkF m 0 #[.val (.ref x0)] [] := by first | (simp [entryFrame, mkF, argsToLocals, Value.category]; done) | rfl
theorem d31_0 : decode jdk_38_method_16_code 0 = .ok (.aload_n 0, 1) := by decide +kernel
theorem d31_1 : decode jdk_38_method_16_code 1 = .ok (.getfield 9, 3) := by decide +kernel
theorem d31_4 : decode jdk_38_method_16_code 4 = .ok (.aload_n 0, 1) := by decide +kernel
theorem d31_5 : decode jdk_38_method_16_code 5 = .ok (.getfield 48, 3) := by decide +kernel
theorem d31_8 : decode jdk_38_method_16_code 8 = .ok (.invokestatic 66, 3) := by decide +kernel
theorem pd_12 : parseMethodDescriptor "([Ljava/lang/Object;I)[Ljava/lang/Object;" = some ⟨[(.array (.object "java/lang/Object")), .int], some (.array (.object "java/lang/Object"))⟩ := by decide +kernel
theorem d31_11 : decode jdk_38_method_16_code 11 = .ok (.areturn, 1) := by decide +kernel
def Q_rmTA_1 (Z : State) (a b mi : Addr) (kb : ClassId) (x0 : Addr) (h0 : Heap) (n0 : Nat) (v : Option Value) (h : Heap) (L : List Loc) : Prop := ∃ (t : Addr) (kt : ClassId), v = some (.ref t) ∧ Fr n0 L ∧ Keep h0 h [] ∧ h0.size ≤ t ∧ Arv Z h t kt (.object "java/lang/Object") 1 [(.ref x0)] .null ∧ Ovr Z kt "java/lang/Object"
set_option maxRecDepth 65536 in
set_option maxHeartbeats 40000000 in
theorem rmTA_1 (l : Launch) (Z : State) (a0 : Array Value) (hw : ∀ d ∈ tables_1, d.before a0 Z = true) (ws : List Jvm.Cond) (a b mi : Addr) (kb : ClassId) (x0 : Addr) (h0 : Heap) (n0 : Nat) (Z0 : n0 ≤ h0.size) (FD : Fld Z h0 a "java/util/ArrayList" "elementData" "[Ljava/lang/Object;" (.ref b)) (FS : Fld Z h0 a "java/util/ArrayList" "size" "I" (.int 1)) (VB : Arv Z h0 b kb (.object "java/lang/Object") 10 [(.ref x0), .null, .null, .null, .null, .null, .null, .null, .null, .null] .null) (EB : Exa Z h0 b "[Ljava/lang/Object;") (MI : Mir Z "[Ljava/lang/Object;" mi) (EX0 : Exa Z h0 x0 "java/lang/String") :
    MetFree l (⟨"java/util/ArrayList", "toArray", "()[Ljava/lang/Object;"⟩ : MethodName) (head1 (Jvm.Cond.code (⟨"java/util/ArrayList", "toArray", "()[Ljava/lang/Object;"⟩ : MethodName) jdk_38_method_16_code 1 (some (.array (.object "java/lang/Object"))) :: ws) ({ frames := 3, cells := 1, slots := 1, locals := 88 } : Room)) (fun ag U => ag = #[(.ref a)] ∧ Z.Warmed39 U.vm ∧ U.heap = h0) (fun _ _ _ _ _ => True) (fun _ U o U' => ∃ v L, o = .returned v ∧ Q_rmTA_1 Z a b mi kb x0 h0 n0 v U'.heap L ∧ FrameEnd U o U' L ({ frames := 3, cells := 1, slots := 1, locals := 88 } : Room).cells ({ frames := 3, cells := 1, slots := 1, locals := 88 } : Room).slots) := by
  refine MetFree.of_bodySF (plainFor_of_name pn_8) hisR ?_
  intro p e s m args below meth c s₁ Bd hml0 hP hK
  obtain ⟨rfl, hZ, hh⟩ := hP
  have hx := Bd.exec
  have hby := Bd.bytes
  have hml : c.maxLocals = 1 := hml0
  have hown : s.vm.findClass "java/util/ArrayList" = some m.cls := findClass_of_methodNamed Bd.named
  have hnm := (name_of_methodNamed Bd.named Bd.method).1
  have X0 : Stand p l e ({ frames := 3, cells := 1, slots := 1, locals := 88 } : Room) s m #[(.ref a)] below meth c s₁ [] 0 0 := Stand.of_body Bd
  have e0 : s₁.heap = h0 := by rw [← hh, Bd.state]; rfl
  have N0 := Fr.nil n0
  refine own_start (ef_rmTA_1 m a) ?_
  intro F hF
  show own_Gl p.tables e below F (s₁.setTop (mkF m 0 #[.val (.ref a)] []))
  refine own_go (fun _ k => XS.aloadN X0.here hx rfl (hb hby d31_0) rfl rfl k) ?_
  show own_Gl p.tables e below F (s₁.setTop (mkF m 1 #[.val (.ref a)] [(.ref a)]))
  obtain ⟨T1, X1, e1, st1⟩ := getF X0 hx hZ hown (host := "") (Or.inl (hw _ (List.mem_of_getElem? (i := 66) rfl))) Via.refl e0 FD (g := (mkF m 1 #[.val (.ref a)] [(.ref a)])) rfl rfl (hb hby d31_1)
  refine own_go st1 ?_
  show own_Gl p.tables e below F (T1.setTop (mkF m 4 #[.val (.ref a)] [(.ref b)]))
  refine own_go (fun _ k => XS.aloadN X1.here hx rfl (hb hby d31_4) rfl rfl k) ?_
  show own_Gl p.tables e below F (T1.setTop (mkF m 5 #[.val (.ref a)] [(.ref a), (.ref b)]))
  obtain ⟨T2, X2, e2, st2⟩ := getF X1 hx hZ hown (host := "") (Or.inl (hw _ (List.mem_of_getElem? (i := 120) rfl))) Via.refl e1 FS (g := (mkF m 5 #[.val (.ref a)] [(.ref a), (.ref b)])) rfl rfl (hb hby d31_5)
  refine own_go st2 ?_
  show own_Gl p.tables e below F (T2.setTop (mkF m 8 #[.val (.ref a)] [(.int (1 : Int32)), (.ref b)]))
  obtain ⟨_, _, ⟨T3, L3, k3, n3⟩, -, X3, ⟨Lc3, hQ3, l3, y3, z3⟩, st3⟩ := Jvm.LawKit.callS X2 hx (y := (⟨"java/util/Arrays", "copyOf", "([Ljava/lang/Object;I)[Ljava/lang/Object;"⟩ : MethodName)) hown (mvT hZ (hw _ (List.mem_of_getElem? (i := 193) rfl))) (mvT hZ (hw _ (List.mem_of_getElem? (i := 194) rfl))) (mvT hZ (hw _ (List.mem_of_getElem? (i := 195) rfl))) (mvT hZ (hw _ (List.mem_of_getElem? (i := 196) rfl))) (by decide) (backOf (W := 0) (rmC2_1 l Z a0 hw [] b mi kb x0 h0 n0 Z0 VB EB MI EX0) hZ (hw _ (List.mem_of_getElem? (i := 196) rfl)) (hw _ (List.mem_of_getElem? (i := 195) rfl)) (by decide) (by decide)) (g := (mkF m 8 #[.val (.ref a)] [(.int (1 : Int32)), (.ref b)])) rfl (by rw [hml]; rfl) (argsL := [(.ref b), (.int (1 : Int32))]) (rest := []) (lenOf pd_12 rfl) rfl (by show 2 * 0 + _ ≤ _; exact Nat.le_of_eq rfl) (hb hby d31_8) (fun _ _ => ⟨rfl, e2, (by first | decide | exact Nat.le_of_ble_eq_true rfl), (by first | decide | exact Nat.le_of_ble_eq_true rfl)⟩)
  dsimp only [Pt.U, Pt.locs, Pt.cells, Pt.slots] at X3 l3 y3 z3 st3 hQ3
  have X3 := own_sn X3 (k' := 1) (n' := 1) y3 z3
  obtain ⟨t3, kt3, rfl, N3, K3, ht3, VT3, OT3⟩ := hQ3
  have NF3 := own_fr l3 N0 N3
  have Z3 : n0 ≤ T3.heap.size := Nat.le_trans Z0 K3.1
  have KK3 := Keep.trans (Keep.refl h0 []) K3 (fun _ q => nomatch q)
  refine own_go st3 ?_
  show own_Gl p.tables e below F (T3.setTop (mkF m 11 #[.val (.ref a)] [(.ref t3)]))
  obtain ⟨fs, hr, hrun, hended, hW, hsame⟩ := X3.leave (v := some (.ref t3)) (fun h => by rw [Bd.returns] at h; cases h)
  subst hF
  refine own_fin ?_ ⟨hrun, hended, _, _, rfl, ?_, ⟨_, rfl⟩, hW, hsame.mono (by first | decide | exact Nat.le_of_ble_eq_true rfl) (by first | decide | exact Nat.le_of_ble_eq_true rfl)⟩
  · exact own_retA X3 hx Bd.returns rfl rfl (hb hby d31_11) hr
  · show Q_rmTA_1 Z _ _ _ _ _ h0 n0 _ T3.heap _
    exact ⟨t3, kt3, rfl, NF3, KK3, ht3, VT3, OT3⟩
theorem ef_rmC3_2 (m : MethodId) (x0 : Addr) (x1 : Int32) (x2 : Addr) : entryFrame m #[(.ref x0), (.int x1), (.ref x2)] 4 = mkF m 0 #[.val (.ref x0), .val (.int x1), .val (.ref x2), .unset] [] := by first | (simp [entryFrame, mkF, argsToLocals, Value.category]; done) | rfl
def Q_rmC3_2 (Z : State) (b mi : Addr) (kb : ClassId) (x0 x1 : Addr) (h0 : Heap) (n0 : Nat) (v : Option Value) (h : Heap) (L : List Loc) : Prop := ∃ (t : Addr) (kt : ClassId), v = some (.ref t) ∧ Fr n0 L ∧ Keep h0 h [] ∧ h0.size ≤ t ∧ Arv Z h t kt (.object "java/lang/Object") 2 [(.ref x0), (.ref x1)] .null ∧ Ovr Z kt "java/lang/Object"
set_option maxRecDepth 65536 in
set_option maxHeartbeats 40000000 in
theorem rmC3_2 (l : Launch) (Z : State) (a0 : Array Value) (hw : ∀ d ∈ tables_1, d.before a0 Z = true) (ws : List Jvm.Cond) (b mi : Addr) (kb : ClassId) (x0 x1 : Addr) (h0 : Heap) (n0 : Nat) (Z0 : n0 ≤ h0.size) (VB : Arv Z h0 b kb (.object "java/lang/Object") 10 [(.ref x0), (.ref x1), .null, .null, .null, .null, .null, .null, .null, .null] .null) (EB : Exa Z h0 b "[Ljava/lang/Object;") (MI : Mir Z "[Ljava/lang/Object;" mi) (EX0 : Exa Z h0 x0 "java/lang/String") (EX1 : Exa Z h0 x1 "java/lang/String") :
    MetFree l (⟨"java/util/Arrays", "copyOf", "([Ljava/lang/Object;ILjava/lang/Class;)[Ljava/lang/Object;"⟩ : MethodName) (head1 (Jvm.Cond.code (⟨"java/util/Arrays", "copyOf", "([Ljava/lang/Object;ILjava/lang/Class;)[Ljava/lang/Object;"⟩ : MethodName) jdk_65_method_120_code 4 (some (.array (.object "java/lang/Object"))) :: ws) ({ frames := 1, cells := 1, slots := 2, locals := 60 } : Room)) (fun ag U => ag = #[(.ref b), (.int (2 : Int32)), (.ref mi)] ∧ Z.Warmed39 U.vm ∧ U.heap = h0) (fun _ _ _ _ _ => True) (fun _ U o U' => ∃ v L, o = .returned v ∧ Q_rmC3_2 Z b mi kb x0 x1 h0 n0 v U'.heap L ∧ FrameEnd U o U' L ({ frames := 1, cells := 1, slots := 2, locals := 60 } : Room).cells ({ frames := 1, cells := 1, slots := 2, locals := 60 } : Room).slots) := by
  refine MetFree.of_bodySF (plainFor_of_name pn_10) hisR ?_
  intro p e s m args below meth c s₁ Bd hml0 hP hK
  obtain ⟨rfl, hZ, hh⟩ := hP
  have hx := Bd.exec
  have hby := Bd.bytes
  have hml : c.maxLocals = 4 := hml0
  have hown : s.vm.findClass "java/util/Arrays" = some m.cls := findClass_of_methodNamed Bd.named
  have hnm := (name_of_methodNamed Bd.named Bd.method).1
  have X0 : Stand p l e ({ frames := 1, cells := 1, slots := 2, locals := 60 } : Room) s m #[(.ref b), (.int (2 : Int32)), (.ref mi)] below meth c s₁ [] 0 0 := Stand.of_body Bd
  have e0 : s₁.heap = h0 := by rw [← hh, Bd.state]; rfl
  have N0 := Fr.nil n0
  refine own_start (ef_rmC3_2 m b (2 : Int32) mi) ?_
  intro F hF
  show own_Gl p.tables e below F (s₁.setTop (mkF m 0 #[.val (.ref b), .val (.int (2 : Int32)), .val (.ref mi), .unset] []))
  refine own_go (fun _ k => XS.aloadN X0.here hx rfl (hb hby d33_0) rfl rfl k) ?_
  show own_Gl p.tables e below F (s₁.setTop (mkF m 1 #[.val (.ref b), .val (.int (2 : Int32)), .val (.ref mi), .unset] [(.ref mi)]))
  obtain ⟨vmM, XM, stM⟩ := X0.ldcMirror hx hown (mvT hZ (hw _ (List.mem_of_getElem? (i := 206) rfl))) (own_mirev hZ MI) (g := (mkF m 1 #[.val (.ref b), .val (.int (2 : Int32)), .val (.ref mi), .unset] [(.ref mi)])) rfl (hb hby d33_1)
  have eM : (s₁.setVm vmM).heap = h0 := e0
  refine own_go stM ?_
  show own_Gl p.tables e below F ((s₁.setVm vmM).setTop (mkF m 3 #[.val (.ref b), .val (.int (2 : Int32)), .val (.ref mi), .unset] [(.ref mi), (.ref mi)]))
  refine own_go (fun _ k => Jvm.RoadKit.acmp (g := (mkF m 3 #[.val (.ref b), .val (.int (2 : Int32)), .val (.ref mi), .unset] [(.ref mi), (.ref mi)])) XM hx rfl rfl rfl (pc0 := 3) (pc' := 6) (same := true) rfl (hb hby d33_3) rfl (decide_eq_true rfl) (by decide) (by decide) k) ?_
  show own_Gl p.tables e below F ((s₁.setVm vmM).setTop (mkF m 6 #[.val (.ref b), .val (.int (2 : Int32)), .val (.ref mi), .unset] []))
  refine own_go (fun _ k => XS.iloadN XM.here hx rfl (hb hby d33_6) rfl k) ?_
  show own_Gl p.tables e below F ((s₁.setVm vmM).setTop (mkF m 7 #[.val (.ref b), .val (.int (2 : Int32)), .val (.ref mi), .unset] [(.int (2 : Int32))]))
  obtain ⟨T1, h1, k1, X1, e1, E1, A1, O1, st1⟩ := newR XM hx hZ hown (hw _ (List.mem_of_getElem? (i := 207) rfl)) (hw _ (List.mem_of_getElem? (i := 179) rfl)) eM (g := (mkF m 7 #[.val (.ref b), .val (.int (2 : Int32)), .val (.ref mi), .unset] [(.int (2 : Int32))])) rfl (hb hby d33_7) rfl (by decide) (cap := 2) (by decide) (by decide) (by decide) (by decide)
  obtain ⟨b1, g1⟩ : ∃ z, z = h0.size := ⟨_, rfl⟩
  rw [← g1] at A1 st1
  have ne_b_b1 : b ≠ b1 := Nat.ne_of_lt (Nat.lt_of_lt_of_le VB.lt (Nat.le_of_eq g1.symm))
  have ne_x0_b1 : x0 ≠ b1 := Nat.ne_of_lt (Nat.lt_of_lt_of_le EX0.lt (Nat.le_of_eq g1.symm))
  have ne_x1_b1 : x1 ≠ b1 := Nat.ne_of_lt (Nat.lt_of_lt_of_le EX1.lt (Nat.le_of_eq g1.symm))
  have ge_b1 : n0 ≤ b1 := Nat.le_trans Z0 (Nat.le_of_eq g1.symm)
  have sz_b1 : h0.size ≤ b1 := Nat.le_trans ((Keep.refl h0 [])).1 (Nat.le_of_eq g1.symm)
  have f1_0 := VB.ext E1
  have f1_1 := EB.ext E1
  have f1_2 := EX0.ext E1
  have f1_3 := EX1.ext E1
  have Z1 : n0 ≤ h1.size := Nat.le_trans Z0 E1.1
  have K1 := Keep.ext (Keep.refl h0 []) E1
  have V1 : Arv Z h1 b1 k1 (.object "java/lang/Object") (2 : Int32) [.null, .null] .null := (Arv.new A1 (by decide)).pad (pad_rep [] .null 2)
  have X1 : Stand _ _ _ _ _ _ _ _ _ _ _ _ 1 2 := X1
  refine own_go st1 ?_
  show own_Gl p.tables e below F (T1.setTop (mkF m 10 #[.val (.ref b), .val (.int (2 : Int32)), .val (.ref mi), .unset] [(.ref b1)]))
  refine own_go (fun _ k => XS.goto X1.here hx rfl (pc0 := 10) (pc' := 24) rfl (hb hby d33_10) (by decide) (by decide) k) ?_
  show own_Gl p.tables e below F (T1.setTop (mkF m 24 #[.val (.ref b), .val (.int (2 : Int32)), .val (.ref mi), .unset] [(.ref b1)]))
  refine own_go (fun _ k => XS.astoreN X1.here hx rfl (hb hby d33_24) rfl rfl (l' := #[.val (.ref b), .val (.int (2 : Int32)), .val (.ref mi), .val (.ref b1)]) rfl k) ?_
  show own_Gl p.tables e below F (T1.setTop (mkF m 25 #[.val (.ref b), .val (.int (2 : Int32)), .val (.ref mi), .val (.ref b1)] []))
  refine own_go (fun _ k => XS.aloadN X1.here hx rfl (hb hby d33_25) rfl rfl k) ?_
  show own_Gl p.tables e below F (T1.setTop (mkF m 26 #[.val (.ref b), .val (.int (2 : Int32)), .val (.ref mi), .val (.ref b1)] [(.ref b)]))
  refine own_go (fun _ k => XS.iconst X1.here hx rfl (hb hby d33_26) k) ?_
  show own_Gl p.tables e below F (T1.setTop (mkF m 27 #[.val (.ref b), .val (.int (2 : Int32)), .val (.ref mi), .val (.ref b1)] [(.int (0 : Int32)), (.ref b)]))
  refine own_go (fun _ k => XS.aloadN X1.here hx rfl (hb hby d33_27) rfl rfl k) ?_
  show own_Gl p.tables e below F (T1.setTop (mkF m 28 #[.val (.ref b), .val (.int (2 : Int32)), .val (.ref mi), .val (.ref b1)] [(.ref b1), (.int (0 : Int32)), (.ref b)]))
  refine own_go (fun _ k => XS.iconst X1.here hx rfl (hb hby d33_28) k) ?_
  show own_Gl p.tables e below F (T1.setTop (mkF m 29 #[.val (.ref b), .val (.int (2 : Int32)), .val (.ref mi), .val (.ref b1)] [(.int (0 : Int32)), (.ref b1), (.int (0 : Int32)), (.ref b)]))
  refine own_go (fun _ k => XS.aloadN X1.here hx rfl (hb hby d33_29) rfl rfl k) ?_
  show own_Gl p.tables e below F (T1.setTop (mkF m 30 #[.val (.ref b), .val (.int (2 : Int32)), .val (.ref mi), .val (.ref b1)] [(.ref b), (.int (0 : Int32)), (.ref b1), (.int (0 : Int32)), (.ref b)]))
  obtain ⟨cl2, Ar2, ak2, aS2, aN2, aH2, aG2⟩ := id f1_0
  refine own_go (fun _ k => X1.arraylength hx (by rw [e1]; exact Ar2.1) (State.isArrayOf_alike hZ.alike Ar2.2.1) (g := (mkF m 30 #[.val (.ref b), .val (.int (2 : Int32)), .val (.ref mi), .val (.ref b1)] [(.ref b), (.int (0 : Int32)), (.ref b1), (.int (0 : Int32)), (.ref b)])) rfl rfl (hb hby d33_30) _ k) ?_
  rw [len_of aS2 aN2]
  show own_Gl p.tables e below F (T1.setTop (mkF m 31 #[.val (.ref b), .val (.int (2 : Int32)), .val (.ref mi), .val (.ref b1)] [(.int (10 : Int32)), (.int (0 : Int32)), (.ref b1), (.int (0 : Int32)), (.ref b)]))
  refine own_go (fun _ k => XS.iloadN X1.here hx rfl (hb hby d33_31) rfl k) ?_
  show own_Gl p.tables e below F (T1.setTop (mkF m 32 #[.val (.ref b), .val (.int (2 : Int32)), .val (.ref mi), .val (.ref b1)] [(.int (2 : Int32)), (.int (10 : Int32)), (.int (0 : Int32)), (.ref b1), (.int (0 : Int32)), (.ref b)]))
  obtain ⟨_, _, ⟨T3, L3, k3, n3⟩, -, X3, ⟨Lc3, hQ3, l3, y3, z3⟩, st3⟩ := Jvm.LawKit.callS X1 hx (y := (⟨"java/lang/Math", "min", "(II)I"⟩ : MethodName)) hown (mvT hZ (hw _ (List.mem_of_getElem? (i := 208) rfl))) (mvT hZ (hw _ (List.mem_of_getElem? (i := 209) rfl))) (mvT hZ (hw _ (List.mem_of_getElem? (i := 176) rfl))) (mvT hZ (hw _ (List.mem_of_getElem? (i := 210) rfl))) (by decide) (backOf (W := 4) (rm34 l Z a0 hw [] (10 : Int32) (2 : Int32)  h1 n0 Z1 ) hZ (hw _ (List.mem_of_getElem? (i := 210) rfl)) (hw _ (List.mem_of_getElem? (i := 176) rfl)) (by decide) (by decide)) (g := (mkF m 32 #[.val (.ref b), .val (.int (2 : Int32)), .val (.ref mi), .val (.ref b1)] [(.int (2 : Int32)), (.int (10 : Int32)), (.int (0 : Int32)), (.ref b1), (.int (0 : Int32)), (.ref b)])) rfl (by rw [hml]; rfl) (argsL := [(.int (10 : Int32)), (.int (2 : Int32))]) (rest := [(.int (0 : Int32)), (.ref b1), (.int (0 : Int32)), (.ref b)]) (lenOf pd_5 rfl) rfl (by show 2 * 0 + _ ≤ _; exact Nat.le_of_eq rfl) (hb hby d33_32) (fun _ _ => ⟨rfl, e1, (by first | decide | exact Nat.le_of_ble_eq_true rfl), (by first | decide | exact Nat.le_of_ble_eq_true rfl)⟩)
  dsimp only [Pt.U, Pt.locs, Pt.cells, Pt.slots] at X3 l3 y3 z3 st3 hQ3
  have X3 := own_sn X3 (k' := 1) (n' := 2) y3 z3
  obtain ⟨rfl, N3, e3⟩ := hQ3
  have NF3 := own_fr l3 N0 N3
  refine own_go st3 ?_
  show own_Gl p.tables e below F (T3.setTop (mkF m 35 #[.val (.ref b), .val (.int (2 : Int32)), .val (.ref mi), .val (.ref b1)] [(.int (own_minI (10 : Int32) (2 : Int32))), (.int (0 : Int32)), (.ref b1), (.int (0 : Int32)), (.ref b)]))
  rw [(by decide : own_minI (10 : Int32) (2 : Int32) = (2 : Int32))]
  show own_Gl p.tables e below F (T3.setTop (mkF m 35 #[.val (.ref b), .val (.int (2 : Int32)), .val (.ref mi), .val (.ref b1)] [(.int (2 : Int32)), (.int (0 : Int32)), (.ref b1), (.int (0 : Int32)), (.ref b)]))
  obtain ⟨clT, ArT, akT, -, -, -, -⟩ := id V1
  obtain ⟨TC, hC, LC, XC, eC, NC, KC, VC, stC⟩ := cpA X3 hx hZ hown (hw _ (List.mem_of_getElem? (i := 211) rfl)) (hw _ (List.mem_of_getElem? (i := 214) rfl)) (hw _ (List.mem_of_getElem? (i := 212) rfl)) (hw _ (List.mem_of_getElem? (i := 213) rfl)) e3 (sp := (0 : Int32)) (dp := (0 : Int32)) (nn := (2 : Int32)) (us := [(.ref x0), (.ref x1)]) f1_0 V1 (Or.inr ⟨rfl, rfl, ⟨Sto.ofV ArT akT O1 (Ins.of_exa f1_2 (hw _ (List.mem_of_getElem? (i := 180) rfl))), ⟨Sto.ofV ArT akT O1 (Ins.of_exa f1_3 (hw _ (List.mem_of_getElem? (i := 180) rfl))), trivial⟩⟩⟩) (by decide) (by decide) (by decide) (by decide) (by decide) rfl (by decide) NF3 ge_b1 (g := (mkF m 35 #[.val (.ref b), .val (.int (2 : Int32)), .val (.ref mi), .val (.ref b1)] [(.int (2 : Int32)), (.int (0 : Int32)), (.ref b1), (.int (0 : Int32)), (.ref b)])) rfl (by rw [hml]; rfl) rfl (hb hby d33_35) (by decide) (W := 0) (by show 2 * 0 + _ ≤ _; exact Nat.le_of_eq rfl) (by decide)
  have VT : Arv Z hC b1 k1 (.object "java/lang/Object") 2 [(.ref x0), (.ref x1)] .null := VC
  have KZ : Keep h0 hC [] := Keep.trans K1 KC (allS (Or.inr sz_b1) all0)
  refine own_go stC ?_
  show own_Gl p.tables e below F (TC.setTop (mkF m 38 #[.val (.ref b), .val (.int (2 : Int32)), .val (.ref mi), .val (.ref b1)] []))
  refine own_go (fun _ k => XS.aloadN XC.here hx rfl (hb hby d33_38) rfl rfl k) ?_
  show own_Gl p.tables e below F (TC.setTop (mkF m 39 #[.val (.ref b), .val (.int (2 : Int32)), .val (.ref mi), .val (.ref b1)] [(.ref b1)]))
  obtain ⟨fs, hr, hrun, hended, hW, hsame⟩ := XC.leave (v := some (.ref b1)) (fun h => by rw [Bd.returns] at h; cases h)
  subst hF
  refine own_fin ?_ ⟨hrun, hended, _, _, rfl, ?_, ⟨_, rfl⟩, hW, hsame.mono (by first | decide | exact Nat.le_of_ble_eq_true rfl) (by first | decide | exact Nat.le_of_ble_eq_true rfl)⟩
  · exact own_retA XC hx Bd.returns rfl rfl (hb hby d33_39) hr
  · show Q_rmC3_2 Z _ _ _ _ _ h0 n0 _ TC.heap _
    rw [eC]
    exact ⟨b1, k1, rfl, NC, KZ, sz_b1, VT, O1⟩
theorem ef_rmC2_2 (m : MethodId) (x0 : Addr) (x1 : Int32) : entryFrame m #[(.ref x0), (.int x1)] 2 = mkF m 0 #[.val (.ref x0), .val (.int x1)] [] := by first | (simp [entryFrame, mkF, argsToLocals, Value.category]; done) | rfl
def Q_rmC2_2 (Z : State) (b mi : Addr) (kb : ClassId) (x0 x1 : Addr) (h0 : Heap) (n0 : Nat) (v : Option Value) (h : Heap) (L : List Loc) : Prop := ∃ (t : Addr) (kt : ClassId), v = some (.ref t) ∧ Fr n0 L ∧ Keep h0 h [] ∧ h0.size ≤ t ∧ Arv Z h t kt (.object "java/lang/Object") 2 [(.ref x0), (.ref x1)] .null ∧ Ovr Z kt "java/lang/Object"
set_option maxRecDepth 65536 in
set_option maxHeartbeats 40000000 in
theorem rmC2_2 (l : Launch) (Z : State) (a0 : Array Value) (hw : ∀ d ∈ tables_1, d.before a0 Z = true) (ws : List Jvm.Cond) (b mi : Addr) (kb : ClassId) (x0 x1 : Addr) (h0 : Heap) (n0 : Nat) (Z0 : n0 ≤ h0.size) (VB : Arv Z h0 b kb (.object "java/lang/Object") 10 [(.ref x0), (.ref x1), .null, .null, .null, .null, .null, .null, .null, .null] .null) (EB : Exa Z h0 b "[Ljava/lang/Object;") (MI : Mir Z "[Ljava/lang/Object;" mi) (EX0 : Exa Z h0 x0 "java/lang/String") (EX1 : Exa Z h0 x1 "java/lang/String") :
    MetFree l (⟨"java/util/Arrays", "copyOf", "([Ljava/lang/Object;I)[Ljava/lang/Object;"⟩ : MethodName) (head1 (Jvm.Cond.code (⟨"java/util/Arrays", "copyOf", "([Ljava/lang/Object;I)[Ljava/lang/Object;"⟩ : MethodName) jdk_65_method_119_code 2 (some (.array (.object "java/lang/Object"))) :: ws) ({ frames := 2, cells := 1, slots := 2, locals := 75 } : Room)) (fun ag U => ag = #[(.ref b), (.int (2 : Int32))] ∧ Z.Warmed39 U.vm ∧ U.heap = h0) (fun _ _ _ _ _ => True) (fun _ U o U' => ∃ v L, o = .returned v ∧ Q_rmC2_2 Z b mi kb x0 x1 h0 n0 v U'.heap L ∧ FrameEnd U o U' L ({ frames := 2, cells := 1, slots := 2, locals := 75 } : Room).cells ({ frames := 2, cells := 1, slots := 2, locals := 75 } : Room).slots) := by
  refine MetFree.of_bodySF (plainFor_of_name pn_10) hisR ?_
  intro p e s m args below meth c s₁ Bd hml0 hP hK
  obtain ⟨rfl, hZ, hh⟩ := hP
  have hx := Bd.exec
  have hby := Bd.bytes
  have hml : c.maxLocals = 2 := hml0
  have hown : s.vm.findClass "java/util/Arrays" = some m.cls := findClass_of_methodNamed Bd.named
  have hnm := (name_of_methodNamed Bd.named Bd.method).1
  have X0 : Stand p l e ({ frames := 2, cells := 1, slots := 2, locals := 75 } : Room) s m #[(.ref b), (.int (2 : Int32))] below meth c s₁ [] 0 0 := Stand.of_body Bd
  have e0 : s₁.heap = h0 := by rw [← hh, Bd.state]; rfl
  have N0 := Fr.nil n0
  refine own_start (ef_rmC2_2 m b (2 : Int32)) ?_
  intro F hF
  show own_Gl p.tables e below F (s₁.setTop (mkF m 0 #[.val (.ref b), .val (.int (2 : Int32))] []))
  refine own_go (fun _ k => XS.aloadN X0.here hx rfl (hb hby d32_0) rfl rfl k) ?_
  show own_Gl p.tables e below F (s₁.setTop (mkF m 1 #[.val (.ref b), .val (.int (2 : Int32))] [(.ref b)]))
  refine own_go (fun _ k => XS.iloadN X0.here hx rfl (hb hby d32_1) rfl k) ?_
  show own_Gl p.tables e below F (s₁.setTop (mkF m 2 #[.val (.ref b), .val (.int (2 : Int32))] [(.int (2 : Int32)), (.ref b)]))
  refine own_go (fun _ k => XS.aloadN X0.here hx rfl (hb hby d32_2) rfl rfl k) ?_
  show own_Gl p.tables e below F (s₁.setTop (mkF m 3 #[.val (.ref b), .val (.int (2 : Int32))] [(.ref b), (.int (2 : Int32)), (.ref b)]))
  obtain ⟨TG, XG, eG, stG⟩ := gcls X0 hx hZ hown (hw _ (List.mem_of_getElem? (i := 197) rfl)) (hw _ (List.mem_of_getElem? (i := 198) rfl)) (hw _ (List.mem_of_getElem? (i := 109) rfl)) (hw _ (List.mem_of_getElem? (i := 200) rfl)) (hw _ (List.mem_of_getElem? (i := 199) rfl)) (hw _ (List.mem_of_getElem? (i := 201) rfl)) e0 EB MI (g := (mkF m 3 #[.val (.ref b), .val (.int (2 : Int32))] [(.ref b), (.int (2 : Int32)), (.ref b)])) rfl (by rw [hml]; rfl) rfl (hb hby d32_3) (by decide) (W := 2) (by show 2 * 0 + _ ≤ _; exact Nat.le_of_eq rfl) (by decide)
  refine own_go stG ?_
  show own_Gl p.tables e below F (TG.setTop (mkF m 6 #[.val (.ref b), .val (.int (2 : Int32))] [(.ref mi), (.int (2 : Int32)), (.ref b)]))
  obtain ⟨_, _, ⟨T1, L1, k1, n1⟩, -, X1, ⟨Lc1, hQ1, l1, y1, z1⟩, st1⟩ := Jvm.LawKit.callS XG hx (y := (⟨"java/util/Arrays", "copyOf", "([Ljava/lang/Object;ILjava/lang/Class;)[Ljava/lang/Object;"⟩ : MethodName)) hown (mvT hZ (hw _ (List.mem_of_getElem? (i := 203) rfl))) (mvT hZ (hw _ (List.mem_of_getElem? (i := 204) rfl))) (mvT hZ (hw _ (List.mem_of_getElem? (i := 195) rfl))) (mvT hZ (hw _ (List.mem_of_getElem? (i := 205) rfl))) (by decide) (backOf (W := 0) (rmC3_2 l Z a0 hw [] b mi kb x0 x1 h0 n0 Z0 VB EB MI EX0 EX1) hZ (hw _ (List.mem_of_getElem? (i := 205) rfl)) (hw _ (List.mem_of_getElem? (i := 195) rfl)) (by decide) (by decide)) (g := (mkF m 6 #[.val (.ref b), .val (.int (2 : Int32))] [(.ref mi), (.int (2 : Int32)), (.ref b)])) rfl (by rw [hml]; rfl) (argsL := [(.ref b), (.int (2 : Int32)), (.ref mi)]) (rest := []) (lenOf pd_11 rfl) rfl (by show 2 * 0 + _ ≤ _; exact Nat.le_of_eq rfl) (hb hby d32_6) (fun _ _ => ⟨rfl, eG, (by first | decide | exact Nat.le_of_ble_eq_true rfl), (by first | decide | exact Nat.le_of_ble_eq_true rfl)⟩)
  dsimp only [Pt.U, Pt.locs, Pt.cells, Pt.slots] at X1 l1 y1 z1 st1 hQ1
  have X1 := own_sn X1 (k' := 1) (n' := 2) y1 z1
  obtain ⟨t1, kt1, rfl, N1, K1, ht1, VT1, OT1⟩ := hQ1
  have NF1 := own_fr l1 N0 N1
  have Z1 : n0 ≤ T1.heap.size := Nat.le_trans Z0 K1.1
  have KK1 := Keep.trans (Keep.refl h0 []) K1 (fun _ q => nomatch q)
  refine own_go st1 ?_
  show own_Gl p.tables e below F (T1.setTop (mkF m 9 #[.val (.ref b), .val (.int (2 : Int32))] [(.ref t1)]))
  obtain ⟨fs, hr, hrun, hended, hW, hsame⟩ := X1.leave (v := some (.ref t1)) (fun h => by rw [Bd.returns] at h; cases h)
  subst hF
  refine own_fin ?_ ⟨hrun, hended, _, _, rfl, ?_, ⟨_, rfl⟩, hW, hsame.mono (by first | decide | exact Nat.le_of_ble_eq_true rfl) (by first | decide | exact Nat.le_of_ble_eq_true rfl)⟩
  · exact own_retA X1 hx Bd.returns rfl rfl (hb hby d32_9) hr
  · show Q_rmC2_2 Z _ _ _ _ _ h0 n0 _ T1.heap _
    exact ⟨t1, kt1, rfl, NF1, KK1, ht1, VT1, OT1⟩
theorem ef_rmTA_2 (m : MethodId) (x0 : Addr) : entryFrame m #[(.ref x0)] 1 = mkF m 0 #[.val (.ref x0)] [] := by first | (simp [entryFrame, mkF, argsToLocals, Value.category]; done) | rfl
def Q_rmTA_2 (Z : State) (a b mi : Addr) (kb : ClassId) (x0 x1 : Addr) (h0 : Heap) (n0 : Nat) (v : Option Value) (h : Heap) (L : List Loc) : Prop := ∃ (t : Addr) (kt : ClassId), v = some (.ref t) ∧ Fr n0 L ∧ Keep h0 h [] ∧ h0.size ≤ t ∧ Arv Z h t kt (.object "java/lang/Object") 2 [(.ref x0), (.ref x1)] .null ∧ Ovr Z kt "java/lang/Object"
set_option maxRecDepth 65536 in
set_option maxHeartbeats 40000000 in
theorem rmTA_2 (l : Launch) (Z : State) (a0 : Array Value) (hw : ∀ d ∈ tables_1, d.before a0 Z = true) (ws : List Jvm.Cond) (a b mi : Addr) (kb : ClassId) (x0 x1 : Addr) (h0 : Heap) (n0 : Nat) (Z0 : n0 ≤ h0.size) (FD : Fld Z h0 a "java/util/ArrayList" "elementData" "[Ljava/lang/Object;" (.ref b)) (FS : Fld Z h0 a "java/util/ArrayList" "size" "I" (.int 2)) (VB : Arv Z h0 b kb (.object "java/lang/Object") 10 [(.ref x0), (.ref x1), .null, .null, .null, .null, .null, .null, .null, .null] .null) (EB : Exa Z h0 b "[Ljava/lang/Object;") (MI : Mir Z "[Ljava/lang/Object;" mi) (EX0 : Exa Z h0 x0 "java/lang/String") (EX1 : Exa Z h0 x1 "java/lang/String") :
    MetFree l (⟨"java/util/ArrayList", "toArray", "()[Ljava/lang/Object;"⟩ : MethodName) (head1 (Jvm.Cond.code (⟨"java/util/ArrayList", "toArray", "()[Ljava/lang/Object;"⟩ : MethodName) jdk_38_method_16_code 1 (some (.array (.object "java/lang/Object"))) :: ws) ({ frames := 3, cells := 1, slots := 2, locals := 88 } : Room)) (fun ag U => ag = #[(.ref a)] ∧ Z.Warmed39 U.vm ∧ U.heap = h0) (fun _ _ _ _ _ => True) (fun _ U o U' => ∃ v L, o = .returned v ∧ Q_rmTA_2 Z a b mi kb x0 x1 h0 n0 v U'.heap L ∧ FrameEnd U o U' L ({ frames := 3, cells := 1, slots := 2, locals := 88 } : Room).cells ({ frames := 3, cells := 1, slots := 2, locals := 88 } : Room).slots) := by
  refine MetFree.of_bodySF (plainFor_of_name pn_8) hisR ?_
  intro p e s m args below meth c s₁ Bd hml0 hP hK
  obtain ⟨rfl, hZ, hh⟩ := hP
  have hx := Bd.exec
  have hby := Bd.bytes
  have hml : c.maxLocals = 1 := hml0
  have hown : s.vm.findClass "java/util/ArrayList" = some m.cls := findClass_of_methodNamed Bd.named
  have hnm := (name_of_methodNamed Bd.named Bd.method).1
  have X0 : Stand p l e ({ frames := 3, cells := 1, slots := 2, locals := 88 } : Room) s m #[(.ref a)] below meth c s₁ [] 0 0 := Stand.of_body Bd
  have e0 : s₁.heap = h0 := by rw [← hh, Bd.state]; rfl
  have N0 := Fr.nil n0
  refine own_start (ef_rmTA_2 m a) ?_
  intro F hF
  show own_Gl p.tables e below F (s₁.setTop (mkF m 0 #[.val (.ref a)] []))
  refine own_go (fun _ k => XS.aloadN X0.here hx rfl (hb hby d31_0) rfl rfl k) ?_
  show own_Gl p.tables e below F (s₁.setTop (mkF m 1 #[.val (.ref a)] [(.ref a)]))
  obtain ⟨T1, X1, e1, st1⟩ := getF X0 hx hZ hown (host := "") (Or.inl (hw _ (List.mem_of_getElem? (i := 66) rfl))) Via.refl e0 FD (g := (mkF m 1 #[.val (.ref a)] [(.ref a)])) rfl rfl (hb hby d31_1)
  refine own_go st1 ?_
  show own_Gl p.tables e below F (T1.setTop (mkF m 4 #[.val (.ref a)] [(.ref b)]))
  refine own_go (fun _ k => XS.aloadN X1.here hx rfl (hb hby d31_4) rfl rfl k) ?_
  show own_Gl p.tables e below F (T1.setTop (mkF m 5 #[.val (.ref a)] [(.ref a), (.ref b)]))
  obtain ⟨T2, X2, e2, st2⟩ := getF X1 hx hZ hown (host := "") (Or.inl (hw _ (List.mem_of_getElem? (i := 120) rfl))) Via.refl e1 FS (g := (mkF m 5 #[.val (.ref a)] [(.ref a), (.ref b)])) rfl rfl (hb hby d31_5)
  refine own_go st2 ?_
  show own_Gl p.tables e below F (T2.setTop (mkF m 8 #[.val (.ref a)] [(.int (2 : Int32)), (.ref b)]))
  obtain ⟨_, _, ⟨T3, L3, k3, n3⟩, -, X3, ⟨Lc3, hQ3, l3, y3, z3⟩, st3⟩ := Jvm.LawKit.callS X2 hx (y := (⟨"java/util/Arrays", "copyOf", "([Ljava/lang/Object;I)[Ljava/lang/Object;"⟩ : MethodName)) hown (mvT hZ (hw _ (List.mem_of_getElem? (i := 193) rfl))) (mvT hZ (hw _ (List.mem_of_getElem? (i := 194) rfl))) (mvT hZ (hw _ (List.mem_of_getElem? (i := 195) rfl))) (mvT hZ (hw _ (List.mem_of_getElem? (i := 196) rfl))) (by decide) (backOf (W := 0) (rmC2_2 l Z a0 hw [] b mi kb x0 x1 h0 n0 Z0 VB EB MI EX0 EX1) hZ (hw _ (List.mem_of_getElem? (i := 196) rfl)) (hw _ (List.mem_of_getElem? (i := 195) rfl)) (by decide) (by decide)) (g := (mkF m 8 #[.val (.ref a)] [(.int (2 : Int32)), (.ref b)])) rfl (by rw [hml]; rfl) (argsL := [(.ref b), (.int (2 : Int32))]) (rest := []) (lenOf pd_12 rfl) rfl (by show 2 * 0 + _ ≤ _; exact Nat.le_of_eq rfl) (hb hby d31_8) (fun _ _ => ⟨rfl, e2, (by first | decide | exact Nat.le_of_ble_eq_true rfl), (by first | decide | exact Nat.le_of_ble_eq_true rfl)⟩)
  dsimp only [Pt.U, Pt.locs, Pt.cells, Pt.slots] at X3 l3 y3 z3 st3 hQ3
  have X3 := own_sn X3 (k' := 1) (n' := 2) y3 z3
  obtain ⟨t3, kt3, rfl, N3, K3, ht3, VT3, OT3⟩ := hQ3
  have NF3 := own_fr l3 N0 N3
  have Z3 : n0 ≤ T3.heap.size := Nat.le_trans Z0 K3.1
  have KK3 := Keep.trans (Keep.refl h0 []) K3 (fun _ q => nomatch q)
  refine own_go st3 ?_
  show own_Gl p.tables e below F (T3.setTop (mkF m 11 #[.val (.ref a)] [(.ref t3)]))
  obtain ⟨fs, hr, hrun, hended, hW, hsame⟩ := X3.leave (v := some (.ref t3)) (fun h => by rw [Bd.returns] at h; cases h)
  subst hF
  refine own_fin ?_ ⟨hrun, hended, _, _, rfl, ?_, ⟨_, rfl⟩, hW, hsame.mono (by first | decide | exact Nat.le_of_ble_eq_true rfl) (by first | decide | exact Nat.le_of_ble_eq_true rfl)⟩
  · exact own_retA X3 hx Bd.returns rfl rfl (hb hby d31_11) hr
  · show Q_rmTA_2 Z _ _ _ _ _ _ h0 n0 _ T3.heap _
    exact ⟨t3, kt3, rfl, NF3, KK3, ht3, VT3, OT3⟩
theorem ef_rmC3_3 (m : MethodId) (x0 : Addr) (x1 : Int32) (x2 : Addr) : entryFrame m #[(.ref x0), (.int x1), (.ref x2)] 4 = mkF m 0 #[.val (.ref x0), .val (.int x1), .val (.ref x2), .unset] [] := by first | (simp [entryFrame, mkF, argsToLocals, Value.category]; done) | rfl
def Q_rmC3_3 (Z : State) (b mi : Addr) (kb : ClassId) (x0 x1 x2 : Addr) (h0 : Heap) (n0 : Nat) (v : Option Value) (h : Heap) (L : List Loc) : Prop := ∃ (t : Addr) (kt : ClassId), v = some (.ref t) ∧ Fr n0 L ∧ Keep h0 h [] ∧ h0.size ≤ t ∧ Arv Z h t kt (.object "java/lang/Object") 3 [(.ref x0), (.ref x1), (.ref x2)] .null ∧ Ovr Z kt "java/lang/Object"
set_option maxRecDepth 65536 in
set_option maxHeartbeats 40000000 in
theorem rmC3_3 (l : Launch) (Z : State) (a0 : Array Value) (hw : ∀ d ∈ tables_1, d.before a0 Z = true) (ws : List Jvm.Cond) (b mi : Addr) (kb : ClassId) (x0 x1 x2 : Addr) (h0 : Heap) (n0 : Nat) (Z0 : n0 ≤ h0.size) (VB : Arv Z h0 b kb (.object "java/lang/Object") 10 [(.ref x0), (.ref x1), (.ref x2), .null, .null, .null, .null, .null, .null, .null] .null) (EB : Exa Z h0 b "[Ljava/lang/Object;") (MI : Mir Z "[Ljava/lang/Object;" mi) (EX0 : Exa Z h0 x0 "java/lang/String") (EX1 : Exa Z h0 x1 "java/lang/String") (EX2 : Exa Z h0 x2 "java/lang/String") :
    MetFree l (⟨"java/util/Arrays", "copyOf", "([Ljava/lang/Object;ILjava/lang/Class;)[Ljava/lang/Object;"⟩ : MethodName) (head1 (Jvm.Cond.code (⟨"java/util/Arrays", "copyOf", "([Ljava/lang/Object;ILjava/lang/Class;)[Ljava/lang/Object;"⟩ : MethodName) jdk_65_method_120_code 4 (some (.array (.object "java/lang/Object"))) :: ws) ({ frames := 1, cells := 1, slots := 3, locals := 60 } : Room)) (fun ag U => ag = #[(.ref b), (.int (3 : Int32)), (.ref mi)] ∧ Z.Warmed39 U.vm ∧ U.heap = h0) (fun _ _ _ _ _ => True) (fun _ U o U' => ∃ v L, o = .returned v ∧ Q_rmC3_3 Z b mi kb x0 x1 x2 h0 n0 v U'.heap L ∧ FrameEnd U o U' L ({ frames := 1, cells := 1, slots := 3, locals := 60 } : Room).cells ({ frames := 1, cells := 1, slots := 3, locals := 60 } : Room).slots) := by
  refine MetFree.of_bodySF (plainFor_of_name pn_10) hisR ?_
  intro p e s m args below meth c s₁ Bd hml0 hP hK
  obtain ⟨rfl, hZ, hh⟩ := hP
  have hx := Bd.exec
  have hby := Bd.bytes
  have hml : c.maxLocals = 4 := hml0
  have hown : s.vm.findClass "java/util/Arrays" = some m.cls := findClass_of_methodNamed Bd.named
  have hnm := (name_of_methodNamed Bd.named Bd.method).1
  have X0 : Stand p l e ({ frames := 1, cells := 1, slots := 3, locals := 60 } : Room) s m #[(.ref b), (.int (3 : Int32)), (.ref mi)] below meth c s₁ [] 0 0 := Stand.of_body Bd
  have e0 : s₁.heap = h0 := by rw [← hh, Bd.state]; rfl
  have N0 := Fr.nil n0
  refine own_start (ef_rmC3_3 m b (3 : Int32) mi) ?_
  intro F hF
  show own_Gl p.tables e below F (s₁.setTop (mkF m 0 #[.val (.ref b), .val (.int (3 : Int32)), .val (.ref mi), .unset] []))
  refine own_go (fun _ k => XS.aloadN X0.here hx rfl (hb hby d33_0) rfl rfl k) ?_
  show own_Gl p.tables e below F (s₁.setTop (mkF m 1 #[.val (.ref b), .val (.int (3 : Int32)), .val (.ref mi), .unset] [(.ref mi)]))
  obtain ⟨vmM, XM, stM⟩ := X0.ldcMirror hx hown (mvT hZ (hw _ (List.mem_of_getElem? (i := 206) rfl))) (own_mirev hZ MI) (g := (mkF m 1 #[.val (.ref b), .val (.int (3 : Int32)), .val (.ref mi), .unset] [(.ref mi)])) rfl (hb hby d33_1)
  have eM : (s₁.setVm vmM).heap = h0 := e0
  refine own_go stM ?_
  show own_Gl p.tables e below F ((s₁.setVm vmM).setTop (mkF m 3 #[.val (.ref b), .val (.int (3 : Int32)), .val (.ref mi), .unset] [(.ref mi), (.ref mi)]))
  refine own_go (fun _ k => Jvm.RoadKit.acmp (g := (mkF m 3 #[.val (.ref b), .val (.int (3 : Int32)), .val (.ref mi), .unset] [(.ref mi), (.ref mi)])) XM hx rfl rfl rfl (pc0 := 3) (pc' := 6) (same := true) rfl (hb hby d33_3) rfl (decide_eq_true rfl) (by decide) (by decide) k) ?_
  show own_Gl p.tables e below F ((s₁.setVm vmM).setTop (mkF m 6 #[.val (.ref b), .val (.int (3 : Int32)), .val (.ref mi), .unset] []))
  refine own_go (fun _ k => XS.iloadN XM.here hx rfl (hb hby d33_6) rfl k) ?_
  show own_Gl p.tables e below F ((s₁.setVm vmM).setTop (mkF m 7 #[.val (.ref b), .val (.int (3 : Int32)), .val (.ref mi), .unset] [(.int (3 : Int32))]))
  obtain ⟨T1, h1, k1, X1, e1, E1, A1, O1, st1⟩ := newR XM hx hZ hown (hw _ (List.mem_of_getElem? (i := 207) rfl)) (hw _ (List.mem_of_getElem? (i := 179) rfl)) eM (g := (mkF m 7 #[.val (.ref b), .val (.int (3 : Int32)), .val (.ref mi), .unset] [(.int (3 : Int32))])) rfl (hb hby d33_7) rfl (by decide) (cap := 3) (by decide) (by decide) (by decide) (by decide)
  obtain ⟨b1, g1⟩ : ∃ z, z = h0.size := ⟨_, rfl⟩
  rw [← g1] at A1 st1
  have ne_b_b1 : b ≠ b1 := Nat.ne_of_lt (Nat.lt_of_lt_of_le VB.lt (Nat.le_of_eq g1.symm))
  have ne_x0_b1 : x0 ≠ b1 := Nat.ne_of_lt (Nat.lt_of_lt_of_le EX0.lt (Nat.le_of_eq g1.symm))
  have ne_x1_b1 : x1 ≠ b1 := Nat.ne_of_lt (Nat.lt_of_lt_of_le EX1.lt (Nat.le_of_eq g1.symm))
  have ne_x2_b1 : x2 ≠ b1 := Nat.ne_of_lt (Nat.lt_of_lt_of_le EX2.lt (Nat.le_of_eq g1.symm))
  have ge_b1 : n0 ≤ b1 := Nat.le_trans Z0 (Nat.le_of_eq g1.symm)
  have sz_b1 : h0.size ≤ b1 := Nat.le_trans ((Keep.refl h0 [])).1 (Nat.le_of_eq g1.symm)
  have f1_0 := VB.ext E1
  have f1_1 := EB.ext E1
  have f1_2 := EX0.ext E1
  have f1_3 := EX1.ext E1
  have f1_4 := EX2.ext E1
  have Z1 : n0 ≤ h1.size := Nat.le_trans Z0 E1.1
  have K1 := Keep.ext (Keep.refl h0 []) E1
  have V1 : Arv Z h1 b1 k1 (.object "java/lang/Object") (3 : Int32) [.null, .null, .null] .null := (Arv.new A1 (by decide)).pad (pad_rep [] .null 3)
  have X1 : Stand _ _ _ _ _ _ _ _ _ _ _ _ 1 3 := X1
  refine own_go st1 ?_
  show own_Gl p.tables e below F (T1.setTop (mkF m 10 #[.val (.ref b), .val (.int (3 : Int32)), .val (.ref mi), .unset] [(.ref b1)]))
  refine own_go (fun _ k => XS.goto X1.here hx rfl (pc0 := 10) (pc' := 24) rfl (hb hby d33_10) (by decide) (by decide) k) ?_
  show own_Gl p.tables e below F (T1.setTop (mkF m 24 #[.val (.ref b), .val (.int (3 : Int32)), .val (.ref mi), .unset] [(.ref b1)]))
  refine own_go (fun _ k => XS.astoreN X1.here hx rfl (hb hby d33_24) rfl rfl (l' := #[.val (.ref b), .val (.int (3 : Int32)), .val (.ref mi), .val (.ref b1)]) rfl k) ?_
  show own_Gl p.tables e below F (T1.setTop (mkF m 25 #[.val (.ref b), .val (.int (3 : Int32)), .val (.ref mi), .val (.ref b1)] []))
  refine own_go (fun _ k => XS.aloadN X1.here hx rfl (hb hby d33_25) rfl rfl k) ?_
  show own_Gl p.tables e below F (T1.setTop (mkF m 26 #[.val (.ref b), .val (.int (3 : Int32)), .val (.ref mi), .val (.ref b1)] [(.ref b)]))
  refine own_go (fun _ k => XS.iconst X1.here hx rfl (hb hby d33_26) k) ?_
  show own_Gl p.tables e below F (T1.setTop (mkF m 27 #[.val (.ref b), .val (.int (3 : Int32)), .val (.ref mi), .val (.ref b1)] [(.int (0 : Int32)), (.ref b)]))
  refine own_go (fun _ k => XS.aloadN X1.here hx rfl (hb hby d33_27) rfl rfl k) ?_
  show own_Gl p.tables e below F (T1.setTop (mkF m 28 #[.val (.ref b), .val (.int (3 : Int32)), .val (.ref mi), .val (.ref b1)] [(.ref b1), (.int (0 : Int32)), (.ref b)]))
  refine own_go (fun _ k => XS.iconst X1.here hx rfl (hb hby d33_28) k) ?_
  show own_Gl p.tables e below F (T1.setTop (mkF m 29 #[.val (.ref b), .val (.int (3 : Int32)), .val (.ref mi), .val (.ref b1)] [(.int (0 : Int32)), (.ref b1), (.int (0 : Int32)), (.ref b)]))
  refine own_go (fun _ k => XS.aloadN X1.here hx rfl (hb hby d33_29) rfl rfl k) ?_
  show own_Gl p.tables e below F (T1.setTop (mkF m 30 #[.val (.ref b), .val (.int (3 : Int32)), .val (.ref mi), .val (.ref b1)] [(.ref b), (.int (0 : Int32)), (.ref b1), (.int (0 : Int32)), (.ref b)]))
  obtain ⟨cl2, Ar2, ak2, aS2, aN2, aH2, aG2⟩ := id f1_0
  refine own_go (fun _ k => X1.arraylength hx (by rw [e1]; exact Ar2.1) (State.isArrayOf_alike hZ.alike Ar2.2.1) (g := (mkF m 30 #[.val (.ref b), .val (.int (3 : Int32)), .val (.ref mi), .val (.ref b1)] [(.ref b), (.int (0 : Int32)), (.ref b1), (.int (0 : Int32)), (.ref b)])) rfl rfl (hb hby d33_30) _ k) ?_
  rw [len_of aS2 aN2]
  show own_Gl p.tables e below F (T1.setTop (mkF m 31 #[.val (.ref b), .val (.int (3 : Int32)), .val (.ref mi), .val (.ref b1)] [(.int (10 : Int32)), (.int (0 : Int32)), (.ref b1), (.int (0 : Int32)), (.ref b)]))
  refine own_go (fun _ k => XS.iloadN X1.here hx rfl (hb hby d33_31) rfl k) ?_
  show own_Gl p.tables e below F (T1.setTop (mkF m 32 #[.val (.ref b), .val (.int (3 : Int32)), .val (.ref mi), .val (.ref b1)] [(.int (3 : Int32)), (.int (10 : Int32)), (.int (0 : Int32)), (.ref b1), (.int (0 : Int32)), (.ref b)]))
  obtain ⟨_, _, ⟨T3, L3, k3, n3⟩, -, X3, ⟨Lc3, hQ3, l3, y3, z3⟩, st3⟩ := Jvm.LawKit.callS X1 hx (y := (⟨"java/lang/Math", "min", "(II)I"⟩ : MethodName)) hown (mvT hZ (hw _ (List.mem_of_getElem? (i := 208) rfl))) (mvT hZ (hw _ (List.mem_of_getElem? (i := 209) rfl))) (mvT hZ (hw _ (List.mem_of_getElem? (i := 176) rfl))) (mvT hZ (hw _ (List.mem_of_getElem? (i := 210) rfl))) (by decide) (backOf (W := 4) (rm34 l Z a0 hw [] (10 : Int32) (3 : Int32)  h1 n0 Z1 ) hZ (hw _ (List.mem_of_getElem? (i := 210) rfl)) (hw _ (List.mem_of_getElem? (i := 176) rfl)) (by decide) (by decide)) (g := (mkF m 32 #[.val (.ref b), .val (.int (3 : Int32)), .val (.ref mi), .val (.ref b1)] [(.int (3 : Int32)), (.int (10 : Int32)), (.int (0 : Int32)), (.ref b1), (.int (0 : Int32)), (.ref b)])) rfl (by rw [hml]; rfl) (argsL := [(.int (10 : Int32)), (.int (3 : Int32))]) (rest := [(.int (0 : Int32)), (.ref b1), (.int (0 : Int32)), (.ref b)]) (lenOf pd_5 rfl) rfl (by show 2 * 0 + _ ≤ _; exact Nat.le_of_eq rfl) (hb hby d33_32) (fun _ _ => ⟨rfl, e1, (by first | decide | exact Nat.le_of_ble_eq_true rfl), (by first | decide | exact Nat.le_of_ble_eq_true rfl)⟩)
  dsimp only [Pt.U, Pt.locs, Pt.cells, Pt.slots] at X3 l3 y3 z3 st3 hQ3
  have X3 := own_sn X3 (k' := 1) (n' := 3) y3 z3
  obtain ⟨rfl, N3, e3⟩ := hQ3
  have NF3 := own_fr l3 N0 N3
  refine own_go st3 ?_
  show own_Gl p.tables e below F (T3.setTop (mkF m 35 #[.val (.ref b), .val (.int (3 : Int32)), .val (.ref mi), .val (.ref b1)] [(.int (own_minI (10 : Int32) (3 : Int32))), (.int (0 : Int32)), (.ref b1), (.int (0 : Int32)), (.ref b)]))
  rw [(by decide : own_minI (10 : Int32) (3 : Int32) = (3 : Int32))]
  show own_Gl p.tables e below F (T3.setTop (mkF m 35 #[.val (.ref b), .val (.int (3 : Int32)), .val (.ref mi), .val (.ref b1)] [(.int (3 : Int32)), (.int (0 : Int32)), (.ref b1), (.int (0 : Int32)), (.ref b)]))
  obtain ⟨clT, ArT, akT, -, -, -, -⟩ := id V1
  obtain ⟨TC, hC, LC, XC, eC, NC, KC, VC, stC⟩ := cpA X3 hx hZ hown (hw _ (List.mem_of_getElem? (i := 211) rfl)) (hw _ (List.mem_of_getElem? (i := 214) rfl)) (hw _ (List.mem_of_getElem? (i := 212) rfl)) (hw _ (List.mem_of_getElem? (i := 213) rfl)) e3 (sp := (0 : Int32)) (dp := (0 : Int32)) (nn := (3 : Int32)) (us := [(.ref x0), (.ref x1), (.ref x2)]) f1_0 V1 (Or.inr ⟨rfl, rfl, ⟨Sto.ofV ArT akT O1 (Ins.of_exa f1_2 (hw _ (List.mem_of_getElem? (i := 180) rfl))), ⟨Sto.ofV ArT akT O1 (Ins.of_exa f1_3 (hw _ (List.mem_of_getElem? (i := 180) rfl))), ⟨Sto.ofV ArT akT O1 (Ins.of_exa f1_4 (hw _ (List.mem_of_getElem? (i := 180) rfl))), trivial⟩⟩⟩⟩) (by decide) (by decide) (by decide) (by decide) (by decide) rfl (by decide) NF3 ge_b1 (g := (mkF m 35 #[.val (.ref b), .val (.int (3 : Int32)), .val (.ref mi), .val (.ref b1)] [(.int (3 : Int32)), (.int (0 : Int32)), (.ref b1), (.int (0 : Int32)), (.ref b)])) rfl (by rw [hml]; rfl) rfl (hb hby d33_35) (by decide) (W := 0) (by show 2 * 0 + _ ≤ _; exact Nat.le_of_eq rfl) (by decide)
  have VT : Arv Z hC b1 k1 (.object "java/lang/Object") 3 [(.ref x0), (.ref x1), (.ref x2)] .null := VC
  have KZ : Keep h0 hC [] := Keep.trans K1 KC (allS (Or.inr sz_b1) all0)
  refine own_go stC ?_
  show own_Gl p.tables e below F (TC.setTop (mkF m 38 #[.val (.ref b), .val (.int (3 : Int32)), .val (.ref mi), .val (.ref b1)] []))
  refine own_go (fun _ k => XS.aloadN XC.here hx rfl (hb hby d33_38) rfl rfl k) ?_
  show own_Gl p.tables e below F (TC.setTop (mkF m 39 #[.val (.ref b), .val (.int (3 : Int32)), .val (.ref mi), .val (.ref b1)] [(.ref b1)]))
  obtain ⟨fs, hr, hrun, hended, hW, hsame⟩ := XC.leave (v := some (.ref b1)) (fun h => by rw [Bd.returns] at h; cases h)
  subst hF
  refine own_fin ?_ ⟨hrun, hended, _, _, rfl, ?_, ⟨_, rfl⟩, hW, hsame.mono (by first | decide | exact Nat.le_of_ble_eq_true rfl) (by first | decide | exact Nat.le_of_ble_eq_true rfl)⟩
  · exact own_retA XC hx Bd.returns rfl rfl (hb hby d33_39) hr
  · show Q_rmC3_3 Z _ _ _ _ _ _ h0 n0 _ TC.heap _
    rw [eC]
    exact ⟨b1, k1, rfl, NC, KZ, sz_b1, VT, O1⟩
theorem ef_rmC2_3 (m : MethodId) (x0 : Addr) (x1 : Int32) : entryFrame m #[(.ref x0), (.int x1)] 2 = mkF m 0 #[.val (.ref x0), .val (.int x1)] [] := by first | (simp [entryFrame, mkF, argsToLocals, Value.category]; done) | rfl
def Q_rmC2_3 (Z : State) (b mi : Addr) (kb : ClassId) (x0 x1 x2 : Addr) (h0 : Heap) (n0 : Nat) (v : Option Value) (h : Heap) (L : List Loc) : Prop := ∃ (t : Addr) (kt : ClassId), v = some (.ref t) ∧ Fr n0 L ∧ Keep h0 h [] ∧ h0.size ≤ t ∧ Arv Z h t kt (.object "java/lang/Object") 3 [(.ref x0), (.ref x1), (.ref x2)] .null ∧ Ovr Z kt "java/lang/Object"
set_option maxRecDepth 65536 in
set_option maxHeartbeats 40000000 in
theorem rmC2_3 (l : Launch) (Z : State) (a0 : Array Value) (hw : ∀ d ∈ tables_1, d.before a0 Z = true) (ws : List Jvm.Cond) (b mi : Addr) (kb : ClassId) (x0 x1 x2 : Addr) (h0 : Heap) (n0 : Nat) (Z0 : n0 ≤ h0.size) (VB : Arv Z h0 b kb (.object "java/lang/Object") 10 [(.ref x0), (.ref x1), (.ref x2), .null, .null, .null, .null, .null, .null, .null] .null) (EB : Exa Z h0 b "[Ljava/lang/Object;") (MI : Mir Z "[Ljava/lang/Object;" mi) (EX0 : Exa Z h0 x0 "java/lang/String") (EX1 : Exa Z h0 x1 "java/lang/String") (EX2 : Exa Z h0 x2 "java/lang/String") :
    MetFree l (⟨"java/util/Arrays", "copyOf", "([Ljava/lang/Object;I)[Ljava/lang/Object;"⟩ : MethodName) (head1 (Jvm.Cond.code (⟨"java/util/Arrays", "copyOf", "([Ljava/lang/Object;I)[Ljava/lang/Object;"⟩ : MethodName) jdk_65_method_119_code 2 (some (.array (.object "java/lang/Object"))) :: ws) ({ frames := 2, cells := 1, slots := 3, locals := 75 } : Room)) (fun ag U => ag = #[(.ref b), (.int (3 : Int32))] ∧ Z.Warmed39 U.vm ∧ U.heap = h0) (fun _ _ _ _ _ => True) (fun _ U o U' => ∃ v L, o = .returned v ∧ Q_rmC2_3 Z b mi kb x0 x1 x2 h0 n0 v U'.heap L ∧ FrameEnd U o U' L ({ frames := 2, cells := 1, slots := 3, locals := 75 } : Room).cells ({ frames := 2, cells := 1, slots := 3, locals := 75 } : Room).slots) := by
  refine MetFree.of_bodySF (plainFor_of_name pn_10) hisR ?_
  intro p e s m args below meth c s₁ Bd hml0 hP hK
  obtain ⟨rfl, hZ, hh⟩ := hP
  have hx := Bd.exec
  have hby := Bd.bytes
  have hml : c.maxLocals = 2 := hml0
  have hown : s.vm.findClass "java/util/Arrays" = some m.cls := findClass_of_methodNamed Bd.named
  have hnm := (name_of_methodNamed Bd.named Bd.method).1
  have X0 : Stand p l e ({ frames := 2, cells := 1, slots := 3, locals := 75 } : Room) s m #[(.ref b), (.int (3 : Int32))] below meth c s₁ [] 0 0 := Stand.of_body Bd
  have e0 : s₁.heap = h0 := by rw [← hh, Bd.state]; rfl
  have N0 := Fr.nil n0
  refine own_start (ef_rmC2_3 m b (3 : Int32)) ?_
  intro F hF
  show own_Gl p.tables e below F (s₁.setTop (mkF m 0 #[.val (.ref b), .val (.int (3 : Int32))] []))
  refine own_go (fun _ k => XS.aloadN X0.here hx rfl (hb hby d32_0) rfl rfl k) ?_
  show own_Gl p.tables e below F (s₁.setTop (mkF m 1 #[.val (.ref b), .val (.int (3 : Int32))] [(.ref b)]))
  refine own_go (fun _ k => XS.iloadN X0.here hx rfl (hb hby d32_1) rfl k) ?_
  show own_Gl p.tables e below F (s₁.setTop (mkF m 2 #[.val (.ref b), .val (.int (3 : Int32))] [(.int (3 : Int32)), (.ref b)]))
  refine own_go (fun _ k => XS.aloadN X0.here hx rfl (hb hby d32_2) rfl rfl k) ?_
  show own_Gl p.tables e below F (s₁.setTop (mkF m 3 #[.val (.ref b), .val (.int (3 : Int32))] [(.ref b), (.int (3 : Int32)), (.ref b)]))
  obtain ⟨TG, XG, eG, stG⟩ := gcls X0 hx hZ hown (hw _ (List.mem_of_getElem? (i := 197) rfl)) (hw _ (List.mem_of_getElem? (i := 198) rfl)) (hw _ (List.mem_of_getElem? (i := 109) rfl)) (hw _ (List.mem_of_getElem? (i := 200) rfl)) (hw _ (List.mem_of_getElem? (i := 199) rfl)) (hw _ (List.mem_of_getElem? (i := 201) rfl)) e0 EB MI (g := (mkF m 3 #[.val (.ref b), .val (.int (3 : Int32))] [(.ref b), (.int (3 : Int32)), (.ref b)])) rfl (by rw [hml]; rfl) rfl (hb hby d32_3) (by decide) (W := 2) (by show 2 * 0 + _ ≤ _; exact Nat.le_of_eq rfl) (by decide)
  refine own_go stG ?_
  show own_Gl p.tables e below F (TG.setTop (mkF m 6 #[.val (.ref b), .val (.int (3 : Int32))] [(.ref mi), (.int (3 : Int32)), (.ref b)]))
  obtain ⟨_, _, ⟨T1, L1, k1, n1⟩, -, X1, ⟨Lc1, hQ1, l1, y1, z1⟩, st1⟩ := Jvm.LawKit.callS XG hx (y := (⟨"java/util/Arrays", "copyOf", "([Ljava/lang/Object;ILjava/lang/Class;)[Ljava/lang/Object;"⟩ : MethodName)) hown (mvT hZ (hw _ (List.mem_of_getElem? (i := 203) rfl))) (mvT hZ (hw _ (List.mem_of_getElem? (i := 204) rfl))) (mvT hZ (hw _ (List.mem_of_getElem? (i := 195) rfl))) (mvT hZ (hw _ (List.mem_of_getElem? (i := 205) rfl))) (by decide) (backOf (W := 0) (rmC3_3 l Z a0 hw [] b mi kb x0 x1 x2 h0 n0 Z0 VB EB MI EX0 EX1 EX2) hZ (hw _ (List.mem_of_getElem? (i := 205) rfl)) (hw _ (List.mem_of_getElem? (i := 195) rfl)) (by decide) (by decide)) (g := (mkF m 6 #[.val (.ref b), .val (.int (3 : Int32))] [(.ref mi), (.int (3 : Int32)), (.ref b)])) rfl (by rw [hml]; rfl) (argsL := [(.ref b), (.int (3 : Int32)), (.ref mi)]) (rest := []) (lenOf pd_11 rfl) rfl (by show 2 * 0 + _ ≤ _; exact Nat.le_of_eq rfl) (hb hby d32_6) (fun _ _ => ⟨rfl, eG, (by first | decide | exact Nat.le_of_ble_eq_true rfl), (by first | decide | exact Nat.le_of_ble_eq_true rfl)⟩)
  dsimp only [Pt.U, Pt.locs, Pt.cells, Pt.slots] at X1 l1 y1 z1 st1 hQ1
  have X1 := own_sn X1 (k' := 1) (n' := 3) y1 z1
  obtain ⟨t1, kt1, rfl, N1, K1, ht1, VT1, OT1⟩ := hQ1
  have NF1 := own_fr l1 N0 N1
  have Z1 : n0 ≤ T1.heap.size := Nat.le_trans Z0 K1.1
  have KK1 := Keep.trans (Keep.refl h0 []) K1 (fun _ q => nomatch q)
  refine own_go st1 ?_
  show own_Gl p.tables e below F (T1.setTop (mkF m 9 #[.val (.ref b), .val (.int (3 : Int32))] [(.ref t1)]))
  obtain ⟨fs, hr, hrun, hended, hW, hsame⟩ := X1.leave (v := some (.ref t1)) (fun h => by rw [Bd.returns] at h; cases h)
  subst hF
  refine own_fin ?_ ⟨hrun, hended, _, _, rfl, ?_, ⟨_, rfl⟩, hW, hsame.mono (by first | decide | exact Nat.le_of_ble_eq_true rfl) (by first | decide | exact Nat.le_of_ble_eq_true rfl)⟩
  · exact own_retA X1 hx Bd.returns rfl rfl (hb hby d32_9) hr
  · show Q_rmC2_3 Z _ _ _ _ _ _ h0 n0 _ T1.heap _
    exact ⟨t1, kt1, rfl, NF1, KK1, ht1, VT1, OT1⟩
theorem ef_rmTA_3 (m : MethodId) (x0 : Addr) : entryFrame m #[(.ref x0)] 1 = mkF m 0 #[.val (.ref x0)] [] := by first | (simp [entryFrame, mkF, argsToLocals, Value.category]; done) | rfl
def Q_rmTA_3 (Z : State) (a b mi : Addr) (kb : ClassId) (x0 x1 x2 : Addr) (h0 : Heap) (n0 : Nat) (v : Option Value) (h : Heap) (L : List Loc) : Prop := ∃ (t : Addr) (kt : ClassId), v = some (.ref t) ∧ Fr n0 L ∧ Keep h0 h [] ∧ h0.size ≤ t ∧ Arv Z h t kt (.object "java/lang/Object") 3 [(.ref x0), (.ref x1), (.ref x2)] .null ∧ Ovr Z kt "java/lang/Object"
set_option maxRecDepth 65536 in
set_option maxHeartbeats 40000000 in
theorem rmTA_3 (l : Launch) (Z : State) (a0 : Array Value) (hw : ∀ d ∈ tables_1, d.before a0 Z = true) (ws : List Jvm.Cond) (a b mi : Addr) (kb : ClassId) (x0 x1 x2 : Addr) (h0 : Heap) (n0 : Nat) (Z0 : n0 ≤ h0.size) (FD : Fld Z h0 a "java/util/ArrayList" "elementData" "[Ljava/lang/Object;" (.ref b)) (FS : Fld Z h0 a "java/util/ArrayList" "size" "I" (.int 3)) (VB : Arv Z h0 b kb (.object "java/lang/Object") 10 [(.ref x0), (.ref x1), (.ref x2), .null, .null, .null, .null, .null, .null, .null] .null) (EB : Exa Z h0 b "[Ljava/lang/Object;") (MI : Mir Z "[Ljava/lang/Object;" mi) (EX0 : Exa Z h0 x0 "java/lang/String") (EX1 : Exa Z h0 x1 "java/lang/String") (EX2 : Exa Z h0 x2 "java/lang/String") :
    MetFree l (⟨"java/util/ArrayList", "toArray", "()[Ljava/lang/Object;"⟩ : MethodName) (head1 (Jvm.Cond.code (⟨"java/util/ArrayList", "toArray", "()[Ljava/lang/Object;"⟩ : MethodName) jdk_38_method_16_code 1 (some (.array (.object "java/lang/Object"))) :: ws) ({ frames := 3, cells := 1, slots := 3, locals := 88 } : Room)) (fun ag U => ag = #[(.ref a)] ∧ Z.Warmed39 U.vm ∧ U.heap = h0) (fun _ _ _ _ _ => True) (fun _ U o U' => ∃ v L, o = .returned v ∧ Q_rmTA_3 Z a b mi kb x0 x1 x2 h0 n0 v U'.heap L ∧ FrameEnd U o U' L ({ frames := 3, cells := 1, slots := 3, locals := 88 } : Room).cells ({ frames := 3, cells := 1, slots := 3, locals := 88 } : Room).slots) := by
  refine MetFree.of_bodySF (plainFor_of_name pn_8) hisR ?_
  intro p e s m args below meth c s₁ Bd hml0 hP hK
  obtain ⟨rfl, hZ, hh⟩ := hP
  have hx := Bd.exec
  have hby := Bd.bytes
  have hml : c.maxLocals = 1 := hml0
  have hown : s.vm.findClass "java/util/ArrayList" = some m.cls := findClass_of_methodNamed Bd.named
  have hnm := (name_of_methodNamed Bd.named Bd.method).1
  have X0 : Stand p l e ({ frames := 3, cells := 1, slots := 3, locals := 88 } : Room) s m #[(.ref a)] below meth c s₁ [] 0 0 := Stand.of_body Bd
  have e0 : s₁.heap = h0 := by rw [← hh, Bd.state]; rfl
  have N0 := Fr.nil n0
  refine own_start (ef_rmTA_3 m a) ?_
  intro F hF
  show own_Gl p.tables e below F (s₁.setTop (mkF m 0 #[.val (.ref a)] []))
  refine own_go (fun _ k => XS.aloadN X0.here hx rfl (hb hby d31_0) rfl rfl k) ?_
  show own_Gl p.tables e below F (s₁.setTop (mkF m 1 #[.val (.ref a)] [(.ref a)]))
  obtain ⟨T1, X1, e1, st1⟩ := getF X0 hx hZ hown (host := "") (Or.inl (hw _ (List.mem_of_getElem? (i := 66) rfl))) Via.refl e0 FD (g := (mkF m 1 #[.val (.ref a)] [(.ref a)])) rfl rfl (hb hby d31_1)
  refine own_go st1 ?_
  show own_Gl p.tables e below F (T1.setTop (mkF m 4 #[.val (.ref a)] [(.ref b)]))
  refine own_go (fun _ k => XS.aloadN X1.here hx rfl (hb hby d31_4) rfl rfl k) ?_
  show own_Gl p.tables e below F (T1.setTop (mkF m 5 #[.val (.ref a)] [(.ref a), (.ref b)]))
  obtain ⟨T2, X2, e2, st2⟩ := getF X1 hx hZ hown (host := "") (Or.inl (hw _ (List.mem_of_getElem? (i := 120) rfl))) Via.refl e1 FS (g := (mkF m 5 #[.val (.ref a)] [(.ref a), (.ref b)])) rfl rfl (hb hby d31_5)
  refine own_go st2 ?_
  show own_Gl p.tables e below F (T2.setTop (mkF m 8 #[.val (.ref a)] [(.int (3 : Int32)), (.ref b)]))
  obtain ⟨_, _, ⟨T3, L3, k3, n3⟩, -, X3, ⟨Lc3, hQ3, l3, y3, z3⟩, st3⟩ := Jvm.LawKit.callS X2 hx (y := (⟨"java/util/Arrays", "copyOf", "([Ljava/lang/Object;I)[Ljava/lang/Object;"⟩ : MethodName)) hown (mvT hZ (hw _ (List.mem_of_getElem? (i := 193) rfl))) (mvT hZ (hw _ (List.mem_of_getElem? (i := 194) rfl))) (mvT hZ (hw _ (List.mem_of_getElem? (i := 195) rfl))) (mvT hZ (hw _ (List.mem_of_getElem? (i := 196) rfl))) (by decide) (backOf (W := 0) (rmC2_3 l Z a0 hw [] b mi kb x0 x1 x2 h0 n0 Z0 VB EB MI EX0 EX1 EX2) hZ (hw _ (List.mem_of_getElem? (i := 196) rfl)) (hw _ (List.mem_of_getElem? (i := 195) rfl)) (by decide) (by decide)) (g := (mkF m 8 #[.val (.ref a)] [(.int (3 : Int32)), (.ref b)])) rfl (by rw [hml]; rfl) (argsL := [(.ref b), (.int (3 : Int32))]) (rest := []) (lenOf pd_12 rfl) rfl (by show 2 * 0 + _ ≤ _; exact Nat.le_of_eq rfl) (hb hby d31_8) (fun _ _ => ⟨rfl, e2, (by first | decide | exact Nat.le_of_ble_eq_true rfl), (by first | decide | exact Nat.le_of_ble_eq_true rfl)⟩)
  dsimp only [Pt.U, Pt.locs, Pt.cells, Pt.slots] at X3 l3 y3 z3 st3 hQ3
  have X3 := own_sn X3 (k' := 1) (n' := 3) y3 z3
  obtain ⟨t3, kt3, rfl, N3, K3, ht3, VT3, OT3⟩ := hQ3
  have NF3 := own_fr l3 N0 N3
  have Z3 : n0 ≤ T3.heap.size := Nat.le_trans Z0 K3.1
  have KK3 := Keep.trans (Keep.refl h0 []) K3 (fun _ q => nomatch q)
  refine own_go st3 ?_
  show own_Gl p.tables e below F (T3.setTop (mkF m 11 #[.val (.ref a)] [(.ref t3)]))
  obtain ⟨fs, hr, hrun, hended, hW, hsame⟩ := X3.leave (v := some (.ref t3)) (fun h => by rw [Bd.returns] at h; cases h)
  subst hF
  refine own_fin ?_ ⟨hrun, hended, _, _, rfl, ?_, ⟨_, rfl⟩, hW, hsame.mono (by first | decide | exact Nat.le_of_ble_eq_true rfl) (by first | decide | exact Nat.le_of_ble_eq_true rfl)⟩
  · exact own_retA X3 hx Bd.returns rfl rfl (hb hby d31_11) hr
  · show Q_rmTA_3 Z _ _ _ _ _ _ _ h0 n0 _ T3.heap _
    exact ⟨t3, kt3, rfl, NF3, KK3, ht3, VT3, OT3⟩
theorem ef_rmL1 (m : MethodId) (x0 : Addr) (x1 : Addr) : entryFrame m #[(.ref x0), (.ref x1)] 2 = mkF m 0 #[.val (.ref x0), .val (.ref x1)] [] := by first | (simp [entryFrame, mkF, argsToLocals, Value.category]; done) | rfl
theorem pn_11 : plainName "java/util/ImmutableCollections$List12" = true := by first | (simp [plainName, overriddenIn]; done) | decide +kernel
theorem d42_0 : decode jdk_44_method_1_code 0 = .ok (.aload_n 0, 1) := by decide +kernel
theorem d42_1 : decode jdk_44_method_1_code 1 = .ok (.invokespecial 1, 3) := by decide +kernel
theorem d42_4 : decode jdk_44_method_1_code 4 = .ok (.aload_n 0, 1) := by decide +kernel
theorem d42_5 : decode jdk_44_method_1_code 5 = .ok (.aload_n 1, 1) := by decide +kernel
theorem d42_6 : decode jdk_44_method_1_code 6 = .ok (.invokestatic 7, 3) := by decide +kernel
theorem d42_9 : decode jdk_44_method_1_code 9 = .ok (.putfield 13, 3) := by decide +kernel
theorem d42_12 : decode jdk_44_method_1_code 12 = .ok (.aload_n 0, 1) := by decide +kernel
theorem d42_13 : decode jdk_44_method_1_code 13 = .ok (.getstatic 19, 3) := by decide +kernel
theorem d42_16 : decode jdk_44_method_1_code 16 = .ok (.putfield 24, 3) := by decide +kernel
theorem d42_19 : decode jdk_44_method_1_code 19 = .ok (.return_, 1) := by decide +kernel
def Q_rmL1 (Z : State) (a x0 : Addr) (em : Addr) (h0 : Heap) (n0 : Nat) (v : Option Value) (h : Heap) (L : List Loc) : Prop := v = none ∧ Fr n0 L ∧ Keep h0 h [a] ∧ Exa Z h a "java/util/ImmutableCollections$List12"
set_option maxRecDepth 65536 in
set_option maxHeartbeats 40000000 in
theorem rmL1 (l : Launch) (Z : State) (a0 : Array Value) (hw : ∀ d ∈ tables_1, d.before a0 Z = true) (ws : List Jvm.Cond) (a x0 : Addr) (em : Addr) (h0 : Heap) (n0 : Nat) (Z0 : n0 ≤ h0.size) (E_a : Exa Z h0 a "java/util/ImmutableCollections$List12") (F_e0 : Fld Z h0 a "java/util/ImmutableCollections$List12" "e0" "Ljava/lang/Object;" .null) (F_e1 : Fld Z h0 a "java/util/ImmutableCollections$List12" "e1" "Ljava/lang/Object;" .null) (g_a : n0 ≤ a) (OO : Old Z n0 h0) (SM : Sta Z Z.heap "java/util/ImmutableCollections" "EMPTY" "Ljava/lang/Object;" (.ref em)) :
    MetFree l (⟨"java/util/ImmutableCollections$List12", "<init>", "(Ljava/lang/Object;)V"⟩ : MethodName) (head1 (Jvm.Cond.code (⟨"java/util/ImmutableCollections$List12", "<init>", "(Ljava/lang/Object;)V"⟩ : MethodName) jdk_44_method_1_code 2 none :: ws) ({ frames := 4, cells := 0, slots := 0, locals := 48 } : Room)) (fun ag U => ag = #[(.ref a), (.ref x0)] ∧ Z.Warmed39 U.vm ∧ U.heap = h0) (fun _ _ _ _ _ => True) (fun _ U o U' => ∃ v L, o = .returned v ∧ Q_rmL1 Z a x0 em h0 n0 v U'.heap L ∧ FrameEnd U o U' L ({ frames := 4, cells := 0, slots := 0, locals := 48 } : Room).cells ({ frames := 4, cells := 0, slots := 0, locals := 48 } : Room).slots) := by
  refine MetFree.of_bodySF (plainFor_of_name pn_11) hisR ?_
  intro p e s m args below meth c s₁ Bd hml0 hP hK
  obtain ⟨rfl, hZ, hh⟩ := hP
  have hx := Bd.exec
  have hby := Bd.bytes
  have hml : c.maxLocals = 2 := hml0
  have hown : s.vm.findClass "java/util/ImmutableCollections$List12" = some m.cls := findClass_of_methodNamed Bd.named
  have hnm := (name_of_methodNamed Bd.named Bd.method).1
  have X0 : Stand p l e ({ frames := 4, cells := 0, slots := 0, locals := 48 } : Room) s m #[(.ref a), (.ref x0)] below meth c s₁ [] 0 0 := Stand.of_body Bd
  have e0 : s₁.heap = h0 := by rw [← hh, Bd.state]; rfl
  have N0 := Fr.nil n0
  refine own_start (ef_rmL1 m a x0) ?_
  intro F hF
  show own_Gl p.tables e below F (s₁.setTop (mkF m 0 #[.val (.ref a), .val (.ref x0)] []))
  have U0 := SM.ext OO.2
  refine own_go (fun _ k => XS.aloadN X0.here hx rfl (hb hby d42_0) rfl rfl k) ?_
  show own_Gl p.tables e below F (s₁.setTop (mkF m 1 #[.val (.ref a), .val (.ref x0)] [(.ref a)]))
  obtain ⟨_, _, ⟨T1, L1, k1, n1⟩, -, X1, ⟨Lc1, hQ1, l1, y1, z1⟩, st1⟩ := X0.specialBack hx (y := (⟨"java/util/ImmutableCollections$AbstractImmutableList", "<init>", "()V"⟩ : MethodName)) rfl hown (mvT hZ (hw _ (List.mem_of_getElem? (i := 251) rfl))) (mvT hZ (hw _ (List.mem_of_getElem? (i := 229) rfl))) (mvT hZ (hw _ (List.mem_of_getElem? (i := 233) rfl))) (by decide) (backOf (W := 0) (rm38 l Z a0 hw [] a  h0 n0 Z0 ) hZ (hw _ (List.mem_of_getElem? (i := 233) rfl)) (hw _ (List.mem_of_getElem? (i := 232) rfl)) (by decide) (by decide)) (g := (mkF m 1 #[.val (.ref a), .val (.ref x0)] [(.ref a)])) rfl (by rw [hml]; rfl) (Steps.refl _) (a := a) (argsL := []) (rest := []) (lenOf pd_1 rfl) rfl (by show 2 * 0 + _ ≤ _; exact Nat.le_of_eq rfl) (hb hby d42_1) (fun _ _ => ⟨rfl, e0, (by first | decide | exact Nat.le_of_ble_eq_true rfl), (by first | decide | exact Nat.le_of_ble_eq_true rfl)⟩)
  dsimp only [Pt.U, Pt.locs, Pt.cells, Pt.slots] at X1 l1 y1 z1 st1 hQ1
  have X1 := own_sn X1 (k' := 0) (n' := 0) y1 z1
  obtain ⟨rfl, N1, e1⟩ := hQ1
  have NF1 := own_fr l1 N0 N1
  refine own_go (fun _ k => st1.trans k) ?_
  show own_Gl p.tables e below F (T1.setTop (mkF m 4 #[.val (.ref a), .val (.ref x0)] []))
  refine own_go (fun _ k => XS.aloadN X1.here hx rfl (hb hby d42_4) rfl rfl k) ?_
  show own_Gl p.tables e below F (T1.setTop (mkF m 5 #[.val (.ref a), .val (.ref x0)] [(.ref a)]))
  refine own_go (fun _ k => XS.aloadN X1.here hx rfl (hb hby d42_5) rfl rfl k) ?_
  show own_Gl p.tables e below F (T1.setTop (mkF m 6 #[.val (.ref a), .val (.ref x0)] [(.ref x0), (.ref a)]))
  obtain ⟨_, _, ⟨T2, L2, k2, n2⟩, -, X2, ⟨Lc2, hQ2, l2, y2, z2⟩, st2⟩ := Jvm.LawKit.callS X1 hx (y := (⟨"java/util/Objects", "requireNonNull", "(Ljava/lang/Object;)Ljava/lang/Object;"⟩ : MethodName)) hown (mvT hZ (hw _ (List.mem_of_getElem? (i := 255) rfl))) (mvT hZ (hw _ (List.mem_of_getElem? (i := 75) rfl))) (mvT hZ (hw _ (List.mem_of_getElem? (i := 76) rfl))) (mvT hZ (hw _ (List.mem_of_getElem? (i := 77) rfl))) (by decide) (backOf (W := 1) (rm15 l Z a0 hw [] x0  h0 n0 Z0 ) hZ (hw _ (List.mem_of_getElem? (i := 77) rfl)) (hw _ (List.mem_of_getElem? (i := 76) rfl)) (by decide) (by decide)) (g := (mkF m 6 #[.val (.ref a), .val (.ref x0)] [(.ref x0), (.ref a)])) rfl (by rw [hml]; rfl) (argsL := [(.ref x0)]) (rest := [(.ref a)]) (lenOf pd_9 rfl) rfl (by show 2 * 0 + _ ≤ _; exact Nat.le_of_eq rfl) (hb hby d42_6) (fun _ _ => ⟨rfl, e1, (by first | decide | exact Nat.le_of_ble_eq_true rfl), (by first | decide | exact Nat.le_of_ble_eq_true rfl)⟩)
  dsimp only [Pt.U, Pt.locs, Pt.cells, Pt.slots] at X2 l2 y2 z2 st2 hQ2
  have X2 := own_sn X2 (k' := 0) (n' := 0) y2 z2
  obtain ⟨rfl, N2, e2⟩ := hQ2
  have NF2 := own_fr l2 NF1 N2
  refine own_go st2 ?_
  show own_Gl p.tables e below F (T2.setTop (mkF m 9 #[.val (.ref a), .val (.ref x0)] [(.ref x0), (.ref a)]))
  obtain ⟨T3, h3, X3, e3, W3, st3⟩ := putF X2 hx hZ hown (host := "") (Or.inl (hw _ (List.mem_of_getElem? (i := 256) rfl))) Via.refl e2 F_e0 E_a (Or.inr ⟨(hw _ (List.mem_of_getElem? (i := 257) rfl)), rfl, hnm⟩) (hw _ (List.mem_of_getElem? (i := 245) rfl)) (ty := (.object "java/lang/Object")) (by decide) rfl rfl (g := (mkF m 9 #[.val (.ref a), .val (.ref x0)] [(.ref x0), (.ref a)])) rfl rfl (hb hby d42_9)
  have Fw3 := F_e0.same W3
  have f3_1 := E_a.wr W3
  have f3_3 := F_e1.other W3 (Or.inr (slot_ne (Or.inr (hw _ (List.mem_of_getElem? (i := 259) rfl))) (Or.inr (hw _ (List.mem_of_getElem? (i := 257) rfl))) (by decide) (t := (.object "java/lang/Object")) (t' := (.object "java/lang/Object")) (by decide) (by decide)))
  have f3_4 := U0.wr W3
  have Z3 : n0 ≤ h3.size := by rw [W3.size]; exact Z0
  have K3 := Keep.wr (Keep.refl h0 [a]) W3 (Or.inl (by simp))
  have N3 := Fr.snoc X3 NF2 g_a
  refine own_go st3 ?_
  show own_Gl p.tables e below F (T3.setTop (mkF m 12 #[.val (.ref a), .val (.ref x0)] []))
  refine own_go (fun _ k => XS.aloadN X3.here hx rfl (hb hby d42_12) rfl rfl k) ?_
  show own_Gl p.tables e below F (T3.setTop (mkF m 13 #[.val (.ref a), .val (.ref x0)] [(.ref a)]))
  obtain ⟨T4, X4, e4, st4⟩ := getS2 X3 hx hZ hown (Or.inr (hw _ (List.mem_of_getElem? (i := 269) rfl))) Via.refl e3 f3_4 (g := (mkF m 13 #[.val (.ref a), .val (.ref x0)] [(.ref a)])) rfl (hb hby d42_13)
  refine own_go st4 ?_
  show own_Gl p.tables e below F (T4.setTop (mkF m 16 #[.val (.ref a), .val (.ref x0)] [(.ref em), (.ref a)]))
  obtain ⟨T5, h5, X5, e5, W5, st5⟩ := putF X4 hx hZ hown (host := "") (Or.inl (hw _ (List.mem_of_getElem? (i := 258) rfl))) Via.refl e4 f3_3 f3_1 (Or.inr ⟨(hw _ (List.mem_of_getElem? (i := 259) rfl)), rfl, hnm⟩) (hw _ (List.mem_of_getElem? (i := 245) rfl)) (ty := (.object "java/lang/Object")) (by decide) rfl rfl (g := (mkF m 16 #[.val (.ref a), .val (.ref x0)] [(.ref em), (.ref a)])) rfl rfl (hb hby d42_16)
  have Fw5 := f3_3.same W5
  have f5_1 := f3_1.wr W5
  have f5_2 := Fw3.other W5 (Or.inr (slot_ne (Or.inr (hw _ (List.mem_of_getElem? (i := 257) rfl))) (Or.inr (hw _ (List.mem_of_getElem? (i := 259) rfl))) (by decide) (t := (.object "java/lang/Object")) (t' := (.object "java/lang/Object")) (by decide) (by decide)))
  have f5_4 := f3_4.wr W5
  have Z5 : n0 ≤ h5.size := by rw [W5.size]; exact Z3
  have K5 := Keep.wr K3 W5 (Or.inl (by simp))
  have N5 := Fr.snoc X5 N3 g_a
  refine own_go st5 ?_
  show own_Gl p.tables e below F (T5.setTop (mkF m 19 #[.val (.ref a), .val (.ref x0)] []))
  obtain ⟨fs, hr, hrun, hended, hW, hsame⟩ := X5.leave (v := none) (fun _ => rfl)
  subst hF
  refine own_fin ?_ ⟨hrun, hended, _, _, rfl, ?_, ⟨_, rfl⟩, hW, hsame.mono (by first | decide | exact Nat.le_of_ble_eq_true rfl) (by first | decide | exact Nat.le_of_ble_eq_true rfl)⟩
  · exact X5.returnOut hx Bd.returns (hb hby d42_19) hr
  · show Q_rmL1 Z _ _ _ h0 n0 _ T5.heap _
    rw [e5]
    exact ⟨rfl, N5, K5, f5_1⟩
theorem ef_rmL2 (m : MethodId) (x0 : Addr) (x1 : Addr) (x2 : Addr) : entryFrame m #[(.ref x0), (.ref x1), (.ref x2)] 3 = mkF m 0 #[.val (.ref x0), .val (.ref x1), .val (.ref x2)] [] := by first | (simp [entryFrame, mkF, argsToLocals, Value.category]; done) | rfl
theorem d40_0 : decode jdk_44_method_2_code 0 = .ok (.aload_n 0, 1) := by decide +kernel
theorem d40_1 : decode jdk_44_method_2_code 1 = .ok (.invokespecial 1, 3) := by decide +kernel
theorem d40_4 : decode jdk_44_method_2_code 4 = .ok (.aload_n 0, 1) := by decide +kernel
theorem d40_5 : decode jdk_44_method_2_code 5 = .ok (.aload_n 1, 1) := by decide +kernel
theorem d40_6 : decode jdk_44_method_2_code 6 = .ok (.invokestatic 7, 3) := by decide +kernel
theorem d40_9 : decode jdk_44_method_2_code 9 = .ok (.putfield 13, 3) := by decide +kernel
theorem d40_12 : decode jdk_44_method_2_code 12 = .ok (.aload_n 0, 1) := by decide +kernel
theorem d40_13 : decode jdk_44_method_2_code 13 = .ok (.aload_n 2, 1) := by decide +kernel
theorem d40_14 : decode jdk_44_method_2_code 14 = .ok (.invokestatic 7, 3) := by decide +kernel
theorem d40_17 : decode jdk_44_method_2_code 17 = .ok (.putfield 24, 3) := by decide +kernel
theorem d40_20 : decode jdk_44_method_2_code 20 = .ok (.return_, 1) := by decide +kernel
def Q_rmL2 (Z : State) (a x0 x1 : Addr) (h0 : Heap) (n0 : Nat) (v : Option Value) (h : Heap) (L : List Loc) : Prop := v = none ∧ Fr n0 L ∧ Keep h0 h [a] ∧ Exa Z h a "java/util/ImmutableCollections$List12"
set_option maxRecDepth 65536 in
set_option maxHeartbeats 40000000 in
theorem rmL2 (l : Launch) (Z : State) (a0 : Array Value) (hw : ∀ d ∈ tables_1, d.before a0 Z = true) (ws : List Jvm.Cond) (a x0 x1 : Addr) (h0 : Heap) (n0 : Nat) (Z0 : n0 ≤ h0.size) (E_a : Exa Z h0 a "java/util/ImmutableCollections$List12") (F_e0 : Fld Z h0 a "java/util/ImmutableCollections$List12" "e0" "Ljava/lang/Object;" .null) (F_e1 : Fld Z h0 a "java/util/ImmutableCollections$List12" "e1" "Ljava/lang/Object;" .null) (g_a : n0 ≤ a) :
    MetFree l (⟨"java/util/ImmutableCollections$List12", "<init>", "(Ljava/lang/Object;Ljava/lang/Object;)V"⟩ : MethodName) (head1 (Jvm.Cond.code (⟨"java/util/ImmutableCollections$List12", "<init>", "(Ljava/lang/Object;Ljava/lang/Object;)V"⟩ : MethodName) jdk_44_method_2_code 3 none :: ws) ({ frames := 4, cells := 0, slots := 0, locals := 48 } : Room)) (fun ag U => ag = #[(.ref a), (.ref x0), (.ref x1)] ∧ Z.Warmed39 U.vm ∧ U.heap = h0) (fun _ _ _ _ _ => True) (fun _ U o U' => ∃ v L, o = .returned v ∧ Q_rmL2 Z a x0 x1 h0 n0 v U'.heap L ∧ FrameEnd U o U' L ({ frames := 4, cells := 0, slots := 0, locals := 48 } : Room).cells ({ frames := 4, cells := 0, slots := 0, locals := 48 } : Room).slots) := by
  refine MetFree.of_bodySF (plainFor_of_name pn_11) hisR ?_
  intro p e s m args below meth c s₁ Bd hml0 hP hK
  obtain ⟨rfl, hZ, hh⟩ := hP
  have hx := Bd.exec
  have hby := Bd.bytes
  have hml : c.maxLocals = 3 := hml0
  have hown : s.vm.findClass "java/util/ImmutableCollections$List12" = some m.cls := findClass_of_methodNamed Bd.named
  have hnm := (name_of_methodNamed Bd.named Bd.method).1
  have X0 : Stand p l e ({ frames := 4, cells := 0, slots := 0, locals := 48 } : Room) s m #[(.ref a), (.ref x0), (.ref x1)] below meth c s₁ [] 0 0 := Stand.of_body Bd
  have e0 : s₁.heap = h0 := by rw [← hh, Bd.state]; rfl
  have N0 := Fr.nil n0
  refine own_start (ef_rmL2 m a x0 x1) ?_
  intro F hF
  show own_Gl p.tables e below F (s₁.setTop (mkF m 0 #[.val (.ref a), .val (.ref x0), .val (.ref x1)] []))
  refine own_go (fun _ k => XS.aloadN X0.here hx rfl (hb hby d40_0) rfl rfl k) ?_
  show own_Gl p.tables e below F (s₁.setTop (mkF m 1 #[.val (.ref a), .val (.ref x0), .val (.ref x1)] [(.ref a)]))
  obtain ⟨_, _, ⟨T1, L1, k1, n1⟩, -, X1, ⟨Lc1, hQ1, l1, y1, z1⟩, st1⟩ := X0.specialBack hx (y := (⟨"java/util/ImmutableCollections$AbstractImmutableList", "<init>", "()V"⟩ : MethodName)) rfl hown (mvT hZ (hw _ (List.mem_of_getElem? (i := 251) rfl))) (mvT hZ (hw _ (List.mem_of_getElem? (i := 229) rfl))) (mvT hZ (hw _ (List.mem_of_getElem? (i := 233) rfl))) (by decide) (backOf (W := 0) (rm38 l Z a0 hw [] a  h0 n0 Z0 ) hZ (hw _ (List.mem_of_getElem? (i := 233) rfl)) (hw _ (List.mem_of_getElem? (i := 232) rfl)) (by decide) (by decide)) (g := (mkF m 1 #[.val (.ref a), .val (.ref x0), .val (.ref x1)] [(.ref a)])) rfl (by rw [hml]; rfl) (Steps.refl _) (a := a) (argsL := []) (rest := []) (lenOf pd_1 rfl) rfl (by show 2 * 0 + _ ≤ _; exact Nat.le_of_eq rfl) (hb hby d40_1) (fun _ _ => ⟨rfl, e0, (by first | decide | exact Nat.le_of_ble_eq_true rfl), (by first | decide | exact Nat.le_of_ble_eq_true rfl)⟩)
  dsimp only [Pt.U, Pt.locs, Pt.cells, Pt.slots] at X1 l1 y1 z1 st1 hQ1
  have X1 := own_sn X1 (k' := 0) (n' := 0) y1 z1
  obtain ⟨rfl, N1, e1⟩ := hQ1
  have NF1 := own_fr l1 N0 N1
  refine own_go (fun _ k => st1.trans k) ?_
  show own_Gl p.tables e below F (T1.setTop (mkF m 4 #[.val (.ref a), .val (.ref x0), .val (.ref x1)] []))
  refine own_go (fun _ k => XS.aloadN X1.here hx rfl (hb hby d40_4) rfl rfl k) ?_
  show own_Gl p.tables e below F (T1.setTop (mkF m 5 #[.val (.ref a), .val (.ref x0), .val (.ref x1)] [(.ref a)]))
  refine own_go (fun _ k => XS.aloadN X1.here hx rfl (hb hby d40_5) rfl rfl k) ?_
  show own_Gl p.tables e below F (T1.setTop (mkF m 6 #[.val (.ref a), .val (.ref x0), .val (.ref x1)] [(.ref x0), (.ref a)]))
  obtain ⟨_, _, ⟨T2, L2, k2, n2⟩, -, X2, ⟨Lc2, hQ2, l2, y2, z2⟩, st2⟩ := Jvm.LawKit.callS X1 hx (y := (⟨"java/util/Objects", "requireNonNull", "(Ljava/lang/Object;)Ljava/lang/Object;"⟩ : MethodName)) hown (mvT hZ (hw _ (List.mem_of_getElem? (i := 255) rfl))) (mvT hZ (hw _ (List.mem_of_getElem? (i := 75) rfl))) (mvT hZ (hw _ (List.mem_of_getElem? (i := 76) rfl))) (mvT hZ (hw _ (List.mem_of_getElem? (i := 77) rfl))) (by decide) (backOf (W := 1) (rm15 l Z a0 hw [] x0  h0 n0 Z0 ) hZ (hw _ (List.mem_of_getElem? (i := 77) rfl)) (hw _ (List.mem_of_getElem? (i := 76) rfl)) (by decide) (by decide)) (g := (mkF m 6 #[.val (.ref a), .val (.ref x0), .val (.ref x1)] [(.ref x0), (.ref a)])) rfl (by rw [hml]; rfl) (argsL := [(.ref x0)]) (rest := [(.ref a)]) (lenOf pd_9 rfl) rfl (by show 2 * 0 + _ ≤ _; exact Nat.le_of_eq rfl) (hb hby d40_6) (fun _ _ => ⟨rfl, e1, (by first | decide | exact Nat.le_of_ble_eq_true rfl), (by first | decide | exact Nat.le_of_ble_eq_true rfl)⟩)
  dsimp only [Pt.U, Pt.locs, Pt.cells, Pt.slots] at X2 l2 y2 z2 st2 hQ2
  have X2 := own_sn X2 (k' := 0) (n' := 0) y2 z2
  obtain ⟨rfl, N2, e2⟩ := hQ2
  have NF2 := own_fr l2 NF1 N2
  refine own_go st2 ?_
  show own_Gl p.tables e below F (T2.setTop (mkF m 9 #[.val (.ref a), .val (.ref x0), .val (.ref x1)] [(.ref x0), (.ref a)]))
  obtain ⟨T3, h3, X3, e3, W3, st3⟩ := putF X2 hx hZ hown (host := "") (Or.inl (hw _ (List.mem_of_getElem? (i := 256) rfl))) Via.refl e2 F_e0 E_a (Or.inr ⟨(hw _ (List.mem_of_getElem? (i := 257) rfl)), rfl, hnm⟩) (hw _ (List.mem_of_getElem? (i := 245) rfl)) (ty := (.object "java/lang/Object")) (by decide) rfl rfl (g := (mkF m 9 #[.val (.ref a), .val (.ref x0), .val (.ref x1)] [(.ref x0), (.ref a)])) rfl rfl (hb hby d40_9)
  have Fw3 := F_e0.same W3
  have f3_1 := E_a.wr W3
  have f3_3 := F_e1.other W3 (Or.inr (slot_ne (Or.inr (hw _ (List.mem_of_getElem? (i := 259) rfl))) (Or.inr (hw _ (List.mem_of_getElem? (i := 257) rfl))) (by decide) (t := (.object "java/lang/Object")) (t' := (.object "java/lang/Object")) (by decide) (by decide)))
  have Z3 : n0 ≤ h3.size := by rw [W3.size]; exact Z0
  have K3 := Keep.wr (Keep.refl h0 [a]) W3 (Or.inl (by simp))
  have N3 := Fr.snoc X3 NF2 g_a
  refine own_go st3 ?_
  show own_Gl p.tables e below F (T3.setTop (mkF m 12 #[.val (.ref a), .val (.ref x0), .val (.ref x1)] []))
  refine own_go (fun _ k => XS.aloadN X3.here hx rfl (hb hby d40_12) rfl rfl k) ?_
  show own_Gl p.tables e below F (T3.setTop (mkF m 13 #[.val (.ref a), .val (.ref x0), .val (.ref x1)] [(.ref a)]))
  refine own_go (fun _ k => XS.aloadN X3.here hx rfl (hb hby d40_13) rfl rfl k) ?_
  show own_Gl p.tables e below F (T3.setTop (mkF m 14 #[.val (.ref a), .val (.ref x0), .val (.ref x1)] [(.ref x1), (.ref a)]))
  obtain ⟨_, _, ⟨T4, L4, k4, n4⟩, -, X4, ⟨Lc4, hQ4, l4, y4, z4⟩, st4⟩ := Jvm.LawKit.callS X3 hx (y := (⟨"java/util/Objects", "requireNonNull", "(Ljava/lang/Object;)Ljava/lang/Object;"⟩ : MethodName)) hown (mvT hZ (hw _ (List.mem_of_getElem? (i := 255) rfl))) (mvT hZ (hw _ (List.mem_of_getElem? (i := 75) rfl))) (mvT hZ (hw _ (List.mem_of_getElem? (i := 76) rfl))) (mvT hZ (hw _ (List.mem_of_getElem? (i := 77) rfl))) (by decide) (backOf (W := 1) (rm15 l Z a0 hw [] x1  h3 n0 Z3 ) hZ (hw _ (List.mem_of_getElem? (i := 77) rfl)) (hw _ (List.mem_of_getElem? (i := 76) rfl)) (by decide) (by decide)) (g := (mkF m 14 #[.val (.ref a), .val (.ref x0), .val (.ref x1)] [(.ref x1), (.ref a)])) rfl (by rw [hml]; rfl) (argsL := [(.ref x1)]) (rest := [(.ref a)]) (lenOf pd_9 rfl) rfl (by show 2 * 0 + _ ≤ _; exact Nat.le_of_eq rfl) (hb hby d40_14) (fun _ _ => ⟨rfl, e3, (by first | decide | exact Nat.le_of_ble_eq_true rfl), (by first | decide | exact Nat.le_of_ble_eq_true rfl)⟩)
  dsimp only [Pt.U, Pt.locs, Pt.cells, Pt.slots] at X4 l4 y4 z4 st4 hQ4
  have X4 := own_sn X4 (k' := 0) (n' := 0) y4 z4
  obtain ⟨rfl, N4, e4⟩ := hQ4
  have NF4 := own_fr l4 N3 N4
  refine own_go st4 ?_
  show own_Gl p.tables e below F (T4.setTop (mkF m 17 #[.val (.ref a), .val (.ref x0), .val (.ref x1)] [(.ref x1), (.ref a)]))
  obtain ⟨T5, h5, X5, e5, W5, st5⟩ := putF X4 hx hZ hown (host := "") (Or.inl (hw _ (List.mem_of_getElem? (i := 258) rfl))) Via.refl e4 f3_3 f3_1 (Or.inr ⟨(hw _ (List.mem_of_getElem? (i := 259) rfl)), rfl, hnm⟩) (hw _ (List.mem_of_getElem? (i := 245) rfl)) (ty := (.object "java/lang/Object")) (by decide) rfl rfl (g := (mkF m 17 #[.val (.ref a), .val (.ref x0), .val (.ref x1)] [(.ref x1), (.ref a)])) rfl rfl (hb hby d40_17)
  have Fw5 := f3_3.same W5
  have f5_1 := f3_1.wr W5
  have f5_2 := Fw3.other W5 (Or.inr (slot_ne (Or.inr (hw _ (List.mem_of_getElem? (i := 257) rfl))) (Or.inr (hw _ (List.mem_of_getElem? (i := 259) rfl))) (by decide) (t := (.object "java/lang/Object")) (t' := (.object "java/lang/Object")) (by decide) (by decide)))
  have Z5 : n0 ≤ h5.size := by rw [W5.size]; exact Z3
  have K5 := Keep.wr K3 W5 (Or.inl (by simp))
  have N5 := Fr.snoc X5 NF4 g_a
  refine own_go st5 ?_
  show own_Gl p.tables e below F (T5.setTop (mkF m 20 #[.val (.ref a), .val (.ref x0), .val (.ref x1)] []))
  obtain ⟨fs, hr, hrun, hended, hW, hsame⟩ := X5.leave (v := none) (fun _ => rfl)
  subst hF
  refine own_fin ?_ ⟨hrun, hended, _, _, rfl, ?_, ⟨_, rfl⟩, hW, hsame.mono (by first | decide | exact Nat.le_of_ble_eq_true rfl) (by first | decide | exact Nat.le_of_ble_eq_true rfl)⟩
  · exact X5.returnOut hx Bd.returns (hb hby d40_20) hr
  · show Q_rmL2 Z _ _ _ h0 n0 _ T5.heap _
    rw [e5]
    exact ⟨rfl, N5, K5, f5_1⟩
theorem ef_rmLN (m : MethodId) (x0 : Addr) (x1 : Addr) (x2 : Int32) : entryFrame m #[(.ref x0), (.ref x1), (.int x2)] 3 = mkF m 0 #[.val (.ref x0), .val (.ref x1), .val (.int x2)] [] := by first | (simp [entryFrame, mkF, argsToLocals, Value.category]; done) | rfl
theorem pn_12 : plainName "java/util/ImmutableCollections$ListN" = true := by first | (simp [plainName, overriddenIn]; done) | decide +kernel
theorem d37_0 : decode jdk_45_method_1_code 0 = .ok (.aload_n 0, 1) := by decide +kernel
theorem d37_1 : decode jdk_45_method_1_code 1 = .ok (.invokespecial 1, 3) := by decide +kernel
theorem d37_4 : decode jdk_45_method_1_code 4 = .ok (.aload_n 0, 1) := by decide +kernel
theorem d37_5 : decode jdk_45_method_1_code 5 = .ok (.aload_n 1, 1) := by decide +kernel
theorem d37_6 : decode jdk_45_method_1_code 6 = .ok (.putfield 7, 3) := by decide +kernel
theorem d37_9 : decode jdk_45_method_1_code 9 = .ok (.aload_n 0, 1) := by decide +kernel
theorem d37_10 : decode jdk_45_method_1_code 10 = .ok (.iload_n 2, 1) := by decide +kernel
theorem d37_11 : decode jdk_45_method_1_code 11 = .ok (.putfield 13, 3) := by decide +kernel
theorem d37_14 : decode jdk_45_method_1_code 14 = .ok (.return_, 1) := by decide +kernel
def Q_rmLN (Z : State) (a b : Addr) (p2 : Int32) (h0 : Heap) (n0 : Nat) (v : Option Value) (h : Heap) (L : List Loc) : Prop := v = none ∧ Fr n0 L ∧ Keep h0 h [a] ∧ Exa Z h a "java/util/ImmutableCollections$ListN" ∧ Fld Z h a "java/util/ImmutableCollections$ListN" "elements" "[Ljava/lang/Object;" (.ref b) ∧ Fld Z h a "java/util/ImmutableCollections$ListN" "allowNulls" "Z" (.int (nar .boolean p2))
set_option maxRecDepth 65536 in
set_option maxHeartbeats 40000000 in
theorem rmLN (l : Launch) (Z : State) (a0 : Array Value) (hw : ∀ d ∈ tables_1, d.before a0 Z = true) (ws : List Jvm.Cond) (a b : Addr) (p2 : Int32) (h0 : Heap) (n0 : Nat) (Z0 : n0 ≤ h0.size) (E_a : Exa Z h0 a "java/util/ImmutableCollections$ListN") (F_elements : Fld Z h0 a "java/util/ImmutableCollections$ListN" "elements" "[Ljava/lang/Object;" .null) (F_allowNulls : Fld Z h0 a "java/util/ImmutableCollections$ListN" "allowNulls" "Z" (.int 0)) (g_a : n0 ≤ a) :
    MetFree l (⟨"java/util/ImmutableCollections$ListN", "<init>", "([Ljava/lang/Object;Z)V"⟩ : MethodName) (head1 (Jvm.Cond.code (⟨"java/util/ImmutableCollections$ListN", "<init>", "([Ljava/lang/Object;Z)V"⟩ : MethodName) jdk_45_method_1_code 3 none :: ws) ({ frames := 4, cells := 0, slots := 0, locals := 48 } : Room)) (fun ag U => ag = #[(.ref a), (.ref b), (.int p2)] ∧ Z.Warmed39 U.vm ∧ U.heap = h0) (fun _ _ _ _ _ => True) (fun _ U o U' => ∃ v L, o = .returned v ∧ Q_rmLN Z a b p2 h0 n0 v U'.heap L ∧ FrameEnd U o U' L ({ frames := 4, cells := 0, slots := 0, locals := 48 } : Room).cells ({ frames := 4, cells := 0, slots := 0, locals := 48 } : Room).slots) := by
  refine MetFree.of_bodySF (plainFor_of_name pn_12) hisR ?_
  intro p e s m args below meth c s₁ Bd hml0 hP hK
  obtain ⟨rfl, hZ, hh⟩ := hP
  have hx := Bd.exec
  have hby := Bd.bytes
  have hml : c.maxLocals = 3 := hml0
  have hown : s.vm.findClass "java/util/ImmutableCollections$ListN" = some m.cls := findClass_of_methodNamed Bd.named
  have hnm := (name_of_methodNamed Bd.named Bd.method).1
  have X0 : Stand p l e ({ frames := 4, cells := 0, slots := 0, locals := 48 } : Room) s m #[(.ref a), (.ref b), (.int p2)] below meth c s₁ [] 0 0 := Stand.of_body Bd
  have e0 : s₁.heap = h0 := by rw [← hh, Bd.state]; rfl
  have N0 := Fr.nil n0
  refine own_start (ef_rmLN m a b p2) ?_
  intro F hF
  show own_Gl p.tables e below F (s₁.setTop (mkF m 0 #[.val (.ref a), .val (.ref b), .val (.int p2)] []))
  refine own_go (fun _ k => XS.aloadN X0.here hx rfl (hb hby d37_0) rfl rfl k) ?_
  show own_Gl p.tables e below F (s₁.setTop (mkF m 1 #[.val (.ref a), .val (.ref b), .val (.int p2)] [(.ref a)]))
  obtain ⟨_, _, ⟨T1, L1, k1, n1⟩, -, X1, ⟨Lc1, hQ1, l1, y1, z1⟩, st1⟩ := X0.specialBack hx (y := (⟨"java/util/ImmutableCollections$AbstractImmutableList", "<init>", "()V"⟩ : MethodName)) rfl hown (mvT hZ (hw _ (List.mem_of_getElem? (i := 228) rfl))) (mvT hZ (hw _ (List.mem_of_getElem? (i := 229) rfl))) (mvT hZ (hw _ (List.mem_of_getElem? (i := 233) rfl))) (by decide) (backOf (W := 0) (rm38 l Z a0 hw [] a  h0 n0 Z0 ) hZ (hw _ (List.mem_of_getElem? (i := 233) rfl)) (hw _ (List.mem_of_getElem? (i := 232) rfl)) (by decide) (by decide)) (g := (mkF m 1 #[.val (.ref a), .val (.ref b), .val (.int p2)] [(.ref a)])) rfl (by rw [hml]; rfl) (Steps.refl _) (a := a) (argsL := []) (rest := []) (lenOf pd_1 rfl) rfl (by show 2 * 0 + _ ≤ _; exact Nat.le_of_eq rfl) (hb hby d37_1) (fun _ _ => ⟨rfl, e0, (by first | decide | exact Nat.le_of_ble_eq_true rfl), (by first | decide | exact Nat.le_of_ble_eq_true rfl)⟩)
  dsimp only [Pt.U, Pt.locs, Pt.cells, Pt.slots] at X1 l1 y1 z1 st1 hQ1
  have X1 := own_sn X1 (k' := 0) (n' := 0) y1 z1
  obtain ⟨rfl, N1, e1⟩ := hQ1
  have NF1 := own_fr l1 N0 N1
  refine own_go (fun _ k => st1.trans k) ?_
  show own_Gl p.tables e below F (T1.setTop (mkF m 4 #[.val (.ref a), .val (.ref b), .val (.int p2)] []))
  refine own_go (fun _ k => XS.aloadN X1.here hx rfl (hb hby d37_4) rfl rfl k) ?_
  show own_Gl p.tables e below F (T1.setTop (mkF m 5 #[.val (.ref a), .val (.ref b), .val (.int p2)] [(.ref a)]))
  refine own_go (fun _ k => XS.aloadN X1.here hx rfl (hb hby d37_5) rfl rfl k) ?_
  show own_Gl p.tables e below F (T1.setTop (mkF m 6 #[.val (.ref a), .val (.ref b), .val (.int p2)] [(.ref b), (.ref a)]))
  obtain ⟨T2, h2, X2, e2, W2, st2⟩ := putF X1 hx hZ hown (host := "") (Or.inl (hw _ (List.mem_of_getElem? (i := 147) rfl))) Via.refl e1 F_elements E_a (Or.inr ⟨(hw _ (List.mem_of_getElem? (i := 148) rfl)), rfl, hnm⟩) (hw _ (List.mem_of_getElem? (i := 223) rfl)) (ty := (.array (.object "java/lang/Object"))) (by decide) rfl rfl (g := (mkF m 6 #[.val (.ref a), .val (.ref b), .val (.int p2)] [(.ref b), (.ref a)])) rfl rfl (hb hby d37_6)
  have Fw2 := F_elements.same W2
  have f2_1 := E_a.wr W2
  have f2_3 := F_allowNulls.other W2 (Or.inr (slot_ne (Or.inr (hw _ (List.mem_of_getElem? (i := 243) rfl))) (Or.inr (hw _ (List.mem_of_getElem? (i := 148) rfl))) (by decide) (t := .boolean) (t' := (.array (.object "java/lang/Object"))) (by decide) (by decide)))
  have Z2 : n0 ≤ h2.size := by rw [W2.size]; exact Z0
  have K2 := Keep.wr (Keep.refl h0 [a]) W2 (Or.inl (by simp))
  have N2 := Fr.snoc X2 NF1 g_a
  refine own_go st2 ?_
  show own_Gl p.tables e below F (T2.setTop (mkF m 9 #[.val (.ref a), .val (.ref b), .val (.int p2)] []))
  refine own_go (fun _ k => XS.aloadN X2.here hx rfl (hb hby d37_9) rfl rfl k) ?_
  show own_Gl p.tables e below F (T2.setTop (mkF m 10 #[.val (.ref a), .val (.ref b), .val (.int p2)] [(.ref a)]))
  refine own_go (fun _ k => XS.iloadN X2.here hx rfl (hb hby d37_10) rfl k) ?_
  show own_Gl p.tables e below F (T2.setTop (mkF m 11 #[.val (.ref a), .val (.ref b), .val (.int p2)] [(.int p2), (.ref a)]))
  obtain ⟨T3, h3, X3, e3, W3, st3⟩ := putFN X2 hx hZ hown (hw _ (List.mem_of_getElem? (i := 242) rfl)) Via.refl e2 f2_3 f2_1 (Or.inr ⟨(hw _ (List.mem_of_getElem? (i := 243) rfl)), rfl, hnm⟩) (hw _ (List.mem_of_getElem? (i := 223) rfl)) (ty := .boolean) (v' := (.int (nar .boolean p2))) (by decide) rfl (fits_nar_bool _) (g := (mkF m 11 #[.val (.ref a), .val (.ref b), .val (.int p2)] [(.int p2), (.ref a)])) rfl rfl (hb hby d37_11)
  have Fw3 := f2_3.same W3
  have f3_1 := f2_1.wr W3
  have f3_2 := Fw2.other W3 (Or.inr (slot_ne (Or.inr (hw _ (List.mem_of_getElem? (i := 148) rfl))) (Or.inr (hw _ (List.mem_of_getElem? (i := 243) rfl))) (by decide) (t := (.array (.object "java/lang/Object"))) (t' := .boolean) (by decide) (by decide)))
  have Z3 : n0 ≤ h3.size := by rw [W3.size]; exact Z2
  have K3 := Keep.wr K2 W3 (Or.inl (by simp))
  have N3 := Fr.snoc X3 N2 g_a
  refine own_go st3 ?_
  show own_Gl p.tables e below F (T3.setTop (mkF m 14 #[.val (.ref a), .val (.ref b), .val (.int p2)] []))
  obtain ⟨fs, hr, hrun, hended, hW, hsame⟩ := X3.leave (v := none) (fun _ => rfl)
  subst hF
  refine own_fin ?_ ⟨hrun, hended, _, _, rfl, ?_, ⟨_, rfl⟩, hW, hsame.mono (by first | decide | exact Nat.le_of_ble_eq_true rfl) (by first | decide | exact Nat.le_of_ble_eq_true rfl)⟩
  · exact X3.returnOut hx Bd.returns (hb hby d37_14) hr
  · show Q_rmLN Z _ _ _ h0 n0 _ T3.heap _
    rw [e3]
    exact ⟨rfl, N3, K3, f3_1, f3_2, Fw3⟩
theorem ef_rm36 (m : MethodId) (x0 : Addr) : entryFrame m #[(.ref x0)] 3 = mkF m 0 #[.val (.ref x0), .unset, .unset] [] := by first | (simp [entryFrame, mkF, argsToLocals, Value.category]; done) | rfl
theorem pn_13 : plainName "java/util/ImmutableCollections" = true := by first | (simp [plainName, overriddenIn]; done) | decide +kernel
theorem d36_0 : decode jdk_56_method_4_code 0 = .ok (.aload_n 0, 1) := by decide +kernel
theorem d36_1 : decode jdk_56_method_4_code 1 = .ok (.arraylength, 1) := by decide +kernel
theorem d36_2 : decode jdk_56_method_4_code 2 = .ok (.anewarray 2, 3) := by decide +kernel
theorem d36_5 : decode jdk_56_method_4_code 5 = .ok (.astore_n 1, 1) := by decide +kernel
theorem d36_6 : decode jdk_56_method_4_code 6 = .ok (.iconst 0, 1) := by decide +kernel
theorem d36_7 : decode jdk_56_method_4_code 7 = .ok (.istore_n 2, 1) := by decide +kernel
theorem d36_8 : decode jdk_56_method_4_code 8 = .ok (.iload_n 2, 1) := by decide +kernel
theorem d36_9 : decode jdk_56_method_4_code 9 = .ok (.aload_n 0, 1) := by decide +kernel
theorem d36_10 : decode jdk_56_method_4_code 10 = .ok (.arraylength, 1) := by decide +kernel
theorem d36_11 : decode jdk_56_method_4_code 11 = .ok (.if_icmp .ge 18, 3) := by decide +kernel
theorem d36_14 : decode jdk_56_method_4_code 14 = .ok (.aload_n 1, 1) := by decide +kernel
theorem d36_15 : decode jdk_56_method_4_code 15 = .ok (.iload_n 2, 1) := by decide +kernel
theorem d36_16 : decode jdk_56_method_4_code 16 = .ok (.aload_n 0, 1) := by decide +kernel
theorem d36_17 : decode jdk_56_method_4_code 17 = .ok (.iload_n 2, 1) := by decide +kernel
theorem d36_18 : decode jdk_56_method_4_code 18 = .ok (.aaload, 1) := by decide +kernel
theorem d36_19 : decode jdk_56_method_4_code 19 = .ok (.invokestatic 37, 3) := by decide +kernel
theorem d36_22 : decode jdk_56_method_4_code 22 = .ok (.aastore, 1) := by decide +kernel
theorem d36_23 : decode jdk_56_method_4_code 23 = .ok (.iinc 2 1, 3) := by decide +kernel
theorem d36_26 : decode jdk_56_method_4_code 26 = .ok (.goto (-18), 3) := by decide +kernel
theorem d36_29 : decode jdk_56_method_4_code 29 = .ok (.new 12, 3) := by decide +kernel
theorem d36_32 : decode jdk_56_method_4_code 32 = .ok (.dup, 1) := by decide +kernel
theorem d36_33 : decode jdk_56_method_4_code 33 = .ok (.aload_n 1, 1) := by decide +kernel
theorem d36_34 : decode jdk_56_method_4_code 34 = .ok (.iconst 0, 1) := by decide +kernel
theorem d36_35 : decode jdk_56_method_4_code 35 = .ok (.invokespecial 43, 3) := by decide +kernel
theorem pd_13 : parseMethodDescriptor "([Ljava/lang/Object;Z)V" = some ⟨[(.array (.object "java/lang/Object")), .boolean], none⟩ := by decide +kernel
theorem d36_38 : decode jdk_56_method_4_code 38 = .ok (.areturn, 1) := by decide +kernel
def Q_rm36 (Z : State) (t : Addr) (kt : ClassId) (x0 x1 x2 : Addr) (h0 : Heap) (n0 : Nat) (v : Option Value) (h : Heap) (L : List Loc) : Prop := ∃ (y t2 : Addr) (k2 : ClassId), v = some (.ref y) ∧ Fr n0 L ∧ Keep h0 h [] ∧ Exa Z h y "java/util/ImmutableCollections$ListN" ∧ Fld Z h y "java/util/ImmutableCollections$ListN" "elements" "[Ljava/lang/Object;" (.ref t2) ∧ Arv Z h t2 k2 (.object "java/lang/Object") 3 [(.ref x0), (.ref x1), (.ref x2)] .null
set_option maxRecDepth 65536 in
set_option maxHeartbeats 40000000 in
theorem rm36 (l : Launch) (Z : State) (a0 : Array Value) (hw : ∀ d ∈ tables_1, d.before a0 Z = true) (ws : List Jvm.Cond) (t : Addr) (kt : ClassId) (x0 x1 x2 : Addr) (h0 : Heap) (n0 : Nat) (Z0 : n0 ≤ h0.size) (VT : Arv Z h0 t kt (.object "java/lang/Object") 3 [(.ref x0), (.ref x1), (.ref x2)] .null) (EX0 : Exa Z h0 x0 "java/lang/String") (EX1 : Exa Z h0 x1 "java/lang/String") (EX2 : Exa Z h0 x2 "java/lang/String") :
    MetFree l (⟨"java/util/ImmutableCollections", "listFromArray", "([Ljava/lang/Object;)Ljava/util/List;"⟩ : MethodName) (head1 (Jvm.Cond.code (⟨"java/util/ImmutableCollections", "listFromArray", "([Ljava/lang/Object;)Ljava/util/List;"⟩ : MethodName) jdk_56_method_4_code 3 (some (.object "java/util/List")) :: ws) ({ frames := 5, cells := 2, slots := 5, locals := 63 } : Room)) (fun ag U => ag = #[(.ref t)] ∧ Z.Warmed39 U.vm ∧ U.heap = h0) (fun _ _ _ _ _ => True) (fun _ U o U' => ∃ v L, o = .returned v ∧ Q_rm36 Z t kt x0 x1 x2 h0 n0 v U'.heap L ∧ FrameEnd U o U' L ({ frames := 5, cells := 2, slots := 5, locals := 63 } : Room).cells ({ frames := 5, cells := 2, slots := 5, locals := 63 } : Room).slots) := by
  refine MetFree.of_bodySF (plainFor_of_name pn_13) hisR ?_
  intro p e s m args below meth c s₁ Bd hml0 hP hK
  obtain ⟨rfl, hZ, hh⟩ := hP
  have hx := Bd.exec
  have hby := Bd.bytes
  have hml : c.maxLocals = 3 := hml0
  have hown : s.vm.findClass "java/util/ImmutableCollections" = some m.cls := findClass_of_methodNamed Bd.named
  have hnm := (name_of_methodNamed Bd.named Bd.method).1
  have X0 : Stand p l e ({ frames := 5, cells := 2, slots := 5, locals := 63 } : Room) s m #[(.ref t)] below meth c s₁ [] 0 0 := Stand.of_body Bd
  have e0 : s₁.heap = h0 := by rw [← hh, Bd.state]; rfl
  have N0 := Fr.nil n0
  refine own_start (ef_rm36 m t) ?_
  intro F hF
  show own_Gl p.tables e below F (s₁.setTop (mkF m 0 #[.val (.ref t), .unset, .unset] []))
  refine own_go (fun _ k => XS.aloadN X0.here hx rfl (hb hby d36_0) rfl rfl k) ?_
  show own_Gl p.tables e below F (s₁.setTop (mkF m 1 #[.val (.ref t), .unset, .unset] [(.ref t)]))
  obtain ⟨cl1, Ar1, ak1, aS1, aN1, aH1, aG1⟩ := id VT
  refine own_go (fun _ k => X0.arraylength hx (by rw [e0]; exact Ar1.1) (State.isArrayOf_alike hZ.alike Ar1.2.1) (g := (mkF m 1 #[.val (.ref t), .unset, .unset] [(.ref t)])) rfl rfl (hb hby d36_1) _ k) ?_
  rw [len_of aS1 aN1]
  show own_Gl p.tables e below F (s₁.setTop (mkF m 2 #[.val (.ref t), .unset, .unset] [(.int (3 : Int32))]))
  obtain ⟨T2, h2, k2, X2, e2, E2, A2, O2, EA2, st2⟩ := own_newR X0 hx hZ hown (hw _ (List.mem_of_getElem? (i := 221) rfl)) (hw _ (List.mem_of_getElem? (i := 179) rfl)) e0 (g := (mkF m 2 #[.val (.ref t), .unset, .unset] [(.int (3 : Int32))])) rfl (hb hby d36_2) rfl (by decide) (cap := 3) (by decide) (by decide) (by decide) (by decide)
  obtain ⟨b2, g2⟩ : ∃ z, z = h0.size := ⟨_, rfl⟩
  rw [← g2] at A2 st2 EA2
  have ne_t_b2 : t ≠ b2 := Nat.ne_of_lt (Nat.lt_of_lt_of_le VT.lt (Nat.le_of_eq g2.symm))
  have ne_x0_b2 : x0 ≠ b2 := Nat.ne_of_lt (Nat.lt_of_lt_of_le EX0.lt (Nat.le_of_eq g2.symm))
  have ne_x1_b2 : x1 ≠ b2 := Nat.ne_of_lt (Nat.lt_of_lt_of_le EX1.lt (Nat.le_of_eq g2.symm))
  have ne_x2_b2 : x2 ≠ b2 := Nat.ne_of_lt (Nat.lt_of_lt_of_le EX2.lt (Nat.le_of_eq g2.symm))
  have ge_b2 : n0 ≤ b2 := Nat.le_trans Z0 (Nat.le_of_eq g2.symm)
  have sz_b2 : h0.size ≤ b2 := Nat.le_trans ((Keep.refl h0 [])).1 (Nat.le_of_eq g2.symm)
  have f2_0 := VT.ext E2
  have f2_1 := EX0.ext E2
  have f2_2 := EX1.ext E2
  have f2_3 := EX2.ext E2
  have Z2 : n0 ≤ h2.size := Nat.le_trans Z0 E2.1
  have K2 := Keep.ext (Keep.refl h0 []) E2
  have V2 : Arv Z h2 b2 k2 (.object "java/lang/Object") (3 : Int32) [.null, .null, .null] .null := (Arv.new A2 (by decide)).pad (pad_rep [] .null 3)
  have X2 : Stand _ _ _ _ _ _ _ _ _ _ _ _ 1 3 := X2
  refine own_go st2 ?_
  show own_Gl p.tables e below F (T2.setTop (mkF m 5 #[.val (.ref t), .unset, .unset] [(.ref b2)]))
  refine own_go (fun _ k => XS.astoreN X2.here hx rfl (hb hby d36_5) rfl rfl (l' := #[.val (.ref t), .val (.ref b2), .unset]) rfl k) ?_
  show own_Gl p.tables e below F (T2.setTop (mkF m 6 #[.val (.ref t), .val (.ref b2), .unset] []))
  refine own_go (fun _ k => XS.iconst X2.here hx rfl (hb hby d36_6) k) ?_
  show own_Gl p.tables e below F (T2.setTop (mkF m 7 #[.val (.ref t), .val (.ref b2), .unset] [(.int (0 : Int32))]))
  refine own_go (fun _ k => XS.istoreN X2.here hx rfl (hb hby d36_7) rfl (l' := #[.val (.ref t), .val (.ref b2), .val (.int (0 : Int32))]) rfl k) ?_
  show own_Gl p.tables e below F (T2.setTop (mkF m 8 #[.val (.ref t), .val (.ref b2), .val (.int (0 : Int32))] []))
  refine own_go (fun _ k => XS.iloadN X2.here hx rfl (hb hby d36_8) rfl k) ?_
  show own_Gl p.tables e below F (T2.setTop (mkF m 9 #[.val (.ref t), .val (.ref b2), .val (.int (0 : Int32))] [(.int (0 : Int32))]))
  refine own_go (fun _ k => XS.aloadN X2.here hx rfl (hb hby d36_9) rfl rfl k) ?_
  show own_Gl p.tables e below F (T2.setTop (mkF m 10 #[.val (.ref t), .val (.ref b2), .val (.int (0 : Int32))] [(.ref t), (.int (0 : Int32))]))
  obtain ⟨cl3, Ar3, ak3, aS3, aN3, aH3, aG3⟩ := id f2_0
  refine own_go (fun _ k => X2.arraylength hx (by rw [e2]; exact Ar3.1) (State.isArrayOf_alike hZ.alike Ar3.2.1) (g := (mkF m 10 #[.val (.ref t), .val (.ref b2), .val (.int (0 : Int32))] [(.ref t), (.int (0 : Int32))])) rfl rfl (hb hby d36_10) _ k) ?_
  rw [len_of aS3 aN3]
  show own_Gl p.tables e below F (T2.setTop (mkF m 11 #[.val (.ref t), .val (.ref b2), .val (.int (0 : Int32))] [(.int (3 : Int32)), (.int (0 : Int32))]))
  refine own_go (fun _ k => XS.icmpNo X2.here hx rfl (hb hby d36_11) rfl (XT.ii_ge_f (by decide)) k) ?_
  show own_Gl p.tables e below F (T2.setTop (mkF m 14 #[.val (.ref t), .val (.ref b2), .val (.int (0 : Int32))] []))
  refine own_go (fun _ k => XS.aloadN X2.here hx rfl (hb hby d36_14) rfl rfl k) ?_
  show own_Gl p.tables e below F (T2.setTop (mkF m 15 #[.val (.ref t), .val (.ref b2), .val (.int (0 : Int32))] [(.ref b2)]))
  refine own_go (fun _ k => XS.iloadN X2.here hx rfl (hb hby d36_15) rfl k) ?_
  show own_Gl p.tables e below F (T2.setTop (mkF m 16 #[.val (.ref t), .val (.ref b2), .val (.int (0 : Int32))] [(.int (0 : Int32)), (.ref b2)]))
  refine own_go (fun _ k => XS.aloadN X2.here hx rfl (hb hby d36_16) rfl rfl k) ?_
  show own_Gl p.tables e below F (T2.setTop (mkF m 17 #[.val (.ref t), .val (.ref b2), .val (.int (0 : Int32))] [(.ref t), (.int (0 : Int32)), (.ref b2)]))
  refine own_go (fun _ k => XS.iloadN X2.here hx rfl (hb hby d36_17) rfl k) ?_
  show own_Gl p.tables e below F (T2.setTop (mkF m 18 #[.val (.ref t), .val (.ref b2), .val (.int (0 : Int32))] [(.int (0 : Int32)), (.ref t), (.int (0 : Int32)), (.ref b2)]))
  obtain ⟨cl4, Ar4, ak4, aS4, aN4, aH4, aG4⟩ := id f2_0
  have hin4 : ¬ ((0 : Int32) < 0 ∨ cl4.slots.size ≤ ((0 : Int32)).toNatClampNeg) := inb_of aS4 ⟨by decide, by decide⟩
  refine own_go (fun _ k => X2.aaload hx (j := (0 : Int32)) (v := (.ref x0)) (by rw [e2]; exact Ar4.1) (State.isArrayOf_alike hZ.alike Ar4.2.1) rfl Ar4.2.2 hin4 (Has.at aH4 hin4 rfl) (g := (mkF m 18 #[.val (.ref t), .val (.ref b2), .val (.int (0 : Int32))] [(.int (0 : Int32)), (.ref t), (.int (0 : Int32)), (.ref b2)])) rfl rfl (hb hby d36_18) _ k) ?_
  show own_Gl p.tables e below F (T2.setTop (mkF m 19 #[.val (.ref t), .val (.ref b2), .val (.int (0 : Int32))] [(.ref x0), (.int (0 : Int32)), (.ref b2)]))
  obtain ⟨_, _, ⟨T5, L5, k5, n5⟩, -, X5, ⟨Lc5, hQ5, l5, y5, z5⟩, st5⟩ := Jvm.LawKit.callS X2 hx (y := (⟨"java/util/Objects", "requireNonNull", "(Ljava/lang/Object;)Ljava/lang/Object;"⟩ : MethodName)) hown (mvT hZ (hw _ (List.mem_of_getElem? (i := 222) rfl))) (mvT hZ (hw _ (List.mem_of_getElem? (i := 75) rfl))) (mvT hZ (hw _ (List.mem_of_getElem? (i := 76) rfl))) (mvT hZ (hw _ (List.mem_of_getElem? (i := 77) rfl))) (by decide) (backOf (W := 2) (rm15 l Z a0 hw [] x0  h2 n0 Z2 ) hZ (hw _ (List.mem_of_getElem? (i := 77) rfl)) (hw _ (List.mem_of_getElem? (i := 76) rfl)) (by decide) (by decide)) (g := (mkF m 19 #[.val (.ref t), .val (.ref b2), .val (.int (0 : Int32))] [(.ref x0), (.int (0 : Int32)), (.ref b2)])) rfl (by rw [hml]; rfl) (argsL := [(.ref x0)]) (rest := [(.int (0 : Int32)), (.ref b2)]) (lenOf pd_9 rfl) rfl (by show 2 * 0 + _ ≤ _; exact Nat.le_of_eq rfl) (hb hby d36_19) (fun _ _ => ⟨rfl, e2, (by first | decide | exact Nat.le_of_ble_eq_true rfl), (by first | decide | exact Nat.le_of_ble_eq_true rfl)⟩)
  dsimp only [Pt.U, Pt.locs, Pt.cells, Pt.slots] at X5 l5 y5 z5 st5 hQ5
  have X5 := own_sn X5 (k' := 1) (n' := 3) y5 z5
  obtain ⟨rfl, N5, e5⟩ := hQ5
  have NF5 := own_fr l5 N0 N5
  refine own_go st5 ?_
  show own_Gl p.tables e below F (T5.setTop (mkF m 22 #[.val (.ref t), .val (.ref b2), .val (.int (0 : Int32))] [(.ref x0), (.int (0 : Int32)), (.ref b2)]))
  obtain ⟨cl6, Ar6, ak6, aS6, aN6, aH6, aG6⟩ := id V2
  have hin6 : ¬ ((0 : Int32) < 0 ∨ cl6.slots.size ≤ ((0 : Int32)).toNatClampNeg) := inb_of aS6 ⟨by decide, by decide⟩
  obtain ⟨T6, h6, X6, e6, W6, st6⟩ := stR X5 hx hZ e5 Ar6 (j := (0 : Int32)) hin6 rfl (Sto.ofV Ar6 ak6 O2 (Ins.of_exa f2_1 (hw _ (List.mem_of_getElem? (i := 180) rfl)))) (g := (mkF m 22 #[.val (.ref t), .val (.ref b2), .val (.int (0 : Int32))] [(.ref x0), (.int (0 : Int32)), (.ref b2)])) rfl rfl (hb hby d36_22)
  have V6 : Arv Z h6 b2 k2 (.object "java/lang/Object") (3 : Int32) [(.ref x0), .null, .null] .null := Arv.set Ar6 ak6 aS6 aN6 aH6 aG6 rfl W6 0 rfl (by first | decide | exact Nat.le_of_ble_eq_true rfl | simp)
  have f6_1 := f2_0.other W6 ne_t_b2
  have f6_2 := f2_1.wr W6
  have f6_3 := f2_2.wr W6
  have f6_4 := f2_3.wr W6
  have f6_6 := EA2.wr W6
  have Z6 : n0 ≤ h6.size := by rw [W6.size]; exact Z2
  have K6 := Keep.wr K2 W6 (Or.inr sz_b2)
  have N6 := Fr.snoc X6 NF5 ge_b2
  refine own_go st6 ?_
  show own_Gl p.tables e below F (T6.setTop (mkF m 23 #[.val (.ref t), .val (.ref b2), .val (.int (0 : Int32))] []))
  refine own_go (fun _ k => XS.iinc X6.here hx rfl (hb hby d36_23) rfl (l' := #[.val (.ref t), .val (.ref b2), .val (.int ((0 : Int32) + (1 : Int32)))]) rfl k) ?_
  show own_Gl p.tables e below F (T6.setTop (mkF m 26 #[.val (.ref t), .val (.ref b2), .val (.int ((0 : Int32) + (1 : Int32)))] []))
  rw [(by decide : (0 : Int32) + (1 : Int32) = (1 : Int32))]
  show own_Gl p.tables e below F (T6.setTop (mkF m 26 #[.val (.ref t), .val (.ref b2), .val (.int (1 : Int32))] []))
  refine own_go (fun _ k => XS.goto X6.here hx rfl (pc0 := 26) (pc' := 8) rfl (hb hby d36_26) (by decide) (by decide) k) ?_
  show own_Gl p.tables e below F (T6.setTop (mkF m 8 #[.val (.ref t), .val (.ref b2), .val (.int (1 : Int32))] []))
  refine own_go (fun _ k => XS.iloadN X6.here hx rfl (hb hby d36_8) rfl k) ?_
  show own_Gl p.tables e below F (T6.setTop (mkF m 9 #[.val (.ref t), .val (.ref b2), .val (.int (1 : Int32))] [(.int (1 : Int32))]))
  refine own_go (fun _ k => XS.aloadN X6.here hx rfl (hb hby d36_9) rfl rfl k) ?_
  show own_Gl p.tables e below F (T6.setTop (mkF m 10 #[.val (.ref t), .val (.ref b2), .val (.int (1 : Int32))] [(.ref t), (.int (1 : Int32))]))
  obtain ⟨cl7, Ar7, ak7, aS7, aN7, aH7, aG7⟩ := id f6_1
  refine own_go (fun _ k => X6.arraylength hx (by rw [e6]; exact Ar7.1) (State.isArrayOf_alike hZ.alike Ar7.2.1) (g := (mkF m 10 #[.val (.ref t), .val (.ref b2), .val (.int (1 : Int32))] [(.ref t), (.int (1 : Int32))])) rfl rfl (hb hby d36_10) _ k) ?_
  rw [len_of aS7 aN7]
  show own_Gl p.tables e below F (T6.setTop (mkF m 11 #[.val (.ref t), .val (.ref b2), .val (.int (1 : Int32))] [(.int (3 : Int32)), (.int (1 : Int32))]))
  refine own_go (fun _ k => XS.icmpNo X6.here hx rfl (hb hby d36_11) rfl (XT.ii_ge_f (by decide)) k) ?_
  show own_Gl p.tables e below F (T6.setTop (mkF m 14 #[.val (.ref t), .val (.ref b2), .val (.int (1 : Int32))] []))
  refine own_go (fun _ k => XS.aloadN X6.here hx rfl (hb hby d36_14) rfl rfl k) ?_
  show own_Gl p.tables e below F (T6.setTop (mkF m 15 #[.val (.ref t), .val (.ref b2), .val (.int (1 : Int32))] [(.ref b2)]))
  refine own_go (fun _ k => XS.iloadN X6.here hx rfl (hb hby d36_15) rfl k) ?_
  show own_Gl p.tables e below F (T6.setTop (mkF m 16 #[.val (.ref t), .val (.ref b2), .val (.int (1 : Int32))] [(.int (1 : Int32)), (.ref b2)]))
  refine own_go (fun _ k => XS.aloadN X6.here hx rfl (hb hby d36_16) rfl rfl k) ?_
  show own_Gl p.tables e below F (T6.setTop (mkF m 17 #[.val (.ref t), .val (.ref b2), .val (.int (1 : Int32))] [(.ref t), (.int (1 : Int32)), (.ref b2)]))
  refine own_go (fun _ k => XS.iloadN X6.here hx rfl (hb hby d36_17) rfl k) ?_
  show own_Gl p.tables e below F (T6.setTop (mkF m 18 #[.val (.ref t), .val (.ref b2), .val (.int (1 : Int32))] [(.int (1 : Int32)), (.ref t), (.int (1 : Int32)), (.ref b2)]))
  obtain ⟨cl8, Ar8, ak8, aS8, aN8, aH8, aG8⟩ := id f6_1
  have hin8 : ¬ ((1 : Int32) < 0 ∨ cl8.slots.size ≤ ((1 : Int32)).toNatClampNeg) := inb_of aS8 ⟨by decide, by decide⟩
  refine own_go (fun _ k => X6.aaload hx (j := (1 : Int32)) (v := (.ref x1)) (by rw [e6]; exact Ar8.1) (State.isArrayOf_alike hZ.alike Ar8.2.1) rfl Ar8.2.2 hin8 (Has.at aH8 hin8 rfl) (g := (mkF m 18 #[.val (.ref t), .val (.ref b2), .val (.int (1 : Int32))] [(.int (1 : Int32)), (.ref t), (.int (1 : Int32)), (.ref b2)])) rfl rfl (hb hby d36_18) _ k) ?_
  show own_Gl p.tables e below F (T6.setTop (mkF m 19 #[.val (.ref t), .val (.ref b2), .val (.int (1 : Int32))] [(.ref x1), (.int (1 : Int32)), (.ref b2)]))
  obtain ⟨_, _, ⟨T9, L9, k9, n9⟩, -, X9, ⟨Lc9, hQ9, l9, y9, z9⟩, st9⟩ := Jvm.LawKit.callS X6 hx (y := (⟨"java/util/Objects", "requireNonNull", "(Ljava/lang/Object;)Ljava/lang/Object;"⟩ : MethodName)) hown (mvT hZ (hw _ (List.mem_of_getElem? (i := 222) rfl))) (mvT hZ (hw _ (List.mem_of_getElem? (i := 75) rfl))) (mvT hZ (hw _ (List.mem_of_getElem? (i := 76) rfl))) (mvT hZ (hw _ (List.mem_of_getElem? (i := 77) rfl))) (by decide) (backOf (W := 2) (rm15 l Z a0 hw [] x1  h6 n0 Z6 ) hZ (hw _ (List.mem_of_getElem? (i := 77) rfl)) (hw _ (List.mem_of_getElem? (i := 76) rfl)) (by decide) (by decide)) (g := (mkF m 19 #[.val (.ref t), .val (.ref b2), .val (.int (1 : Int32))] [(.ref x1), (.int (1 : Int32)), (.ref b2)])) rfl (by rw [hml]; rfl) (argsL := [(.ref x1)]) (rest := [(.int (1 : Int32)), (.ref b2)]) (lenOf pd_9 rfl) rfl (by show 2 * 0 + _ ≤ _; exact Nat.le_of_eq rfl) (hb hby d36_19) (fun _ _ => ⟨rfl, e6, (by first | decide | exact Nat.le_of_ble_eq_true rfl), (by first | decide | exact Nat.le_of_ble_eq_true rfl)⟩)
  dsimp only [Pt.U, Pt.locs, Pt.cells, Pt.slots] at X9 l9 y9 z9 st9 hQ9
  have X9 := own_sn X9 (k' := 1) (n' := 3) y9 z9
  obtain ⟨rfl, N9, e9⟩ := hQ9
  have NF9 := own_fr l9 N6 N9
  refine own_go st9 ?_
  show own_Gl p.tables e below F (T9.setTop (mkF m 22 #[.val (.ref t), .val (.ref b2), .val (.int (1 : Int32))] [(.ref x1), (.int (1 : Int32)), (.ref b2)]))
  obtain ⟨cl10, Ar10, ak10, aS10, aN10, aH10, aG10⟩ := id V6
  have hin10 : ¬ ((1 : Int32) < 0 ∨ cl10.slots.size ≤ ((1 : Int32)).toNatClampNeg) := inb_of aS10 ⟨by decide, by decide⟩
  obtain ⟨T10, h10, X10, e10, W10, st10⟩ := stR X9 hx hZ e9 Ar10 (j := (1 : Int32)) hin10 rfl (Sto.ofV Ar10 ak10 O2 (Ins.of_exa f6_3 (hw _ (List.mem_of_getElem? (i := 180) rfl)))) (g := (mkF m 22 #[.val (.ref t), .val (.ref b2), .val (.int (1 : Int32))] [(.ref x1), (.int (1 : Int32)), (.ref b2)])) rfl rfl (hb hby d36_22)
  have V10 : Arv Z h10 b2 k2 (.object "java/lang/Object") (3 : Int32) [(.ref x0), (.ref x1), .null] .null := Arv.set Ar10 ak10 aS10 aN10 aH10 aG10 rfl W10 1 rfl (by first | decide | exact Nat.le_of_ble_eq_true rfl | simp)
  have f10_1 := f6_1.other W10 ne_t_b2
  have f10_2 := f6_2.wr W10
  have f10_3 := f6_3.wr W10
  have f10_4 := f6_4.wr W10
  have f10_6 := f6_6.wr W10
  have Z10 : n0 ≤ h10.size := by rw [W10.size]; exact Z6
  have K10 := Keep.wr K6 W10 (Or.inr sz_b2)
  have N10 := Fr.snoc X10 NF9 ge_b2
  refine own_go st10 ?_
  show own_Gl p.tables e below F (T10.setTop (mkF m 23 #[.val (.ref t), .val (.ref b2), .val (.int (1 : Int32))] []))
  refine own_go (fun _ k => XS.iinc X10.here hx rfl (hb hby d36_23) rfl (l' := #[.val (.ref t), .val (.ref b2), .val (.int ((1 : Int32) + (1 : Int32)))]) rfl k) ?_
  show own_Gl p.tables e below F (T10.setTop (mkF m 26 #[.val (.ref t), .val (.ref b2), .val (.int ((1 : Int32) + (1 : Int32)))] []))
  rw [(by decide : (1 : Int32) + (1 : Int32) = (2 : Int32))]
  show own_Gl p.tables e below F (T10.setTop (mkF m 26 #[.val (.ref t), .val (.ref b2), .val (.int (2 : Int32))] []))
  refine own_go (fun _ k => XS.goto X10.here hx rfl (pc0 := 26) (pc' := 8) rfl (hb hby d36_26) (by decide) (by decide) k) ?_
  show own_Gl p.tables e below F (T10.setTop (mkF m 8 #[.val (.ref t), .val (.ref b2), .val (.int (2 : Int32))] []))
  refine own_go (fun _ k => XS.iloadN X10.here hx rfl (hb hby d36_8) rfl k) ?_
  show own_Gl p.tables e below F (T10.setTop (mkF m 9 #[.val (.ref t), .val (.ref b2), .val (.int (2 : Int32))] [(.int (2 : Int32))]))
  refine own_go (fun _ k => XS.aloadN X10.here hx rfl (hb hby d36_9) rfl rfl k) ?_
  show own_Gl p.tables e below F (T10.setTop (mkF m 10 #[.val (.ref t), .val (.ref b2), .val (.int (2 : Int32))] [(.ref t), (.int (2 : Int32))]))
  obtain ⟨cl11, Ar11, ak11, aS11, aN11, aH11, aG11⟩ := id f10_1
  refine own_go (fun _ k => X10.arraylength hx (by rw [e10]; exact Ar11.1) (State.isArrayOf_alike hZ.alike Ar11.2.1) (g := (mkF m 10 #[.val (.ref t), .val (.ref b2), .val (.int (2 : Int32))] [(.ref t), (.int (2 : Int32))])) rfl rfl (hb hby d36_10) _ k) ?_
  rw [len_of aS11 aN11]
  show own_Gl p.tables e below F (T10.setTop (mkF m 11 #[.val (.ref t), .val (.ref b2), .val (.int (2 : Int32))] [(.int (3 : Int32)), (.int (2 : Int32))]))
  refine own_go (fun _ k => XS.icmpNo X10.here hx rfl (hb hby d36_11) rfl (XT.ii_ge_f (by decide)) k) ?_
  show own_Gl p.tables e below F (T10.setTop (mkF m 14 #[.val (.ref t), .val (.ref b2), .val (.int (2 : Int32))] []))
  refine own_go (fun _ k => XS.aloadN X10.here hx rfl (hb hby d36_14) rfl rfl k) ?_
  show own_Gl p.tables e below F (T10.setTop (mkF m 15 #[.val (.ref t), .val (.ref b2), .val (.int (2 : Int32))] [(.ref b2)]))
  refine own_go (fun _ k => XS.iloadN X10.here hx rfl (hb hby d36_15) rfl k) ?_
  show own_Gl p.tables e below F (T10.setTop (mkF m 16 #[.val (.ref t), .val (.ref b2), .val (.int (2 : Int32))] [(.int (2 : Int32)), (.ref b2)]))
  refine own_go (fun _ k => XS.aloadN X10.here hx rfl (hb hby d36_16) rfl rfl k) ?_
  show own_Gl p.tables e below F (T10.setTop (mkF m 17 #[.val (.ref t), .val (.ref b2), .val (.int (2 : Int32))] [(.ref t), (.int (2 : Int32)), (.ref b2)]))
  refine own_go (fun _ k => XS.iloadN X10.here hx rfl (hb hby d36_17) rfl k) ?_
  show own_Gl p.tables e below F (T10.setTop (mkF m 18 #[.val (.ref t), .val (.ref b2), .val (.int (2 : Int32))] [(.int (2 : Int32)), (.ref t), (.int (2 : Int32)), (.ref b2)]))
  obtain ⟨cl12, Ar12, ak12, aS12, aN12, aH12, aG12⟩ := id f10_1
  have hin12 : ¬ ((2 : Int32) < 0 ∨ cl12.slots.size ≤ ((2 : Int32)).toNatClampNeg) := inb_of aS12 ⟨by decide, by decide⟩
  refine own_go (fun _ k => X10.aaload hx (j := (2 : Int32)) (v := (.ref x2)) (by rw [e10]; exact Ar12.1) (State.isArrayOf_alike hZ.alike Ar12.2.1) rfl Ar12.2.2 hin12 (Has.at aH12 hin12 rfl) (g := (mkF m 18 #[.val (.ref t), .val (.ref b2), .val (.int (2 : Int32))] [(.int (2 : Int32)), (.ref t), (.int (2 : Int32)), (.ref b2)])) rfl rfl (hb hby d36_18) _ k) ?_
  show own_Gl p.tables e below F (T10.setTop (mkF m 19 #[.val (.ref t), .val (.ref b2), .val (.int (2 : Int32))] [(.ref x2), (.int (2 : Int32)), (.ref b2)]))
  obtain ⟨_, _, ⟨T13, L13, k13, n13⟩, -, X13, ⟨Lc13, hQ13, l13, y13, z13⟩, st13⟩ := Jvm.LawKit.callS X10 hx (y := (⟨"java/util/Objects", "requireNonNull", "(Ljava/lang/Object;)Ljava/lang/Object;"⟩ : MethodName)) hown (mvT hZ (hw _ (List.mem_of_getElem? (i := 222) rfl))) (mvT hZ (hw _ (List.mem_of_getElem? (i := 75) rfl))) (mvT hZ (hw _ (List.mem_of_getElem? (i := 76) rfl))) (mvT hZ (hw _ (List.mem_of_getElem? (i := 77) rfl))) (by decide) (backOf (W := 2) (rm15 l Z a0 hw [] x2  h10 n0 Z10 ) hZ (hw _ (List.mem_of_getElem? (i := 77) rfl)) (hw _ (List.mem_of_getElem? (i := 76) rfl)) (by decide) (by decide)) (g := (mkF m 19 #[.val (.ref t), .val (.ref b2), .val (.int (2 : Int32))] [(.ref x2), (.int (2 : Int32)), (.ref b2)])) rfl (by rw [hml]; rfl) (argsL := [(.ref x2)]) (rest := [(.int (2 : Int32)), (.ref b2)]) (lenOf pd_9 rfl) rfl (by show 2 * 0 + _ ≤ _; exact Nat.le_of_eq rfl) (hb hby d36_19) (fun _ _ => ⟨rfl, e10, (by first | decide | exact Nat.le_of_ble_eq_true rfl), (by first | decide | exact Nat.le_of_ble_eq_true rfl)⟩)
  dsimp only [Pt.U, Pt.locs, Pt.cells, Pt.slots] at X13 l13 y13 z13 st13 hQ13
  have X13 := own_sn X13 (k' := 1) (n' := 3) y13 z13
  obtain ⟨rfl, N13, e13⟩ := hQ13
  have NF13 := own_fr l13 N10 N13
  refine own_go st13 ?_
  show own_Gl p.tables e below F (T13.setTop (mkF m 22 #[.val (.ref t), .val (.ref b2), .val (.int (2 : Int32))] [(.ref x2), (.int (2 : Int32)), (.ref b2)]))
  obtain ⟨cl14, Ar14, ak14, aS14, aN14, aH14, aG14⟩ := id V10
  have hin14 : ¬ ((2 : Int32) < 0 ∨ cl14.slots.size ≤ ((2 : Int32)).toNatClampNeg) := inb_of aS14 ⟨by decide, by decide⟩
  obtain ⟨T14, h14, X14, e14, W14, st14⟩ := stR X13 hx hZ e13 Ar14 (j := (2 : Int32)) hin14 rfl (Sto.ofV Ar14 ak14 O2 (Ins.of_exa f10_4 (hw _ (List.mem_of_getElem? (i := 180) rfl)))) (g := (mkF m 22 #[.val (.ref t), .val (.ref b2), .val (.int (2 : Int32))] [(.ref x2), (.int (2 : Int32)), (.ref b2)])) rfl rfl (hb hby d36_22)
  have V14 : Arv Z h14 b2 k2 (.object "java/lang/Object") (3 : Int32) [(.ref x0), (.ref x1), (.ref x2)] .null := Arv.set Ar14 ak14 aS14 aN14 aH14 aG14 rfl W14 2 rfl (by first | decide | exact Nat.le_of_ble_eq_true rfl | simp)
  have f14_1 := f10_1.other W14 ne_t_b2
  have f14_2 := f10_2.wr W14
  have f14_3 := f10_3.wr W14
  have f14_4 := f10_4.wr W14
  have f14_6 := f10_6.wr W14
  have Z14 : n0 ≤ h14.size := by rw [W14.size]; exact Z10
  have K14 := Keep.wr K10 W14 (Or.inr sz_b2)
  have N14 := Fr.snoc X14 NF13 ge_b2
  refine own_go st14 ?_
  show own_Gl p.tables e below F (T14.setTop (mkF m 23 #[.val (.ref t), .val (.ref b2), .val (.int (2 : Int32))] []))
  refine own_go (fun _ k => XS.iinc X14.here hx rfl (hb hby d36_23) rfl (l' := #[.val (.ref t), .val (.ref b2), .val (.int ((2 : Int32) + (1 : Int32)))]) rfl k) ?_
  show own_Gl p.tables e below F (T14.setTop (mkF m 26 #[.val (.ref t), .val (.ref b2), .val (.int ((2 : Int32) + (1 : Int32)))] []))
  rw [(by decide : (2 : Int32) + (1 : Int32) = (3 : Int32))]
  show own_Gl p.tables e below F (T14.setTop (mkF m 26 #[.val (.ref t), .val (.ref b2), .val (.int (3 : Int32))] []))
  refine own_go (fun _ k => XS.goto X14.here hx rfl (pc0 := 26) (pc' := 8) rfl (hb hby d36_26) (by decide) (by decide) k) ?_
  show own_Gl p.tables e below F (T14.setTop (mkF m 8 #[.val (.ref t), .val (.ref b2), .val (.int (3 : Int32))] []))
  refine own_go (fun _ k => XS.iloadN X14.here hx rfl (hb hby d36_8) rfl k) ?_
  show own_Gl p.tables e below F (T14.setTop (mkF m 9 #[.val (.ref t), .val (.ref b2), .val (.int (3 : Int32))] [(.int (3 : Int32))]))
  refine own_go (fun _ k => XS.aloadN X14.here hx rfl (hb hby d36_9) rfl rfl k) ?_
  show own_Gl p.tables e below F (T14.setTop (mkF m 10 #[.val (.ref t), .val (.ref b2), .val (.int (3 : Int32))] [(.ref t), (.int (3 : Int32))]))
  obtain ⟨cl15, Ar15, ak15, aS15, aN15, aH15, aG15⟩ := id f14_1
  refine own_go (fun _ k => X14.arraylength hx (by rw [e14]; exact Ar15.1) (State.isArrayOf_alike hZ.alike Ar15.2.1) (g := (mkF m 10 #[.val (.ref t), .val (.ref b2), .val (.int (3 : Int32))] [(.ref t), (.int (3 : Int32))])) rfl rfl (hb hby d36_10) _ k) ?_
  rw [len_of aS15 aN15]
  show own_Gl p.tables e below F (T14.setTop (mkF m 11 #[.val (.ref t), .val (.ref b2), .val (.int (3 : Int32))] [(.int (3 : Int32)), (.int (3 : Int32))]))
  refine own_go (fun _ k => XS.icmpYes X14.here hx rfl (pc0 := 11) (pc' := 29) rfl (hb hby d36_11) rfl (XT.ii_ge_t (by decide)) (by decide) (by decide) k) ?_
  show own_Gl p.tables e below F (T14.setTop (mkF m 29 #[.val (.ref t), .val (.ref b2), .val (.int (3 : Int32))] []))
  obtain ⟨T16, h16, X16, e16, E16, A16, D16, -, st16⟩ := newO X14 hx hZ hown (hw _ (List.mem_of_getElem? (i := 110) rfl)) (hw _ (List.mem_of_getElem? (i := 223) rfl)) (hw _ (List.mem_of_getElem? (i := 145) rfl)) e14 (g := (mkF m 29 #[.val (.ref t), .val (.ref b2), .val (.int (3 : Int32))] [])) rfl (hb hby d36_29) (by first | decide | exact Nat.le_of_ble_eq_true rfl) (by first | decide | exact Nat.le_of_ble_eq_true rfl)
  obtain ⟨b16, g16⟩ : ∃ z, z = h14.size := ⟨_, rfl⟩
  rw [← g16] at A16 D16 st16
  have ne_t_b16 : t ≠ b16 := Nat.ne_of_lt (Nat.lt_of_lt_of_le f14_1.lt (Nat.le_of_eq g16.symm))
  have ne_x0_b16 : x0 ≠ b16 := Nat.ne_of_lt (Nat.lt_of_lt_of_le f14_2.lt (Nat.le_of_eq g16.symm))
  have ne_x1_b16 : x1 ≠ b16 := Nat.ne_of_lt (Nat.lt_of_lt_of_le f14_3.lt (Nat.le_of_eq g16.symm))
  have ne_x2_b16 : x2 ≠ b16 := Nat.ne_of_lt (Nat.lt_of_lt_of_le f14_4.lt (Nat.le_of_eq g16.symm))
  have ne_b2_b16 : b2 ≠ b16 := Nat.ne_of_lt (Nat.lt_of_lt_of_le V14.lt (Nat.le_of_eq g16.symm))
  have ge_b16 : n0 ≤ b16 := Nat.le_trans Z14 (Nat.le_of_eq g16.symm)
  have sz_b16 : h0.size ≤ b16 := Nat.le_trans (K14).1 (Nat.le_of_eq g16.symm)
  have f16_0 := f14_1.ext E16
  have f16_1 := f14_2.ext E16
  have f16_2 := f14_3.ext E16
  have f16_3 := f14_4.ext E16
  have f16_4 := V14.ext E16
  have f16_5 := f14_6.ext E16
  have Z16 : n0 ≤ h16.size := Nat.le_trans Z14 E16.1
  have K16 := Keep.ext K14 E16
  have F16_elements : Fld Z h16 b16 "java/util/ImmutableCollections$ListN" "elements" "[Ljava/lang/Object;" .null := D16 (Or.inr (hw _ (List.mem_of_getElem? (i := 148) rfl))) (ty := (.array (.object "java/lang/Object"))) (by decide)
  have F16_allowNulls : Fld Z h16 b16 "java/util/ImmutableCollections$ListN" "allowNulls" "Z" (.int (0 : Int32)) := D16 (Or.inr (hw _ (List.mem_of_getElem? (i := 243) rfl))) (ty := .boolean) (by decide)
  have X16 : Stand _ _ _ _ _ _ _ _ _ _ _ _ 2 5 := X16
  refine own_go st16 ?_
  show own_Gl p.tables e below F (T16.setTop (mkF m 32 #[.val (.ref t), .val (.ref b2), .val (.int (3 : Int32))] [(.ref b16)]))
  refine own_go (fun _ k => XS.dup X16.here hx rfl (hb hby d36_32) rfl rfl k) ?_
  show own_Gl p.tables e below F (T16.setTop (mkF m 33 #[.val (.ref t), .val (.ref b2), .val (.int (3 : Int32))] [(.ref b16), (.ref b16)]))
  refine own_go (fun _ k => XS.aloadN X16.here hx rfl (hb hby d36_33) rfl rfl k) ?_
  show own_Gl p.tables e below F (T16.setTop (mkF m 34 #[.val (.ref t), .val (.ref b2), .val (.int (3 : Int32))] [(.ref b2), (.ref b16), (.ref b16)]))
  refine own_go (fun _ k => XS.iconst X16.here hx rfl (hb hby d36_34) k) ?_
  show own_Gl p.tables e below F (T16.setTop (mkF m 35 #[.val (.ref t), .val (.ref b2), .val (.int (3 : Int32))] [(.int (0 : Int32)), (.ref b2), (.ref b16), (.ref b16)]))
  obtain ⟨_, _, ⟨T17, L17, k17, n17⟩, -, X17, ⟨Lc17, hQ17, l17, y17, z17⟩, st17⟩ := X16.specialBackNest hx (y := (⟨"java/util/ImmutableCollections$ListN", "<init>", "([Ljava/lang/Object;Z)V"⟩ : MethodName)) rfl hown (Cond.methodLinkNest_wide hZ (hw _ (List.mem_of_getElem? (i := 224) rfl)) :) (mvT hZ (hw _ (List.mem_of_getElem? (i := 225) rfl))) (mvT hZ (hw _ (List.mem_of_getElem? (i := 227) rfl))) (by decide) (backOf (W := 1) (rmLN l Z a0 hw [] b16 b2 (0 : Int32)  h16 n0 Z16 A16 F16_elements F16_allowNulls ge_b16 ) hZ (hw _ (List.mem_of_getElem? (i := 227) rfl)) (hw _ (List.mem_of_getElem? (i := 145) rfl)) (by decide) (by decide)) (g := (mkF m 35 #[.val (.ref t), .val (.ref b2), .val (.int (3 : Int32))] [(.int (0 : Int32)), (.ref b2), (.ref b16), (.ref b16)])) rfl (by rw [hml]; rfl) (Steps.refl _) (a := b16) (argsL := [(.ref b2), (.int (0 : Int32))]) (rest := [(.ref b16)]) (lenOf pd_13 rfl) rfl (by show 2 * 0 + _ ≤ _; exact Nat.le_of_eq rfl) (hb hby d36_35) (fun _ _ => ⟨rfl, e16, (by first | decide | exact Nat.le_of_ble_eq_true rfl), (by first | decide | exact Nat.le_of_ble_eq_true rfl)⟩)
  dsimp only [Pt.U, Pt.locs, Pt.cells, Pt.slots] at X17 l17 y17 z17 st17 hQ17
  have X17 := own_sn X17 (k' := 2) (n' := 5) y17 z17
  obtain ⟨rfl, N17, K17, G17_E, G17_elements, G17_allowNulls⟩ := hQ17
  have NF17 := own_fr l17 N14 N17
  have f17_1 := f16_0.keep K17 (ninS ne_t_b16 nin0)
  have f17_2 := f16_1.keep K17
  have f17_3 := f16_2.keep K17
  have f17_4 := f16_3.keep K17
  have f17_5 := f16_4.keep K17 (ninS ne_b2_b16 nin0)
  have f17_6 := f16_5.keep K17
  have f17_7 := A16.keep K17
  have Z17 : n0 ≤ T17.heap.size := Nat.le_trans Z16 K17.1
  have KK17 := Keep.trans K16 K17 (by intro z hz; simp at hz; rcases hz with rfl; all_goals first | (left; simp; done) | (right; assumption))
  refine own_go (fun _ k => st17.trans k) ?_
  show own_Gl p.tables e below F (T17.setTop (mkF m 38 #[.val (.ref t), .val (.ref b2), .val (.int (3 : Int32))] [(.ref b16)]))
  obtain ⟨fs, hr, hrun, hended, hW, hsame⟩ := X17.leave (v := some (.ref b16)) (fun h => by rw [Bd.returns] at h; cases h)
  subst hF
  refine own_fin ?_ ⟨hrun, hended, _, _, rfl, ?_, ⟨_, rfl⟩, hW, hsame.mono (by first | decide | exact Nat.le_of_ble_eq_true rfl) (by first | decide | exact Nat.le_of_ble_eq_true rfl)⟩
  · exact own_retA X17 hx Bd.returns rfl rfl (hb hby d36_38) hr
  · show Q_rm36 Z _ _ _ _ _ h0 n0 _ T17.heap _
    exact ⟨b16, b2, k2, rfl, NF17, KK17, G17_E, G17_elements, f17_5⟩
theorem ef_rmLO_1 (m : MethodId) (x0 : Addr) : entryFrame m #[(.ref x0)] 2 = mkF m 0 #[.val (.ref x0), .unset] [] := by first | (simp [entryFrame, mkF, argsToLocals, Value.category]; done) | rfl
theorem pn_14 : plainName "java/util/List" = true := by first | (simp [plainName, overriddenIn]; done) | decide +kernel
theorem d35_0 : decode jdk_40_method_47_code 0 = .ok (.aload_n 0, 1) := by decide +kernel
theorem d35_1 : decode jdk_40_method_47_code 1 = .ok (.arraylength, 1) := by decide +kernel
theorem dls_2 : decode jdk_40_method_47_code 2 = .ok (.tableswitch 57 0 2 #[26, 32, 43], 26) := by decide +kernel
theorem d35_34 : decode jdk_40_method_47_code 34 = .ok (.new 96, 3) := by decide +kernel
theorem d35_37 : decode jdk_40_method_47_code 37 = .ok (.dup, 1) := by decide +kernel
theorem d35_38 : decode jdk_40_method_47_code 38 = .ok (.aload_n 0, 1) := by decide +kernel
theorem d35_39 : decode jdk_40_method_47_code 39 = .ok (.iconst 0, 1) := by decide +kernel
theorem d35_40 : decode jdk_40_method_47_code 40 = .ok (.aaload, 1) := by decide +kernel
theorem d35_41 : decode jdk_40_method_47_code 41 = .ok (.invokespecial 98, 3) := by decide +kernel
theorem d35_44 : decode jdk_40_method_47_code 44 = .ok (.areturn, 1) := by decide +kernel
def Q_rmLO_1 (Z : State) (t : Addr) (kt : ClassId) (x0 : Addr) (em : Addr) (h0 : Heap) (n0 : Nat) (v : Option Value) (h : Heap) (L : List Loc) : Prop := ∃ y : Addr, v = some (.ref y) ∧ Fr n0 L ∧ Keep h0 h [] ∧ Exa Z h y "java/util/ImmutableCollections$List12"
set_option maxRecDepth 65536 in
set_option maxHeartbeats 40000000 in
theorem rmLO_1 (l : Launch) (Z : State) (a0 : Array Value) (hw : ∀ d ∈ tables_1, d.before a0 Z = true) (ws : List Jvm.Cond) (t : Addr) (kt : ClassId) (x0 : Addr) (em : Addr) (h0 : Heap) (n0 : Nat) (Z0 : n0 ≤ h0.size) (VT : Arv Z h0 t kt (.object "java/lang/Object") 1 [(.ref x0)] .null) (EX0 : Exa Z h0 x0 "java/lang/String") (OO : Old Z n0 h0) (SM : Sta Z Z.heap "java/util/ImmutableCollections" "EMPTY" "Ljava/lang/Object;" (.ref em)) :
    MetFree l (⟨"java/util/List", "of", "([Ljava/lang/Object;)Ljava/util/List;"⟩ : MethodName) (head1 (Jvm.Cond.code (⟨"java/util/List", "of", "([Ljava/lang/Object;)Ljava/util/List;"⟩ : MethodName) jdk_40_method_47_code 2 (some (.object "java/util/List")) :: ws) ({ frames := 6, cells := 2, slots := 5, locals := 77 } : Room)) (fun ag U => ag = #[(.ref t)] ∧ Z.Warmed39 U.vm ∧ U.heap = h0) (fun _ _ _ _ _ => True) (fun _ U o U' => ∃ v L, o = .returned v ∧ Q_rmLO_1 Z t kt x0 em h0 n0 v U'.heap L ∧ FrameEnd U o U' L ({ frames := 6, cells := 2, slots := 5, locals := 77 } : Room).cells ({ frames := 6, cells := 2, slots := 5, locals := 77 } : Room).slots) := by
  refine MetFree.of_bodySF (plainFor_of_name pn_14) hisR ?_
  intro p e s m args below meth c s₁ Bd hml0 hP hK
  obtain ⟨rfl, hZ, hh⟩ := hP
  have hx := Bd.exec
  have hby := Bd.bytes
  have hml : c.maxLocals = 2 := hml0
  have hown : s.vm.findClass "java/util/List" = some m.cls := findClass_of_methodNamed Bd.named
  have hnm := (name_of_methodNamed Bd.named Bd.method).1
  have X0 : Stand p l e ({ frames := 6, cells := 2, slots := 5, locals := 77 } : Room) s m #[(.ref t)] below meth c s₁ [] 0 0 := Stand.of_body Bd
  have e0 : s₁.heap = h0 := by rw [← hh, Bd.state]; rfl
  have N0 := Fr.nil n0
  refine own_start (ef_rmLO_1 m t) ?_
  intro F hF
  show own_Gl p.tables e below F (s₁.setTop (mkF m 0 #[.val (.ref t), .unset] []))
  refine own_go (fun _ k => XS.aloadN X0.here hx rfl (hb hby d35_0) rfl rfl k) ?_
  show own_Gl p.tables e below F (s₁.setTop (mkF m 1 #[.val (.ref t), .unset] [(.ref t)]))
  obtain ⟨cl1, Ar1, ak1, aS1, aN1, aH1, aG1⟩ := id VT
  refine own_go (fun _ k => X0.arraylength hx (by rw [e0]; exact Ar1.1) (State.isArrayOf_alike hZ.alike Ar1.2.1) (g := (mkF m 1 #[.val (.ref t), .unset] [(.ref t)])) rfl rfl (hb hby d35_1) _ k) ?_
  rw [len_of aS1 aN1]
  show own_Gl p.tables e below F (s₁.setTop (mkF m 2 #[.val (.ref t), .unset] [(.int (1 : Int32))]))
  refine own_go (fun _ k => XS.tswIn X0.here hx rfl (pc0 := 2) (pc' := 34) (o := 32) rfl (hb hby dls_2) rfl (by decide) (by decide) (by decide) (by decide) k) ?_
  show own_Gl p.tables e below F (s₁.setTop (mkF m 34 #[.val (.ref t), .unset] []))
  obtain ⟨T2, h2, X2, e2, E2, A2, D2, -, st2⟩ := newO X0 hx hZ hown (hw _ (List.mem_of_getElem? (i := 244) rfl)) (hw _ (List.mem_of_getElem? (i := 245) rfl)) (hw _ (List.mem_of_getElem? (i := 246) rfl)) e0 (g := (mkF m 34 #[.val (.ref t), .unset] [])) rfl (hb hby d35_34) (by first | decide | exact Nat.le_of_ble_eq_true rfl) (by first | decide | exact Nat.le_of_ble_eq_true rfl)
  obtain ⟨b2, g2⟩ : ∃ z, z = h0.size := ⟨_, rfl⟩
  rw [← g2] at A2 D2 st2
  have ne_t_b2 : t ≠ b2 := Nat.ne_of_lt (Nat.lt_of_lt_of_le VT.lt (Nat.le_of_eq g2.symm))
  have ge_b2 : n0 ≤ b2 := Nat.le_trans Z0 (Nat.le_of_eq g2.symm)
  have sz_b2 : h0.size ≤ b2 := Nat.le_trans ((Keep.refl h0 [])).1 (Nat.le_of_eq g2.symm)
  have f2_0 := VT.ext E2
  have f2_1 := OO.ext E2
  have Z2 : n0 ≤ h2.size := Nat.le_trans Z0 E2.1
  have K2 := Keep.ext (Keep.refl h0 []) E2
  have F2_e0 : Fld Z h2 b2 "java/util/ImmutableCollections$List12" "e0" "Ljava/lang/Object;" .null := D2 (Or.inr (hw _ (List.mem_of_getElem? (i := 257) rfl))) (ty := (.object "java/lang/Object")) (by decide)
  have F2_e1 : Fld Z h2 b2 "java/util/ImmutableCollections$List12" "e1" "Ljava/lang/Object;" .null := D2 (Or.inr (hw _ (List.mem_of_getElem? (i := 259) rfl))) (ty := (.object "java/lang/Object")) (by decide)
  have X2 : Stand _ _ _ _ _ _ _ _ _ _ _ _ 1 2 := X2
  refine own_go st2 ?_
  show own_Gl p.tables e below F (T2.setTop (mkF m 37 #[.val (.ref t), .unset] [(.ref b2)]))
  refine own_go (fun _ k => XS.dup X2.here hx rfl (hb hby d35_37) rfl rfl k) ?_
  show own_Gl p.tables e below F (T2.setTop (mkF m 38 #[.val (.ref t), .unset] [(.ref b2), (.ref b2)]))
  refine own_go (fun _ k => XS.aloadN X2.here hx rfl (hb hby d35_38) rfl rfl k) ?_
  show own_Gl p.tables e below F (T2.setTop (mkF m 39 #[.val (.ref t), .unset] [(.ref t), (.ref b2), (.ref b2)]))
  refine own_go (fun _ k => XS.iconst X2.here hx rfl (hb hby d35_39) k) ?_
  show own_Gl p.tables e below F (T2.setTop (mkF m 40 #[.val (.ref t), .unset] [(.int (0 : Int32)), (.ref t), (.ref b2), (.ref b2)]))
  obtain ⟨cl3, Ar3, ak3, aS3, aN3, aH3, aG3⟩ := id f2_0
  have hin3 : ¬ ((0 : Int32) < 0 ∨ cl3.slots.size ≤ ((0 : Int32)).toNatClampNeg) := inb_of aS3 ⟨by decide, by decide⟩
  refine own_go (fun _ k => X2.aaload hx (j := (0 : Int32)) (v := (.ref x0)) (by rw [e2]; exact Ar3.1) (State.isArrayOf_alike hZ.alike Ar3.2.1) rfl Ar3.2.2 hin3 (Has.at aH3 hin3 rfl) (g := (mkF m 40 #[.val (.ref t), .unset] [(.int (0 : Int32)), (.ref t), (.ref b2), (.ref b2)])) rfl rfl (hb hby d35_40) _ k) ?_
  show own_Gl p.tables e below F (T2.setTop (mkF m 41 #[.val (.ref t), .unset] [(.ref x0), (.ref b2), (.ref b2)]))
  obtain ⟨_, _, ⟨T4, L4, k4, n4⟩, -, X4, ⟨Lc4, hQ4, l4, y4, z4⟩, st4⟩ := X2.specialBack hx (y := (⟨"java/util/ImmutableCollections$List12", "<init>", "(Ljava/lang/Object;)V"⟩ : MethodName)) rfl hown (mvT hZ (hw _ (List.mem_of_getElem? (i := 266) rfl))) (mvT hZ (hw _ (List.mem_of_getElem? (i := 267) rfl))) (mvT hZ (hw _ (List.mem_of_getElem? (i := 268) rfl))) (by decide) (backOf (W := 1) (rmL1 l Z a0 hw [] b2 x0 em h2 n0 Z2 A2 F2_e0 F2_e1 ge_b2 f2_1 SM) hZ (hw _ (List.mem_of_getElem? (i := 268) rfl)) (hw _ (List.mem_of_getElem? (i := 246) rfl)) (by decide) (by decide)) (g := (mkF m 41 #[.val (.ref t), .unset] [(.ref x0), (.ref b2), (.ref b2)])) rfl (by rw [hml]; rfl) (Steps.refl _) (a := b2) (argsL := [(.ref x0)]) (rest := [(.ref b2)]) (lenOf pd_10 rfl) rfl (by show 2 * 0 + _ ≤ _; exact Nat.le_of_eq rfl) (hb hby d35_41) (fun _ _ => ⟨rfl, e2, (by first | decide | exact Nat.le_of_ble_eq_true rfl), (by first | decide | exact Nat.le_of_ble_eq_true rfl)⟩)
  dsimp only [Pt.U, Pt.locs, Pt.cells, Pt.slots] at X4 l4 y4 z4 st4 hQ4
  have X4 := own_sn X4 (k' := 1) (n' := 2) y4 z4
  obtain ⟨rfl, N4, K4, GE4⟩ := hQ4
  have NF4 := own_fr l4 N0 N4
  have f4_1 := f2_0.keep K4 (ninS ne_t_b2 nin0)
  have f4_2 := f2_1.keep K4 (allS ge_b2 (all0))
  have f4_3 := A2.keep K4
  have Z4 : n0 ≤ T4.heap.size := Nat.le_trans Z2 K4.1
  have KK4 := Keep.trans K2 K4 (by intro z hz; simp at hz; rcases hz with rfl; all_goals first | (left; simp; done) | (right; assumption))
  refine own_go (fun _ k => st4.trans k) ?_
  show own_Gl p.tables e below F (T4.setTop (mkF m 44 #[.val (.ref t), .unset] [(.ref b2)]))
  obtain ⟨fs, hr, hrun, hended, hW, hsame⟩ := X4.leave (v := some (.ref b2)) (fun h => by rw [Bd.returns] at h; cases h)
  subst hF
  refine own_fin ?_ ⟨hrun, hended, _, _, rfl, ?_, ⟨_, rfl⟩, hW, hsame.mono (by first | decide | exact Nat.le_of_ble_eq_true rfl) (by first | decide | exact Nat.le_of_ble_eq_true rfl)⟩
  · exact own_retA X4 hx Bd.returns rfl rfl (hb hby d35_44) hr
  · show Q_rmLO_1 Z _ _ _ _ h0 n0 _ T4.heap _
    exact ⟨b2, rfl, NF4, KK4, GE4⟩
theorem ef_rmLO_2 (m : MethodId) (x0 : Addr) : entryFrame m #[(.ref x0)] 2 = mkF m 0 #[.val (.ref x0), .unset] [] := by first | (simp [entryFrame, mkF, argsToLocals, Value.category]; done) | rfl
theorem d35_45 : decode jdk_40_method_47_code 45 = .ok (.new 96, 3) := by decide +kernel
theorem d35_48 : decode jdk_40_method_47_code 48 = .ok (.dup, 1) := by decide +kernel
theorem d35_49 : decode jdk_40_method_47_code 49 = .ok (.aload_n 0, 1) := by decide +kernel
theorem d35_50 : decode jdk_40_method_47_code 50 = .ok (.iconst 0, 1) := by decide +kernel
theorem d35_51 : decode jdk_40_method_47_code 51 = .ok (.aaload, 1) := by decide +kernel
theorem d35_52 : decode jdk_40_method_47_code 52 = .ok (.aload_n 0, 1) := by decide +kernel
theorem d35_53 : decode jdk_40_method_47_code 53 = .ok (.iconst 1, 1) := by decide +kernel
theorem d35_54 : decode jdk_40_method_47_code 54 = .ok (.aaload, 1) := by decide +kernel
theorem d35_55 : decode jdk_40_method_47_code 55 = .ok (.invokespecial 100, 3) := by decide +kernel
theorem pd_14 : parseMethodDescriptor "(Ljava/lang/Object;Ljava/lang/Object;)V" = some ⟨[(.object "java/lang/Object"), (.object "java/lang/Object")], none⟩ := by decide +kernel
theorem d35_58 : decode jdk_40_method_47_code 58 = .ok (.areturn, 1) := by decide +kernel
def Q_rmLO_2 (Z : State) (t : Addr) (kt : ClassId) (x0 x1 : Addr) (h0 : Heap) (n0 : Nat) (v : Option Value) (h : Heap) (L : List Loc) : Prop := ∃ y : Addr, v = some (.ref y) ∧ Fr n0 L ∧ Keep h0 h [] ∧ Exa Z h y "java/util/ImmutableCollections$List12"
set_option maxRecDepth 65536 in
set_option maxHeartbeats 40000000 in
theorem rmLO_2 (l : Launch) (Z : State) (a0 : Array Value) (hw : ∀ d ∈ tables_1, d.before a0 Z = true) (ws : List Jvm.Cond) (t : Addr) (kt : ClassId) (x0 x1 : Addr) (h0 : Heap) (n0 : Nat) (Z0 : n0 ≤ h0.size) (VT : Arv Z h0 t kt (.object "java/lang/Object") 2 [(.ref x0), (.ref x1)] .null) (EX0 : Exa Z h0 x0 "java/lang/String") (EX1 : Exa Z h0 x1 "java/lang/String") :
    MetFree l (⟨"java/util/List", "of", "([Ljava/lang/Object;)Ljava/util/List;"⟩ : MethodName) (head1 (Jvm.Cond.code (⟨"java/util/List", "of", "([Ljava/lang/Object;)Ljava/util/List;"⟩ : MethodName) jdk_40_method_47_code 2 (some (.object "java/util/List")) :: ws) ({ frames := 6, cells := 2, slots := 5, locals := 77 } : Room)) (fun ag U => ag = #[(.ref t)] ∧ Z.Warmed39 U.vm ∧ U.heap = h0) (fun _ _ _ _ _ => True) (fun _ U o U' => ∃ v L, o = .returned v ∧ Q_rmLO_2 Z t kt x0 x1 h0 n0 v U'.heap L ∧ FrameEnd U o U' L ({ frames := 6, cells := 2, slots := 5, locals := 77 } : Room).cells ({ frames := 6, cells := 2, slots := 5, locals := 77 } : Room).slots) := by
  refine MetFree.of_bodySF (plainFor_of_name pn_14) hisR ?_
  intro p e s m args below meth c s₁ Bd hml0 hP hK
  obtain ⟨rfl, hZ, hh⟩ := hP
  have hx := Bd.exec
  have hby := Bd.bytes
  have hml : c.maxLocals = 2 := hml0
  have hown : s.vm.findClass "java/util/List" = some m.cls := findClass_of_methodNamed Bd.named
  have hnm := (name_of_methodNamed Bd.named Bd.method).1
  have X0 : Stand p l e ({ frames := 6, cells := 2, slots := 5, locals := 77 } : Room) s m #[(.ref t)] below meth c s₁ [] 0 0 := Stand.of_body Bd
  have e0 : s₁.heap = h0 := by rw [← hh, Bd.state]; rfl
  have N0 := Fr.nil n0
  refine own_start (ef_rmLO_2 m t) ?_
  intro F hF
  show own_Gl p.tables e below F (s₁.setTop (mkF m 0 #[.val (.ref t), .unset] []))
  refine own_go (fun _ k => XS.aloadN X0.here hx rfl (hb hby d35_0) rfl rfl k) ?_
  show own_Gl p.tables e below F (s₁.setTop (mkF m 1 #[.val (.ref t), .unset] [(.ref t)]))
  obtain ⟨cl1, Ar1, ak1, aS1, aN1, aH1, aG1⟩ := id VT
  refine own_go (fun _ k => X0.arraylength hx (by rw [e0]; exact Ar1.1) (State.isArrayOf_alike hZ.alike Ar1.2.1) (g := (mkF m 1 #[.val (.ref t), .unset] [(.ref t)])) rfl rfl (hb hby d35_1) _ k) ?_
  rw [len_of aS1 aN1]
  show own_Gl p.tables e below F (s₁.setTop (mkF m 2 #[.val (.ref t), .unset] [(.int (2 : Int32))]))
  refine own_go (fun _ k => XS.tswIn X0.here hx rfl (pc0 := 2) (pc' := 45) (o := 43) rfl (hb hby dls_2) rfl (by decide) (by decide) (by decide) (by decide) k) ?_
  show own_Gl p.tables e below F (s₁.setTop (mkF m 45 #[.val (.ref t), .unset] []))
  obtain ⟨T2, h2, X2, e2, E2, A2, D2, -, st2⟩ := newO X0 hx hZ hown (hw _ (List.mem_of_getElem? (i := 244) rfl)) (hw _ (List.mem_of_getElem? (i := 245) rfl)) (hw _ (List.mem_of_getElem? (i := 246) rfl)) e0 (g := (mkF m 45 #[.val (.ref t), .unset] [])) rfl (hb hby d35_45) (by first | decide | exact Nat.le_of_ble_eq_true rfl) (by first | decide | exact Nat.le_of_ble_eq_true rfl)
  obtain ⟨b2, g2⟩ : ∃ z, z = h0.size := ⟨_, rfl⟩
  rw [← g2] at A2 D2 st2
  have ne_t_b2 : t ≠ b2 := Nat.ne_of_lt (Nat.lt_of_lt_of_le VT.lt (Nat.le_of_eq g2.symm))
  have ge_b2 : n0 ≤ b2 := Nat.le_trans Z0 (Nat.le_of_eq g2.symm)
  have sz_b2 : h0.size ≤ b2 := Nat.le_trans ((Keep.refl h0 [])).1 (Nat.le_of_eq g2.symm)
  have f2_0 := VT.ext E2
  have Z2 : n0 ≤ h2.size := Nat.le_trans Z0 E2.1
  have K2 := Keep.ext (Keep.refl h0 []) E2
  have F2_e0 : Fld Z h2 b2 "java/util/ImmutableCollections$List12" "e0" "Ljava/lang/Object;" .null := D2 (Or.inr (hw _ (List.mem_of_getElem? (i := 257) rfl))) (ty := (.object "java/lang/Object")) (by decide)
  have F2_e1 : Fld Z h2 b2 "java/util/ImmutableCollections$List12" "e1" "Ljava/lang/Object;" .null := D2 (Or.inr (hw _ (List.mem_of_getElem? (i := 259) rfl))) (ty := (.object "java/lang/Object")) (by decide)
  have X2 : Stand _ _ _ _ _ _ _ _ _ _ _ _ 1 2 := X2
  refine own_go st2 ?_
  show own_Gl p.tables e below F (T2.setTop (mkF m 48 #[.val (.ref t), .unset] [(.ref b2)]))
  refine own_go (fun _ k => XS.dup X2.here hx rfl (hb hby d35_48) rfl rfl k) ?_
  show own_Gl p.tables e below F (T2.setTop (mkF m 49 #[.val (.ref t), .unset] [(.ref b2), (.ref b2)]))
  refine own_go (fun _ k => XS.aloadN X2.here hx rfl (hb hby d35_49) rfl rfl k) ?_
  show own_Gl p.tables e below F (T2.setTop (mkF m 50 #[.val (.ref t), .unset] [(.ref t), (.ref b2), (.ref b2)]))
  refine own_go (fun _ k => XS.iconst X2.here hx rfl (hb hby d35_50) k) ?_
  show own_Gl p.tables e below F (T2.setTop (mkF m 51 #[.val (.ref t), .unset] [(.int (0 : Int32)), (.ref t), (.ref b2), (.ref b2)]))
  obtain ⟨cl3, Ar3, ak3, aS3, aN3, aH3, aG3⟩ := id f2_0
  have hin3 : ¬ ((0 : Int32) < 0 ∨ cl3.slots.size ≤ ((0 : Int32)).toNatClampNeg) := inb_of aS3 ⟨by decide, by decide⟩
  refine own_go (fun _ k => X2.aaload hx (j := (0 : Int32)) (v := (.ref x0)) (by rw [e2]; exact Ar3.1) (State.isArrayOf_alike hZ.alike Ar3.2.1) rfl Ar3.2.2 hin3 (Has.at aH3 hin3 rfl) (g := (mkF m 51 #[.val (.ref t), .unset] [(.int (0 : Int32)), (.ref t), (.ref b2), (.ref b2)])) rfl rfl (hb hby d35_51) _ k) ?_
  show own_Gl p.tables e below F (T2.setTop (mkF m 52 #[.val (.ref t), .unset] [(.ref x0), (.ref b2), (.ref b2)]))
  refine own_go (fun _ k => XS.aloadN X2.here hx rfl (hb hby d35_52) rfl rfl k) ?_
  show own_Gl p.tables e below F (T2.setTop (mkF m 53 #[.val (.ref t), .unset] [(.ref t), (.ref x0), (.ref b2), (.ref b2)]))
  refine own_go (fun _ k => XS.iconst X2.here hx rfl (hb hby d35_53) k) ?_
  show own_Gl p.tables e below F (T2.setTop (mkF m 54 #[.val (.ref t), .unset] [(.int (1 : Int32)), (.ref t), (.ref x0), (.ref b2), (.ref b2)]))
  obtain ⟨cl4, Ar4, ak4, aS4, aN4, aH4, aG4⟩ := id f2_0
  have hin4 : ¬ ((1 : Int32) < 0 ∨ cl4.slots.size ≤ ((1 : Int32)).toNatClampNeg) := inb_of aS4 ⟨by decide, by decide⟩
  refine own_go (fun _ k => X2.aaload hx (j := (1 : Int32)) (v := (.ref x1)) (by rw [e2]; exact Ar4.1) (State.isArrayOf_alike hZ.alike Ar4.2.1) rfl Ar4.2.2 hin4 (Has.at aH4 hin4 rfl) (g := (mkF m 54 #[.val (.ref t), .unset] [(.int (1 : Int32)), (.ref t), (.ref x0), (.ref b2), (.ref b2)])) rfl rfl (hb hby d35_54) _ k) ?_
  show own_Gl p.tables e below F (T2.setTop (mkF m 55 #[.val (.ref t), .unset] [(.ref x1), (.ref x0), (.ref b2), (.ref b2)]))
  obtain ⟨_, _, ⟨T5, L5, k5, n5⟩, -, X5, ⟨Lc5, hQ5, l5, y5, z5⟩, st5⟩ := X2.specialBack hx (y := (⟨"java/util/ImmutableCollections$List12", "<init>", "(Ljava/lang/Object;Ljava/lang/Object;)V"⟩ : MethodName)) rfl hown (mvT hZ (hw _ (List.mem_of_getElem? (i := 247) rfl))) (mvT hZ (hw _ (List.mem_of_getElem? (i := 248) rfl))) (mvT hZ (hw _ (List.mem_of_getElem? (i := 250) rfl))) (by decide) (backOf (W := 1) (rmL2 l Z a0 hw [] b2 x0 x1  h2 n0 Z2 A2 F2_e0 F2_e1 ge_b2) hZ (hw _ (List.mem_of_getElem? (i := 250) rfl)) (hw _ (List.mem_of_getElem? (i := 246) rfl)) (by decide) (by decide)) (g := (mkF m 55 #[.val (.ref t), .unset] [(.ref x1), (.ref x0), (.ref b2), (.ref b2)])) rfl (by rw [hml]; rfl) (Steps.refl _) (a := b2) (argsL := [(.ref x0), (.ref x1)]) (rest := [(.ref b2)]) (lenOf pd_14 rfl) rfl (by show 2 * 0 + _ ≤ _; exact Nat.le_of_eq rfl) (hb hby d35_55) (fun _ _ => ⟨rfl, e2, (by first | decide | exact Nat.le_of_ble_eq_true rfl), (by first | decide | exact Nat.le_of_ble_eq_true rfl)⟩)
  dsimp only [Pt.U, Pt.locs, Pt.cells, Pt.slots] at X5 l5 y5 z5 st5 hQ5
  have X5 := own_sn X5 (k' := 1) (n' := 2) y5 z5
  obtain ⟨rfl, N5, K5, GE5⟩ := hQ5
  have NF5 := own_fr l5 N0 N5
  have f5_1 := f2_0.keep K5 (ninS ne_t_b2 nin0)
  have f5_2 := A2.keep K5
  have Z5 : n0 ≤ T5.heap.size := Nat.le_trans Z2 K5.1
  have KK5 := Keep.trans K2 K5 (by intro z hz; simp at hz; rcases hz with rfl; all_goals first | (left; simp; done) | (right; assumption))
  refine own_go (fun _ k => st5.trans k) ?_
  show own_Gl p.tables e below F (T5.setTop (mkF m 58 #[.val (.ref t), .unset] [(.ref b2)]))
  obtain ⟨fs, hr, hrun, hended, hW, hsame⟩ := X5.leave (v := some (.ref b2)) (fun h => by rw [Bd.returns] at h; cases h)
  subst hF
  refine own_fin ?_ ⟨hrun, hended, _, _, rfl, ?_, ⟨_, rfl⟩, hW, hsame.mono (by first | decide | exact Nat.le_of_ble_eq_true rfl) (by first | decide | exact Nat.le_of_ble_eq_true rfl)⟩
  · exact own_retA X5 hx Bd.returns rfl rfl (hb hby d35_58) hr
  · show Q_rmLO_2 Z _ _ _ _ h0 n0 _ T5.heap _
    exact ⟨b2, rfl, NF5, KK5, GE5⟩
theorem ef_rmLO_3 (m : MethodId) (x0 : Addr) : entryFrame m #[(.ref x0)] 2 = mkF m 0 #[.val (.ref x0), .unset] [] := by first | (simp [entryFrame, mkF, argsToLocals, Value.category]; done) | rfl
theorem d35_59 : decode jdk_40_method_47_code 59 = .ok (.aload_n 0, 1) := by decide +kernel
theorem d35_60 : decode jdk_40_method_47_code 60 = .ok (.invokestatic 109, 3) := by decide +kernel
theorem pd_15 : parseMethodDescriptor "([Ljava/lang/Object;)Ljava/util/List;" = some ⟨[(.array (.object "java/lang/Object"))], some (.object "java/util/List")⟩ := by decide +kernel
theorem d35_63 : decode jdk_40_method_47_code 63 = .ok (.areturn, 1) := by decide +kernel
def Q_rmLO_3 (Z : State) (t : Addr) (kt : ClassId) (x0 x1 x2 : Addr) (h0 : Heap) (n0 : Nat) (v : Option Value) (h : Heap) (L : List Loc) : Prop := ∃ (y t2 : Addr) (k2 : ClassId), v = some (.ref y) ∧ Fr n0 L ∧ Keep h0 h [] ∧ Exa Z h y "java/util/ImmutableCollections$ListN" ∧ Fld Z h y "java/util/ImmutableCollections$ListN" "elements" "[Ljava/lang/Object;" (.ref t2) ∧ Arv Z h t2 k2 (.object "java/lang/Object") 3 [(.ref x0), (.ref x1), (.ref x2)] .null
set_option maxRecDepth 65536 in
set_option maxHeartbeats 40000000 in
theorem rmLO_3 (l : Launch) (Z : State) (a0 : Array Value) (hw : ∀ d ∈ tables_1, d.before a0 Z = true) (ws : List Jvm.Cond) (t : Addr) (kt : ClassId) (x0 x1 x2 : Addr) (h0 : Heap) (n0 : Nat) (Z0 : n0 ≤ h0.size) (VT : Arv Z h0 t kt (.object "java/lang/Object") 3 [(.ref x0), (.ref x1), (.ref x2)] .null) (EX0 : Exa Z h0 x0 "java/lang/String") (EX1 : Exa Z h0 x1 "java/lang/String") (EX2 : Exa Z h0 x2 "java/lang/String") :
    MetFree l (⟨"java/util/List", "of", "([Ljava/lang/Object;)Ljava/util/List;"⟩ : MethodName) (head1 (Jvm.Cond.code (⟨"java/util/List", "of", "([Ljava/lang/Object;)Ljava/util/List;"⟩ : MethodName) jdk_40_method_47_code 2 (some (.object "java/util/List")) :: ws) ({ frames := 6, cells := 2, slots := 5, locals := 77 } : Room)) (fun ag U => ag = #[(.ref t)] ∧ Z.Warmed39 U.vm ∧ U.heap = h0) (fun _ _ _ _ _ => True) (fun _ U o U' => ∃ v L, o = .returned v ∧ Q_rmLO_3 Z t kt x0 x1 x2 h0 n0 v U'.heap L ∧ FrameEnd U o U' L ({ frames := 6, cells := 2, slots := 5, locals := 77 } : Room).cells ({ frames := 6, cells := 2, slots := 5, locals := 77 } : Room).slots) := by
  refine MetFree.of_bodySF (plainFor_of_name pn_14) hisR ?_
  intro p e s m args below meth c s₁ Bd hml0 hP hK
  obtain ⟨rfl, hZ, hh⟩ := hP
  have hx := Bd.exec
  have hby := Bd.bytes
  have hml : c.maxLocals = 2 := hml0
  have hown : s.vm.findClass "java/util/List" = some m.cls := findClass_of_methodNamed Bd.named
  have hnm := (name_of_methodNamed Bd.named Bd.method).1
  have X0 : Stand p l e ({ frames := 6, cells := 2, slots := 5, locals := 77 } : Room) s m #[(.ref t)] below meth c s₁ [] 0 0 := Stand.of_body Bd
  have e0 : s₁.heap = h0 := by rw [← hh, Bd.state]; rfl
  have N0 := Fr.nil n0
  refine own_start (ef_rmLO_3 m t) ?_
  intro F hF
  show own_Gl p.tables e below F (s₁.setTop (mkF m 0 #[.val (.ref t), .unset] []))
  refine own_go (fun _ k => XS.aloadN X0.here hx rfl (hb hby d35_0) rfl rfl k) ?_
  show own_Gl p.tables e below F (s₁.setTop (mkF m 1 #[.val (.ref t), .unset] [(.ref t)]))
  obtain ⟨cl1, Ar1, ak1, aS1, aN1, aH1, aG1⟩ := id VT
  refine own_go (fun _ k => X0.arraylength hx (by rw [e0]; exact Ar1.1) (State.isArrayOf_alike hZ.alike Ar1.2.1) (g := (mkF m 1 #[.val (.ref t), .unset] [(.ref t)])) rfl rfl (hb hby d35_1) _ k) ?_
  rw [len_of aS1 aN1]
  show own_Gl p.tables e below F (s₁.setTop (mkF m 2 #[.val (.ref t), .unset] [(.int (3 : Int32))]))
  refine own_go (fun _ k => XS.tswOut X0.here hx rfl (pc0 := 2) (pc' := 59) rfl (hb hby dls_2) rfl (by decide) (by decide) (by decide) k) ?_
  show own_Gl p.tables e below F (s₁.setTop (mkF m 59 #[.val (.ref t), .unset] []))
  refine own_go (fun _ k => XS.aloadN X0.here hx rfl (hb hby d35_59) rfl rfl k) ?_
  show own_Gl p.tables e below F (s₁.setTop (mkF m 60 #[.val (.ref t), .unset] [(.ref t)]))
  obtain ⟨_, _, ⟨T2, L2, k2, n2⟩, -, X2, ⟨Lc2, hQ2, l2, y2, z2⟩, st2⟩ := Jvm.LawKit.callS X0 hx (y := (⟨"java/util/ImmutableCollections", "listFromArray", "([Ljava/lang/Object;)Ljava/util/List;"⟩ : MethodName)) hown (mvT hZ (hw _ (List.mem_of_getElem? (i := 218) rfl))) (mvT hZ (hw _ (List.mem_of_getElem? (i := 219) rfl))) (mvT hZ (hw _ (List.mem_of_getElem? (i := 103) rfl))) (mvT hZ (hw _ (List.mem_of_getElem? (i := 220) rfl))) (by decide) (backOf (W := 0) (rm36 l Z a0 hw [] t kt x0 x1 x2 h0 n0 Z0 VT EX0 EX1 EX2) hZ (hw _ (List.mem_of_getElem? (i := 220) rfl)) (hw _ (List.mem_of_getElem? (i := 103) rfl)) (by decide) (by decide)) (g := (mkF m 60 #[.val (.ref t), .unset] [(.ref t)])) rfl (by rw [hml]; rfl) (argsL := [(.ref t)]) (rest := []) (lenOf pd_15 rfl) rfl (by show 2 * 0 + _ ≤ _; exact Nat.le_of_eq rfl) (hb hby d35_60) (fun _ _ => ⟨rfl, e0, (by first | decide | exact Nat.le_of_ble_eq_true rfl), (by first | decide | exact Nat.le_of_ble_eq_true rfl)⟩)
  dsimp only [Pt.U, Pt.locs, Pt.cells, Pt.slots] at X2 l2 y2 z2 st2 hQ2
  have X2 := own_sn X2 (k' := 2) (n' := 5) y2 z2
  obtain ⟨y2, t2, k22, rfl, N2, K2, EY2, FY2, VY2⟩ := hQ2
  have NF2 := own_fr l2 N0 N2
  have f2_1 := VT.keep K2 nin0
  have Z2 : n0 ≤ T2.heap.size := Nat.le_trans Z0 K2.1
  have KK2 := Keep.trans (Keep.refl h0 []) K2 (fun _ q => nomatch q)
  refine own_go st2 ?_
  show own_Gl p.tables e below F (T2.setTop (mkF m 63 #[.val (.ref t), .unset] [(.ref y2)]))
  obtain ⟨fs, hr, hrun, hended, hW, hsame⟩ := X2.leave (v := some (.ref y2)) (fun h => by rw [Bd.returns] at h; cases h)
  subst hF
  refine own_fin ?_ ⟨hrun, hended, _, _, rfl, ?_, ⟨_, rfl⟩, hW, hsame.mono (by first | decide | exact Nat.le_of_ble_eq_true rfl) (by first | decide | exact Nat.le_of_ble_eq_true rfl)⟩
  · exact own_retA X2 hx Bd.returns rfl rfl (hb hby d35_63) hr
  · show Q_rmLO_3 Z _ _ _ _ _ h0 n0 _ T2.heap _
    exact ⟨y2, t2, k22, rfl, NF2, KK2, EY2, FY2, VY2⟩
theorem ef_rmL0 (m : MethodId)  : entryFrame m #[] 0 = mkF m 0 #[] [] := by first | (simp [entryFrame, mkF, argsToLocals, Value.category]; done) | rfl
theorem d22_0 : decode jdk_40_method_36_code 0 = .ok (.getstatic 90, 3) := by decide +kernel
theorem d22_3 : decode jdk_40_method_36_code 3 = .ok (.areturn, 1) := by decide +kernel
def Q_rmL0 (Z : State) (el : Addr) (h0 : Heap) (n0 : Nat) (v : Option Value) (h : Heap) (L : List Loc) : Prop := v = some (.ref el) ∧ Fr n0 L ∧ h = h0
set_option maxRecDepth 65536 in
set_option maxHeartbeats 40000000 in
theorem rmL0 (l : Launch) (Z : State) (a0 : Array Value) (hw : ∀ d ∈ tables_1, d.before a0 Z = true) (ws : List Jvm.Cond) (el : Addr) (h0 : Heap) (n0 : Nat) (Z0 : n0 ≤ h0.size) (OO : Old Z n0 h0) (SL : Sta Z Z.heap "java/util/ImmutableCollections" "EMPTY_LIST" "Ljava/util/ImmutableCollections$ListN;" (.ref el)) :
    MetFree l (⟨"java/util/List", "of", "()Ljava/util/List;"⟩ : MethodName) (head1 (Jvm.Cond.code (⟨"java/util/List", "of", "()Ljava/util/List;"⟩ : MethodName) jdk_40_method_36_code 0 (some (.object "java/util/List")) :: ws) ({ frames := 0, cells := 0, slots := 0, locals := 0 } : Room)) (fun ag U => ag = #[] ∧ Z.Warmed39 U.vm ∧ U.heap = h0) (fun _ _ _ _ _ => True) (fun _ U o U' => ∃ v L, o = .returned v ∧ Q_rmL0 Z el h0 n0 v U'.heap L ∧ FrameEnd U o U' L ({ frames := 0, cells := 0, slots := 0, locals := 0 } : Room).cells ({ frames := 0, cells := 0, slots := 0, locals := 0 } : Room).slots) := by
  refine MetFree.of_bodySF (plainFor_of_name pn_14) hisR ?_
  intro p e s m args below meth c s₁ Bd hml0 hP hK
  obtain ⟨rfl, hZ, hh⟩ := hP
  have hx := Bd.exec
  have hby := Bd.bytes
  have hml : c.maxLocals = 0 := hml0
  have hown : s.vm.findClass "java/util/List" = some m.cls := findClass_of_methodNamed Bd.named
  have hnm := (name_of_methodNamed Bd.named Bd.method).1
  have X0 : Stand p l e ({ frames := 0, cells := 0, slots := 0, locals := 0 } : Room) s m #[] below meth c s₁ [] 0 0 := Stand.of_body Bd
  have e0 : s₁.heap = h0 := by rw [← hh, Bd.state]; rfl
  have N0 := Fr.nil n0
  refine own_start (ef_rmL0 m ) ?_
  intro F hF
  show own_Gl p.tables e below F (s₁.setTop (mkF m 0 #[] []))
  have U0 := SL.ext OO.2
  obtain ⟨T1, X1, e1, st1⟩ := getS2 X0 hx hZ hown (host := "") (Or.inl (hw _ (List.mem_of_getElem? (i := 125) rfl))) Via.refl e0 U0 (g := (mkF m 0 #[] [])) rfl (hb hby d22_0)
  refine own_go st1 ?_
  show own_Gl p.tables e below F (T1.setTop (mkF m 3 #[] [(.ref el)]))
  obtain ⟨fs, hr, hrun, hended, hW, hsame⟩ := X1.leave (v := some (.ref el)) (fun h => by rw [Bd.returns] at h; cases h)
  subst hF
  refine own_fin ?_ ⟨hrun, hended, _, _, rfl, ?_, ⟨_, rfl⟩, hW, hsame.mono (by first | decide | exact Nat.le_of_ble_eq_true rfl) (by first | decide | exact Nat.le_of_ble_eq_true rfl)⟩
  · exact own_retA X1 hx Bd.returns rfl rfl (hb hby d22_3) hr
  · show Q_rmL0 Z _ h0 n0 _ T1.heap _
    rw [e1]
    exact ⟨rfl, N0, rfl⟩
theorem ef_rmIE_0 (m : MethodId) (x0 : Addr) : entryFrame m #[(.ref x0)] 1 = mkF m 0 #[.val (.ref x0)] [] := by first | (simp [entryFrame, mkF, argsToLocals, Value.category]; done) | rfl
theorem d21_0 : decode jdk_38_method_9_code 0 = .ok (.aload_n 0, 1) := by decide +kernel
theorem d21_1 : decode jdk_38_method_9_code 1 = .ok (.getfield 48, 3) := by decide +kernel
theorem d21_4 : decode jdk_38_method_9_code 4 = .ok (.ifCond .ne 7, 3) := by decide +kernel
theorem d21_7 : decode jdk_38_method_9_code 7 = .ok (.iconst 1, 1) := by decide +kernel
theorem d21_8 : decode jdk_38_method_9_code 8 = .ok (.goto 4, 3) := by decide +kernel
theorem d21_12 : decode jdk_38_method_9_code 12 = .ok (.ireturn, 1) := by decide +kernel
def Q_rmIE_0 (Z : State) (a : Addr) (h0 : Heap) (n0 : Nat) (v : Option Value) (h : Heap) (L : List Loc) : Prop := v = some (.int 1) ∧ Fr n0 L ∧ h = h0
set_option maxRecDepth 65536 in
set_option maxHeartbeats 40000000 in
theorem rmIE_0 (l : Launch) (Z : State) (a0 : Array Value) (hw : ∀ d ∈ tables_1, d.before a0 Z = true) (ws : List Jvm.Cond) (a : Addr) (h0 : Heap) (n0 : Nat) (Z0 : n0 ≤ h0.size) (FS : Fld Z h0 a "java/util/ArrayList" "size" "I" (.int 0)) :
    MetFree l (⟨"java/util/ArrayList", "isEmpty", "()Z"⟩ : MethodName) (head1 (Jvm.Cond.code (⟨"java/util/ArrayList", "isEmpty", "()Z"⟩ : MethodName) jdk_38_method_9_code 1 (some .boolean) :: ws) ({ frames := 0, cells := 0, slots := 0, locals := 0 } : Room)) (fun ag U => ag = #[(.ref a)] ∧ Z.Warmed39 U.vm ∧ U.heap = h0) (fun _ _ _ _ _ => True) (fun _ U o U' => ∃ v L, o = .returned v ∧ Q_rmIE_0 Z a h0 n0 v U'.heap L ∧ FrameEnd U o U' L ({ frames := 0, cells := 0, slots := 0, locals := 0 } : Room).cells ({ frames := 0, cells := 0, slots := 0, locals := 0 } : Room).slots) := by
  refine MetFree.of_bodySF (plainFor_of_name pn_8) hisR ?_
  intro p e s m args below meth c s₁ Bd hml0 hP hK
  obtain ⟨rfl, hZ, hh⟩ := hP
  have hx := Bd.exec
  have hby := Bd.bytes
  have hml : c.maxLocals = 1 := hml0
  have hown : s.vm.findClass "java/util/ArrayList" = some m.cls := findClass_of_methodNamed Bd.named
  have hnm := (name_of_methodNamed Bd.named Bd.method).1
  have X0 : Stand p l e ({ frames := 0, cells := 0, slots := 0, locals := 0 } : Room) s m #[(.ref a)] below meth c s₁ [] 0 0 := Stand.of_body Bd
  have e0 : s₁.heap = h0 := by rw [← hh, Bd.state]; rfl
  have N0 := Fr.nil n0
  refine own_start (ef_rmIE_0 m a) ?_
  intro F hF
  show own_Gl p.tables e below F (s₁.setTop (mkF m 0 #[.val (.ref a)] []))
  refine own_go (fun _ k => XS.aloadN X0.here hx rfl (hb hby d21_0) rfl rfl k) ?_
  show own_Gl p.tables e below F (s₁.setTop (mkF m 1 #[.val (.ref a)] [(.ref a)]))
  obtain ⟨T1, X1, e1, st1⟩ := getF X0 hx hZ hown (host := "") (Or.inl (hw _ (List.mem_of_getElem? (i := 120) rfl))) Via.refl e0 FS (g := (mkF m 1 #[.val (.ref a)] [(.ref a)])) rfl rfl (hb hby d21_1)
  refine own_go st1 ?_
  show own_Gl p.tables e below F (T1.setTop (mkF m 4 #[.val (.ref a)] [(.int (0 : Int32))]))
  refine own_go (fun _ k => XS.ifNo X1.here hx rfl (hb hby d21_4) rfl (XT.i0_ne_f rfl) k) ?_
  show own_Gl p.tables e below F (T1.setTop (mkF m 7 #[.val (.ref a)] []))
  refine own_go (fun _ k => XS.iconst X1.here hx rfl (hb hby d21_7) k) ?_
  show own_Gl p.tables e below F (T1.setTop (mkF m 8 #[.val (.ref a)] [(.int (1 : Int32))]))
  refine own_go (fun _ k => XS.goto X1.here hx rfl (pc0 := 8) (pc' := 12) rfl (hb hby d21_8) (by decide) (by decide) k) ?_
  show own_Gl p.tables e below F (T1.setTop (mkF m 12 #[.val (.ref a)] [(.int (1 : Int32))]))
  obtain ⟨fs, hr, hrun, hended, hW, hsame⟩ := X1.leave (v := some (.int (1 : Int32))) (fun h => by rw [Bd.returns] at h; cases h)
  subst hF
  refine own_fin ?_ ⟨hrun, hended, _, _, rfl, ?_, ⟨_, rfl⟩, hW, hsame.mono (by first | decide | exact Nat.le_of_ble_eq_true rfl) (by first | decide | exact Nat.le_of_ble_eq_true rfl)⟩
  · exact own_retN X1 hx (t := .boolean) Bd.returns (by simp) rfl (hb hby d21_12) hr
  · show Q_rmIE_0 Z _ h0 n0 _ T1.heap _
    rw [e1]
    exact ⟨rfl, N0, rfl⟩
theorem ef_rmIE_1 (m : MethodId) (x0 : Addr) : entryFrame m #[(.ref x0)] 1 = mkF m 0 #[.val (.ref x0)] [] := by first | (simp [entryFrame, mkF, argsToLocals, Value.category]; done) | rfl
theorem d21_11 : decode jdk_38_method_9_code 11 = .ok (.iconst 0, 1) := by decide +kernel
def Q_rmIE_1 (Z : State) (a : Addr) (h0 : Heap) (n0 : Nat) (v : Option Value) (h : Heap) (L : List Loc) : Prop := v = some (.int 0) ∧ Fr n0 L ∧ h = h0
set_option maxRecDepth 65536 in
set_option maxHeartbeats 40000000 in
theorem rmIE_1 (l : Launch) (Z : State) (a0 : Array Value) (hw : ∀ d ∈ tables_1, d.before a0 Z = true) (ws : List Jvm.Cond) (a : Addr) (h0 : Heap) (n0 : Nat) (Z0 : n0 ≤ h0.size) (FS : Fld Z h0 a "java/util/ArrayList" "size" "I" (.int 1)) :
    MetFree l (⟨"java/util/ArrayList", "isEmpty", "()Z"⟩ : MethodName) (head1 (Jvm.Cond.code (⟨"java/util/ArrayList", "isEmpty", "()Z"⟩ : MethodName) jdk_38_method_9_code 1 (some .boolean) :: ws) ({ frames := 0, cells := 0, slots := 0, locals := 0 } : Room)) (fun ag U => ag = #[(.ref a)] ∧ Z.Warmed39 U.vm ∧ U.heap = h0) (fun _ _ _ _ _ => True) (fun _ U o U' => ∃ v L, o = .returned v ∧ Q_rmIE_1 Z a h0 n0 v U'.heap L ∧ FrameEnd U o U' L ({ frames := 0, cells := 0, slots := 0, locals := 0 } : Room).cells ({ frames := 0, cells := 0, slots := 0, locals := 0 } : Room).slots) := by
  refine MetFree.of_bodySF (plainFor_of_name pn_8) hisR ?_
  intro p e s m args below meth c s₁ Bd hml0 hP hK
  obtain ⟨rfl, hZ, hh⟩ := hP
  have hx := Bd.exec
  have hby := Bd.bytes
  have hml : c.maxLocals = 1 := hml0
  have hown : s.vm.findClass "java/util/ArrayList" = some m.cls := findClass_of_methodNamed Bd.named
  have hnm := (name_of_methodNamed Bd.named Bd.method).1
  have X0 : Stand p l e ({ frames := 0, cells := 0, slots := 0, locals := 0 } : Room) s m #[(.ref a)] below meth c s₁ [] 0 0 := Stand.of_body Bd
  have e0 : s₁.heap = h0 := by rw [← hh, Bd.state]; rfl
  have N0 := Fr.nil n0
  refine own_start (ef_rmIE_1 m a) ?_
  intro F hF
  show own_Gl p.tables e below F (s₁.setTop (mkF m 0 #[.val (.ref a)] []))
  refine own_go (fun _ k => XS.aloadN X0.here hx rfl (hb hby d21_0) rfl rfl k) ?_
  show own_Gl p.tables e below F (s₁.setTop (mkF m 1 #[.val (.ref a)] [(.ref a)]))
  obtain ⟨T1, X1, e1, st1⟩ := getF X0 hx hZ hown (host := "") (Or.inl (hw _ (List.mem_of_getElem? (i := 120) rfl))) Via.refl e0 FS (g := (mkF m 1 #[.val (.ref a)] [(.ref a)])) rfl rfl (hb hby d21_1)
  refine own_go st1 ?_
  show own_Gl p.tables e below F (T1.setTop (mkF m 4 #[.val (.ref a)] [(.int (1 : Int32))]))
  refine own_go (fun _ k => XS.ifYes X1.here hx rfl (pc0 := 4) (pc' := 11) rfl (hb hby d21_4) rfl (XT.i0_ne_t (by decide)) (by decide) (by decide) k) ?_
  show own_Gl p.tables e below F (T1.setTop (mkF m 11 #[.val (.ref a)] []))
  refine own_go (fun _ k => XS.iconst X1.here hx rfl (hb hby d21_11) k) ?_
  show own_Gl p.tables e below F (T1.setTop (mkF m 12 #[.val (.ref a)] [(.int (0 : Int32))]))
  obtain ⟨fs, hr, hrun, hended, hW, hsame⟩ := X1.leave (v := some (.int (0 : Int32))) (fun h => by rw [Bd.returns] at h; cases h)
  subst hF
  refine own_fin ?_ ⟨hrun, hended, _, _, rfl, ?_, ⟨_, rfl⟩, hW, hsame.mono (by first | decide | exact Nat.le_of_ble_eq_true rfl) (by first | decide | exact Nat.le_of_ble_eq_true rfl)⟩
  · exact own_retN X1 hx (t := .boolean) Bd.returns (by simp) rfl (hb hby d21_12) hr
  · show Q_rmIE_1 Z _ h0 n0 _ T1.heap _
    rw [e1]
    exact ⟨rfl, N0, rfl⟩
theorem ef_rmIE_2 (m : MethodId) (x0 : Addr) : entryFrame m #[(.ref x0)] 1 = mkF m 0 #[.val (.ref x0)] [] := by first | (simp [entryFrame, mkF, argsToLocals, Value.category]; done) | rfl
def Q_rmIE_2 (Z : State) (a : Addr) (h0 : Heap) (n0 : Nat) (v : Option Value) (h : Heap) (L : List Loc) : Prop := v = some (.int 0) ∧ Fr n0 L ∧ h = h0
set_option maxRecDepth 65536 in
set_option maxHeartbeats 40000000 in
theorem rmIE_2 (l : Launch) (Z : State) (a0 : Array Value) (hw : ∀ d ∈ tables_1, d.before a0 Z = true) (ws : List Jvm.Cond) (a : Addr) (h0 : Heap) (n0 : Nat) (Z0 : n0 ≤ h0.size) (FS : Fld Z h0 a "java/util/ArrayList" "size" "I" (.int 2)) :
    MetFree l (⟨"java/util/ArrayList", "isEmpty", "()Z"⟩ : MethodName) (head1 (Jvm.Cond.code (⟨"java/util/ArrayList", "isEmpty", "()Z"⟩ : MethodName) jdk_38_method_9_code 1 (some .boolean) :: ws) ({ frames := 0, cells := 0, slots := 0, locals := 0 } : Room)) (fun ag U => ag = #[(.ref a)] ∧ Z.Warmed39 U.vm ∧ U.heap = h0) (fun _ _ _ _ _ => True) (fun _ U o U' => ∃ v L, o = .returned v ∧ Q_rmIE_2 Z a h0 n0 v U'.heap L ∧ FrameEnd U o U' L ({ frames := 0, cells := 0, slots := 0, locals := 0 } : Room).cells ({ frames := 0, cells := 0, slots := 0, locals := 0 } : Room).slots) := by
  refine MetFree.of_bodySF (plainFor_of_name pn_8) hisR ?_
  intro p e s m args below meth c s₁ Bd hml0 hP hK
  obtain ⟨rfl, hZ, hh⟩ := hP
  have hx := Bd.exec
  have hby := Bd.bytes
  have hml : c.maxLocals = 1 := hml0
  have hown : s.vm.findClass "java/util/ArrayList" = some m.cls := findClass_of_methodNamed Bd.named
  have hnm := (name_of_methodNamed Bd.named Bd.method).1
  have X0 : Stand p l e ({ frames := 0, cells := 0, slots := 0, locals := 0 } : Room) s m #[(.ref a)] below meth c s₁ [] 0 0 := Stand.of_body Bd
  have e0 : s₁.heap = h0 := by rw [← hh, Bd.state]; rfl
  have N0 := Fr.nil n0
  refine own_start (ef_rmIE_2 m a) ?_
  intro F hF
  show own_Gl p.tables e below F (s₁.setTop (mkF m 0 #[.val (.ref a)] []))
  refine own_go (fun _ k => XS.aloadN X0.here hx rfl (hb hby d21_0) rfl rfl k) ?_
  show own_Gl p.tables e below F (s₁.setTop (mkF m 1 #[.val (.ref a)] [(.ref a)]))
  obtain ⟨T1, X1, e1, st1⟩ := getF X0 hx hZ hown (host := "") (Or.inl (hw _ (List.mem_of_getElem? (i := 120) rfl))) Via.refl e0 FS (g := (mkF m 1 #[.val (.ref a)] [(.ref a)])) rfl rfl (hb hby d21_1)
  refine own_go st1 ?_
  show own_Gl p.tables e below F (T1.setTop (mkF m 4 #[.val (.ref a)] [(.int (2 : Int32))]))
  refine own_go (fun _ k => XS.ifYes X1.here hx rfl (pc0 := 4) (pc' := 11) rfl (hb hby d21_4) rfl (XT.i0_ne_t (by decide)) (by decide) (by decide) k) ?_
  show own_Gl p.tables e below F (T1.setTop (mkF m 11 #[.val (.ref a)] []))
  refine own_go (fun _ k => XS.iconst X1.here hx rfl (hb hby d21_11) k) ?_
  show own_Gl p.tables e below F (T1.setTop (mkF m 12 #[.val (.ref a)] [(.int (0 : Int32))]))
  obtain ⟨fs, hr, hrun, hended, hW, hsame⟩ := X1.leave (v := some (.int (0 : Int32))) (fun h => by rw [Bd.returns] at h; cases h)
  subst hF
  refine own_fin ?_ ⟨hrun, hended, _, _, rfl, ?_, ⟨_, rfl⟩, hW, hsame.mono (by first | decide | exact Nat.le_of_ble_eq_true rfl) (by first | decide | exact Nat.le_of_ble_eq_true rfl)⟩
  · exact own_retN X1 hx (t := .boolean) Bd.returns (by simp) rfl (hb hby d21_12) hr
  · show Q_rmIE_2 Z _ h0 n0 _ T1.heap _
    rw [e1]
    exact ⟨rfl, N0, rfl⟩
theorem ef_rmIE_3 (m : MethodId) (x0 : Addr) : entryFrame m #[(.ref x0)] 1 = mkF m 0 #[.val (.ref x0)] [] := by first | (simp [entryFrame, mkF, argsToLocals, Value.category]; done) | rfl
def Q_rmIE_3 (Z : State) (a : Addr) (h0 : Heap) (n0 : Nat) (v : Option Value) (h : Heap) (L : List Loc) : Prop := v = some (.int 0) ∧ Fr n0 L ∧ h = h0
set_option maxRecDepth 65536 in
set_option maxHeartbeats 40000000 in
theorem rmIE_3 (l : Launch) (Z : State) (a0 : Array Value) (hw : ∀ d ∈ tables_1, d.before a0 Z = true) (ws : List Jvm.Cond) (a : Addr) (h0 : Heap) (n0 : Nat) (Z0 : n0 ≤ h0.size) (FS : Fld Z h0 a "java/util/ArrayList" "size" "I" (.int 3)) :
    MetFree l (⟨"java/util/ArrayList", "isEmpty", "()Z"⟩ : MethodName) (head1 (Jvm.Cond.code (⟨"java/util/ArrayList", "isEmpty", "()Z"⟩ : MethodName) jdk_38_method_9_code 1 (some .boolean) :: ws) ({ frames := 0, cells := 0, slots := 0, locals := 0 } : Room)) (fun ag U => ag = #[(.ref a)] ∧ Z.Warmed39 U.vm ∧ U.heap = h0) (fun _ _ _ _ _ => True) (fun _ U o U' => ∃ v L, o = .returned v ∧ Q_rmIE_3 Z a h0 n0 v U'.heap L ∧ FrameEnd U o U' L ({ frames := 0, cells := 0, slots := 0, locals := 0 } : Room).cells ({ frames := 0, cells := 0, slots := 0, locals := 0 } : Room).slots) := by
  refine MetFree.of_bodySF (plainFor_of_name pn_8) hisR ?_
  intro p e s m args below meth c s₁ Bd hml0 hP hK
  obtain ⟨rfl, hZ, hh⟩ := hP
  have hx := Bd.exec
  have hby := Bd.bytes
  have hml : c.maxLocals = 1 := hml0
  have hown : s.vm.findClass "java/util/ArrayList" = some m.cls := findClass_of_methodNamed Bd.named
  have hnm := (name_of_methodNamed Bd.named Bd.method).1
  have X0 : Stand p l e ({ frames := 0, cells := 0, slots := 0, locals := 0 } : Room) s m #[(.ref a)] below meth c s₁ [] 0 0 := Stand.of_body Bd
  have e0 : s₁.heap = h0 := by rw [← hh, Bd.state]; rfl
  have N0 := Fr.nil n0
  refine own_start (ef_rmIE_3 m a) ?_
  intro F hF
  show own_Gl p.tables e below F (s₁.setTop (mkF m 0 #[.val (.ref a)] []))
  refine own_go (fun _ k => XS.aloadN X0.here hx rfl (hb hby d21_0) rfl rfl k) ?_
  show own_Gl p.tables e below F (s₁.setTop (mkF m 1 #[.val (.ref a)] [(.ref a)]))
  obtain ⟨T1, X1, e1, st1⟩ := getF X0 hx hZ hown (host := "") (Or.inl (hw _ (List.mem_of_getElem? (i := 120) rfl))) Via.refl e0 FS (g := (mkF m 1 #[.val (.ref a)] [(.ref a)])) rfl rfl (hb hby d21_1)
  refine own_go st1 ?_
  show own_Gl p.tables e below F (T1.setTop (mkF m 4 #[.val (.ref a)] [(.int (3 : Int32))]))
  refine own_go (fun _ k => XS.ifYes X1.here hx rfl (pc0 := 4) (pc' := 11) rfl (hb hby d21_4) rfl (XT.i0_ne_t (by decide)) (by decide) (by decide) k) ?_
  show own_Gl p.tables e below F (T1.setTop (mkF m 11 #[.val (.ref a)] []))
  refine own_go (fun _ k => XS.iconst X1.here hx rfl (hb hby d21_11) k) ?_
  show own_Gl p.tables e below F (T1.setTop (mkF m 12 #[.val (.ref a)] [(.int (0 : Int32))]))
  obtain ⟨fs, hr, hrun, hended, hW, hsame⟩ := X1.leave (v := some (.int (0 : Int32))) (fun h => by rw [Bd.returns] at h; cases h)
  subst hF
  refine own_fin ?_ ⟨hrun, hended, _, _, rfl, ?_, ⟨_, rfl⟩, hW, hsame.mono (by first | decide | exact Nat.le_of_ble_eq_true rfl) (by first | decide | exact Nat.le_of_ble_eq_true rfl)⟩
  · exact own_retN X1 hx (t := .boolean) Bd.returns (by simp) rfl (hb hby d21_12) hr
  · show Q_rmIE_3 Z _ h0 n0 _ T1.heap _
    rw [e1]
    exact ⟨rfl, N0, rfl⟩
theorem ef_rmNE_0 (m : MethodId) (x0 : Addr) : entryFrame m #[(.ref x0)] 1 = mkF m 0 #[.val (.ref x0)] [] := by first | (simp [entryFrame, mkF, argsToLocals, Value.category]; done) | rfl
theorem d24_0 : decode jdk_45_method_2_code 0 = .ok (.aload_n 0, 1) := by decide +kernel
theorem d24_1 : decode jdk_45_method_2_code 1 = .ok (.getfield 7, 3) := by decide +kernel
theorem d24_4 : decode jdk_45_method_2_code 4 = .ok (.arraylength, 1) := by decide +kernel
theorem d24_5 : decode jdk_45_method_2_code 5 = .ok (.ifCond .ne 7, 3) := by decide +kernel
theorem d24_8 : decode jdk_45_method_2_code 8 = .ok (.iconst 1, 1) := by decide +kernel
theorem d24_9 : decode jdk_45_method_2_code 9 = .ok (.goto 4, 3) := by decide +kernel
theorem d24_13 : decode jdk_45_method_2_code 13 = .ok (.ireturn, 1) := by decide +kernel
def Q_rmNE_0 (Z : State) (a t : Addr) (kt : ClassId) (h0 : Heap) (n0 : Nat) (v : Option Value) (h : Heap) (L : List Loc) : Prop := v = some (.int 1) ∧ Fr n0 L ∧ h = h0
set_option maxRecDepth 65536 in
set_option maxHeartbeats 40000000 in
theorem rmNE_0 (l : Launch) (Z : State) (a0 : Array Value) (hw : ∀ d ∈ tables_1, d.before a0 Z = true) (ws : List Jvm.Cond) (a t : Addr) (kt : ClassId) (h0 : Heap) (n0 : Nat) (Z0 : n0 ≤ h0.size) (FE : Fld Z h0 a "java/util/ImmutableCollections$ListN" "elements" "[Ljava/lang/Object;" (.ref t)) (VT : Arv Z h0 t kt (.object "java/lang/Object") 0 [] .null) :
    MetFree l (⟨"java/util/ImmutableCollections$ListN", "isEmpty", "()Z"⟩ : MethodName) (head1 (Jvm.Cond.code (⟨"java/util/ImmutableCollections$ListN", "isEmpty", "()Z"⟩ : MethodName) jdk_45_method_2_code 1 (some .boolean) :: ws) ({ frames := 0, cells := 0, slots := 0, locals := 0 } : Room)) (fun ag U => ag = #[(.ref a)] ∧ Z.Warmed39 U.vm ∧ U.heap = h0) (fun _ _ _ _ _ => True) (fun _ U o U' => ∃ v L, o = .returned v ∧ Q_rmNE_0 Z a t kt h0 n0 v U'.heap L ∧ FrameEnd U o U' L ({ frames := 0, cells := 0, slots := 0, locals := 0 } : Room).cells ({ frames := 0, cells := 0, slots := 0, locals := 0 } : Room).slots) := by
  refine MetFree.of_bodySF (plainFor_of_name pn_12) hisR ?_
  intro p e s m args below meth c s₁ Bd hml0 hP hK
  obtain ⟨rfl, hZ, hh⟩ := hP
  have hx := Bd.exec
  have hby := Bd.bytes
  have hml : c.maxLocals = 1 := hml0
  have hown : s.vm.findClass "java/util/ImmutableCollections$ListN" = some m.cls := findClass_of_methodNamed Bd.named
  have hnm := (name_of_methodNamed Bd.named Bd.method).1
  have X0 : Stand p l e ({ frames := 0, cells := 0, slots := 0, locals := 0 } : Room) s m #[(.ref a)] below meth c s₁ [] 0 0 := Stand.of_body Bd
  have e0 : s₁.heap = h0 := by rw [← hh, Bd.state]; rfl
  have N0 := Fr.nil n0
  refine own_start (ef_rmNE_0 m a) ?_
  intro F hF
  show own_Gl p.tables e below F (s₁.setTop (mkF m 0 #[.val (.ref a)] []))
  refine own_go (fun _ k => XS.aloadN X0.here hx rfl (hb hby d24_0) rfl rfl k) ?_
  show own_Gl p.tables e below F (s₁.setTop (mkF m 1 #[.val (.ref a)] [(.ref a)]))
  obtain ⟨T1, X1, e1, st1⟩ := getF X0 hx hZ hown (host := "") (Or.inl (hw _ (List.mem_of_getElem? (i := 147) rfl))) Via.refl e0 FE (g := (mkF m 1 #[.val (.ref a)] [(.ref a)])) rfl rfl (hb hby d24_1)
  refine own_go st1 ?_
  show own_Gl p.tables e below F (T1.setTop (mkF m 4 #[.val (.ref a)] [(.ref t)]))
  obtain ⟨cl2, Ar2, ak2, aS2, aN2, aH2, aG2⟩ := id VT
  refine own_go (fun _ k => X1.arraylength hx (by rw [e1]; exact Ar2.1) (State.isArrayOf_alike hZ.alike Ar2.2.1) (g := (mkF m 4 #[.val (.ref a)] [(.ref t)])) rfl rfl (hb hby d24_4) _ k) ?_
  rw [len_of aS2 aN2]
  show own_Gl p.tables e below F (T1.setTop (mkF m 5 #[.val (.ref a)] [(.int (0 : Int32))]))
  refine own_go (fun _ k => XS.ifNo X1.here hx rfl (hb hby d24_5) rfl (XT.i0_ne_f rfl) k) ?_
  show own_Gl p.tables e below F (T1.setTop (mkF m 8 #[.val (.ref a)] []))
  refine own_go (fun _ k => XS.iconst X1.here hx rfl (hb hby d24_8) k) ?_
  show own_Gl p.tables e below F (T1.setTop (mkF m 9 #[.val (.ref a)] [(.int (1 : Int32))]))
  refine own_go (fun _ k => XS.goto X1.here hx rfl (pc0 := 9) (pc' := 13) rfl (hb hby d24_9) (by decide) (by decide) k) ?_
  show own_Gl p.tables e below F (T1.setTop (mkF m 13 #[.val (.ref a)] [(.int (1 : Int32))]))
  obtain ⟨fs, hr, hrun, hended, hW, hsame⟩ := X1.leave (v := some (.int (1 : Int32))) (fun h => by rw [Bd.returns] at h; cases h)
  subst hF
  refine own_fin ?_ ⟨hrun, hended, _, _, rfl, ?_, ⟨_, rfl⟩, hW, hsame.mono (by first | decide | exact Nat.le_of_ble_eq_true rfl) (by first | decide | exact Nat.le_of_ble_eq_true rfl)⟩
  · exact own_retN X1 hx (t := .boolean) Bd.returns (by simp) rfl (hb hby d24_13) hr
  · show Q_rmNE_0 Z _ _ _ h0 n0 _ T1.heap _
    rw [e1]
    exact ⟨rfl, N0, rfl⟩
theorem ef_rmNE_3 (m : MethodId) (x0 : Addr) : entryFrame m #[(.ref x0)] 1 = mkF m 0 #[.val (.ref x0)] [] := by first | (simp [entryFrame, mkF, argsToLocals, Value.category]; done) | rfl
theorem d24_12 : decode jdk_45_method_2_code 12 = .ok (.iconst 0, 1) := by decide +kernel
def Q_rmNE_3 (Z : State) (a t : Addr) (kt : ClassId) (x0 x1 x2 : Addr) (h0 : Heap) (n0 : Nat) (v : Option Value) (h : Heap) (L : List Loc) : Prop := v = some (.int 0) ∧ Fr n0 L ∧ h = h0
set_option maxRecDepth 65536 in
set_option maxHeartbeats 40000000 in
theorem rmNE_3 (l : Launch) (Z : State) (a0 : Array Value) (hw : ∀ d ∈ tables_1, d.before a0 Z = true) (ws : List Jvm.Cond) (a t : Addr) (kt : ClassId) (x0 x1 x2 : Addr) (h0 : Heap) (n0 : Nat) (Z0 : n0 ≤ h0.size) (FE : Fld Z h0 a "java/util/ImmutableCollections$ListN" "elements" "[Ljava/lang/Object;" (.ref t)) (VT : Arv Z h0 t kt (.object "java/lang/Object") 3 [(.ref x0), (.ref x1), (.ref x2)] .null) :
    MetFree l (⟨"java/util/ImmutableCollections$ListN", "isEmpty", "()Z"⟩ : MethodName) (head1 (Jvm.Cond.code (⟨"java/util/ImmutableCollections$ListN", "isEmpty", "()Z"⟩ : MethodName) jdk_45_method_2_code 1 (some .boolean) :: ws) ({ frames := 0, cells := 0, slots := 0, locals := 0 } : Room)) (fun ag U => ag = #[(.ref a)] ∧ Z.Warmed39 U.vm ∧ U.heap = h0) (fun _ _ _ _ _ => True) (fun _ U o U' => ∃ v L, o = .returned v ∧ Q_rmNE_3 Z a t kt x0 x1 x2 h0 n0 v U'.heap L ∧ FrameEnd U o U' L ({ frames := 0, cells := 0, slots := 0, locals := 0 } : Room).cells ({ frames := 0, cells := 0, slots := 0, locals := 0 } : Room).slots) := by
  refine MetFree.of_bodySF (plainFor_of_name pn_12) hisR ?_
  intro p e s m args below meth c s₁ Bd hml0 hP hK
  obtain ⟨rfl, hZ, hh⟩ := hP
  have hx := Bd.exec
  have hby := Bd.bytes
  have hml : c.maxLocals = 1 := hml0
  have hown : s.vm.findClass "java/util/ImmutableCollections$ListN" = some m.cls := findClass_of_methodNamed Bd.named
  have hnm := (name_of_methodNamed Bd.named Bd.method).1
  have X0 : Stand p l e ({ frames := 0, cells := 0, slots := 0, locals := 0 } : Room) s m #[(.ref a)] below meth c s₁ [] 0 0 := Stand.of_body Bd
  have e0 : s₁.heap = h0 := by rw [← hh, Bd.state]; rfl
  have N0 := Fr.nil n0
  refine own_start (ef_rmNE_3 m a) ?_
  intro F hF
  show own_Gl p.tables e below F (s₁.setTop (mkF m 0 #[.val (.ref a)] []))
  refine own_go (fun _ k => XS.aloadN X0.here hx rfl (hb hby d24_0) rfl rfl k) ?_
  show own_Gl p.tables e below F (s₁.setTop (mkF m 1 #[.val (.ref a)] [(.ref a)]))
  obtain ⟨T1, X1, e1, st1⟩ := getF X0 hx hZ hown (host := "") (Or.inl (hw _ (List.mem_of_getElem? (i := 147) rfl))) Via.refl e0 FE (g := (mkF m 1 #[.val (.ref a)] [(.ref a)])) rfl rfl (hb hby d24_1)
  refine own_go st1 ?_
  show own_Gl p.tables e below F (T1.setTop (mkF m 4 #[.val (.ref a)] [(.ref t)]))
  obtain ⟨cl2, Ar2, ak2, aS2, aN2, aH2, aG2⟩ := id VT
  refine own_go (fun _ k => X1.arraylength hx (by rw [e1]; exact Ar2.1) (State.isArrayOf_alike hZ.alike Ar2.2.1) (g := (mkF m 4 #[.val (.ref a)] [(.ref t)])) rfl rfl (hb hby d24_4) _ k) ?_
  rw [len_of aS2 aN2]
  show own_Gl p.tables e below F (T1.setTop (mkF m 5 #[.val (.ref a)] [(.int (3 : Int32))]))
  refine own_go (fun _ k => XS.ifYes X1.here hx rfl (pc0 := 5) (pc' := 12) rfl (hb hby d24_5) rfl (XT.i0_ne_t (by decide)) (by decide) (by decide) k) ?_
  show own_Gl p.tables e below F (T1.setTop (mkF m 12 #[.val (.ref a)] []))
  refine own_go (fun _ k => XS.iconst X1.here hx rfl (hb hby d24_12) k) ?_
  show own_Gl p.tables e below F (T1.setTop (mkF m 13 #[.val (.ref a)] [(.int (0 : Int32))]))
  obtain ⟨fs, hr, hrun, hended, hW, hsame⟩ := X1.leave (v := some (.int (0 : Int32))) (fun h => by rw [Bd.returns] at h; cases h)
  subst hF
  refine own_fin ?_ ⟨hrun, hended, _, _, rfl, ?_, ⟨_, rfl⟩, hW, hsame.mono (by first | decide | exact Nat.le_of_ble_eq_true rfl) (by first | decide | exact Nat.le_of_ble_eq_true rfl)⟩
  · exact own_retN X1 hx (t := .boolean) Bd.returns (by simp) rfl (hb hby d24_13) hr
  · show Q_rmNE_3 Z _ _ _ _ _ _ h0 n0 _ T1.heap _
    rw [e1]
    exact ⟨rfl, N0, rfl⟩
theorem ef_rm41 (m : MethodId) (x0 : Addr) : entryFrame m #[(.ref x0)] 1 = mkF m 0 #[.val (.ref x0)] [] := by first | (simp [entryFrame, mkF, argsToLocals, Value.category]; done) | rfl
theorem d41_0 : decode jdk_44_method_4_code 0 = .ok (.iconst 0, 1) := by decide +kernel
theorem d41_1 : decode jdk_44_method_4_code 1 = .ok (.ireturn, 1) := by decide +kernel
def Q_rm41 (Z : State) (a : Addr) (h0 : Heap) (n0 : Nat) (v : Option Value) (h : Heap) (L : List Loc) : Prop := v = some (.int 0) ∧ Fr n0 L ∧ h = h0
set_option maxRecDepth 65536 in
set_option maxHeartbeats 40000000 in
theorem rm41 (l : Launch) (Z : State) (a0 : Array Value) (hw : ∀ d ∈ tables_1, d.before a0 Z = true) (ws : List Jvm.Cond) (a : Addr) (h0 : Heap) (n0 : Nat) (Z0 : n0 ≤ h0.size) :
    MetFree l (⟨"java/util/ImmutableCollections$List12", "isEmpty", "()Z"⟩ : MethodName) (head1 (Jvm.Cond.code (⟨"java/util/ImmutableCollections$List12", "isEmpty", "()Z"⟩ : MethodName) jdk_44_method_4_code 1 (some .boolean) :: ws) ({ frames := 0, cells := 0, slots := 0, locals := 0 } : Room)) (fun ag U => ag = #[(.ref a)] ∧ Z.Warmed39 U.vm ∧ U.heap = h0) (fun _ _ _ _ _ => True) (fun _ U o U' => ∃ v L, o = .returned v ∧ Q_rm41 Z a h0 n0 v U'.heap L ∧ FrameEnd U o U' L ({ frames := 0, cells := 0, slots := 0, locals := 0 } : Room).cells ({ frames := 0, cells := 0, slots := 0, locals := 0 } : Room).slots) := by
  refine MetFree.of_bodySF (plainFor_of_name pn_11) hisR ?_
  intro p e s m args below meth c s₁ Bd hml0 hP hK
  obtain ⟨rfl, hZ, hh⟩ := hP
  have hx := Bd.exec
  have hby := Bd.bytes
  have hml : c.maxLocals = 1 := hml0
  have hown : s.vm.findClass "java/util/ImmutableCollections$List12" = some m.cls := findClass_of_methodNamed Bd.named
  have hnm := (name_of_methodNamed Bd.named Bd.method).1
  have X0 : Stand p l e ({ frames := 0, cells := 0, slots := 0, locals := 0 } : Room) s m #[(.ref a)] below meth c s₁ [] 0 0 := Stand.of_body Bd
  have e0 : s₁.heap = h0 := by rw [← hh, Bd.state]; rfl
  have N0 := Fr.nil n0
  refine own_start (ef_rm41 m a) ?_
  intro F hF
  show own_Gl p.tables e below F (s₁.setTop (mkF m 0 #[.val (.ref a)] []))
  refine own_go (fun _ k => XS.iconst X0.here hx rfl (hb hby d41_0) k) ?_
  show own_Gl p.tables e below F (s₁.setTop (mkF m 1 #[.val (.ref a)] [(.int (0 : Int32))]))
  obtain ⟨fs, hr, hrun, hended, hW, hsame⟩ := X0.leave (v := some (.int (0 : Int32))) (fun h => by rw [Bd.returns] at h; cases h)
  subst hF
  refine own_fin ?_ ⟨hrun, hended, _, _, rfl, ?_, ⟨_, rfl⟩, hW, hsame.mono (by first | decide | exact Nat.le_of_ble_eq_true rfl) (by first | decide | exact Nat.le_of_ble_eq_true rfl)⟩
  · exact own_retN X0 hx (t := .boolean) Bd.returns (by simp) rfl (hb hby d41_1) hr
  · show Q_rm41 Z _ h0 n0 _ s₁.heap _
    rw [e0]
    exact ⟨rfl, N0, rfl⟩
theorem ef_rmLC_0 (m : MethodId) (x0 : Addr) : entryFrame m #[(.ref x0)] 2 = mkF m 0 #[.val (.ref x0), .unset] [] := by first | (simp [entryFrame, mkF, argsToLocals, Value.category]; done) | rfl
theorem d20_0 : decode jdk_56_method_3_code 0 = .ok (.aload_n 0, 1) := by decide +kernel
theorem d20_1 : decode jdk_56_method_3_code 1 = .ok (.instanceof 10, 3) := by decide +kernel
theorem d20_4 : decode jdk_56_method_3_code 4 = .ok (.ifCond .ne 22, 3) := by decide +kernel
theorem d20_7 : decode jdk_56_method_3_code 7 = .ok (.aload_n 0, 1) := by decide +kernel
theorem d20_8 : decode jdk_56_method_3_code 8 = .ok (.instanceof 12, 3) := by decide +kernel
theorem d20_11 : decode jdk_56_method_3_code 11 = .ok (.ifCond .eq 20, 3) := by decide +kernel
theorem d20_31 : decode jdk_56_method_3_code 31 = .ok (.aload_n 0, 1) := by decide +kernel
theorem d20_32 : decode jdk_56_method_3_code 32 = .ok (.invokeinterface 20 1, 5) := by decide +kernel
theorem pd_16 : parseMethodDescriptor "()Z" = some ⟨[], some .boolean⟩ := by decide +kernel
theorem d20_37 : decode jdk_56_method_3_code 37 = .ok (.ifCond .eq 7, 3) := by decide +kernel
theorem d20_40 : decode jdk_56_method_3_code 40 = .ok (.invokestatic 26, 3) := by decide +kernel
theorem pd_17 : parseMethodDescriptor "()Ljava/util/List;" = some ⟨[], some (.object "java/util/List")⟩ := by decide +kernel
theorem d20_43 : decode jdk_56_method_3_code 43 = .ok (.areturn, 1) := by decide +kernel
def Q_rmLC_0 (Z : State) (a b : Addr) (el : Addr) (h0 : Heap) (n0 : Nat) (v : Option Value) (h : Heap) (L : List Loc) : Prop := v = some (.ref el) ∧ Fr n0 L ∧ Keep h0 h []
set_option maxRecDepth 65536 in
set_option maxHeartbeats 40000000 in
theorem rmLC_0 (l : Launch) (Z : State) (a0 : Array Value) (hw : ∀ d ∈ tables_1, d.before a0 Z = true) (ws : List Jvm.Cond) (a b : Addr) (el : Addr) (h0 : Heap) (n0 : Nat) (Z0 : n0 ≤ h0.size) (E_a : Exa Z h0 a "java/util/ArrayList") (FD : Fld Z h0 a "java/util/ArrayList" "elementData" "[Ljava/lang/Object;" (.ref b)) (FS : Fld Z h0 a "java/util/ArrayList" "size" "I" (.int 0)) (OO : Old Z n0 h0) (SL : Sta Z Z.heap "java/util/ImmutableCollections" "EMPTY_LIST" "Ljava/util/ImmutableCollections$ListN;" (.ref el)) :
    MetFree l (⟨"java/util/ImmutableCollections", "listCopy", "(Ljava/util/Collection;)Ljava/util/List;"⟩ : MethodName) (head1 (Jvm.Cond.code (⟨"java/util/ImmutableCollections", "listCopy", "(Ljava/util/Collection;)Ljava/util/List;"⟩ : MethodName) jdk_56_method_3_code 2 (some (.object "java/util/List")) :: ws) ({ frames := 7, cells := 3, slots := 8, locals := 100 } : Room)) (fun ag U => ag = #[(.ref a)] ∧ Z.Warmed39 U.vm ∧ U.heap = h0) (fun _ _ _ _ _ => True) (fun _ U o U' => ∃ v L, o = .returned v ∧ Q_rmLC_0 Z a b el h0 n0 v U'.heap L ∧ FrameEnd U o U' L ({ frames := 7, cells := 3, slots := 8, locals := 100 } : Room).cells ({ frames := 7, cells := 3, slots := 8, locals := 100 } : Room).slots) := by
  refine MetFree.of_bodySF (plainFor_of_name pn_13) hisR ?_
  intro p e s m args below meth c s₁ Bd hml0 hP hK
  obtain ⟨rfl, hZ, hh⟩ := hP
  have hx := Bd.exec
  have hby := Bd.bytes
  have hml : c.maxLocals = 2 := hml0
  have hown : s.vm.findClass "java/util/ImmutableCollections" = some m.cls := findClass_of_methodNamed Bd.named
  have hnm := (name_of_methodNamed Bd.named Bd.method).1
  have X0 : Stand p l e ({ frames := 7, cells := 3, slots := 8, locals := 100 } : Room) s m #[(.ref a)] below meth c s₁ [] 0 0 := Stand.of_body Bd
  have e0 : s₁.heap = h0 := by rw [← hh, Bd.state]; rfl
  have N0 := Fr.nil n0
  refine own_start (ef_rmLC_0 m a) ?_
  intro F hF
  show own_Gl p.tables e below F (s₁.setTop (mkF m 0 #[.val (.ref a), .unset] []))
  obtain ⟨cL, hcL⟩ : ∃ c, Z.vm.findClass "java/util/ArrayList" = some c := by obtain ⟨cc, kk, -, q, -⟩ := E_a; exact ⟨_, q⟩
  refine own_go (fun _ k => XS.aloadN X0.here hx rfl (hb hby d20_0) rfl rfl k) ?_
  show own_Gl p.tables e below F (s₁.setTop (mkF m 1 #[.val (.ref a), .unset] [(.ref a)]))
  obtain ⟨T1, X1, e1, st1⟩ := instNo X0 hx hZ hown (hw _ (List.mem_of_getElem? (i := 105) rfl)) e0 E_a (own_notAL (hw _ (List.mem_of_getElem? (i := 106) rfl)) (hw _ (List.mem_of_getElem? (i := 107) rfl)) (hw _ (List.mem_of_getElem? (i := 108) rfl)) (hw _ (List.mem_of_getElem? (i := 109) rfl)) (hw _ (List.mem_of_getElem? (i := 245) rfl)) (by decide) hcL) (g := (mkF m 1 #[.val (.ref a), .unset] [(.ref a)])) rfl rfl (hb hby d20_1)
  refine own_go st1 ?_
  show own_Gl p.tables e below F (T1.setTop (mkF m 4 #[.val (.ref a), .unset] [(.int (0 : Int32))]))
  refine own_go (fun _ k => XS.ifNo X1.here hx rfl (hb hby d20_4) rfl (XT.i0_ne_f rfl) k) ?_
  show own_Gl p.tables e below F (T1.setTop (mkF m 7 #[.val (.ref a), .unset] []))
  refine own_go (fun _ k => XS.aloadN X1.here hx rfl (hb hby d20_7) rfl rfl k) ?_
  show own_Gl p.tables e below F (T1.setTop (mkF m 8 #[.val (.ref a), .unset] [(.ref a)]))
  obtain ⟨T2, X2, e2, st2⟩ := instNo X1 hx hZ hown (hw _ (List.mem_of_getElem? (i := 110) rfl)) e1 E_a (own_notAL (hw _ (List.mem_of_getElem? (i := 106) rfl)) (hw _ (List.mem_of_getElem? (i := 107) rfl)) (hw _ (List.mem_of_getElem? (i := 108) rfl)) (hw _ (List.mem_of_getElem? (i := 109) rfl)) (hw _ (List.mem_of_getElem? (i := 223) rfl)) (by decide) hcL) (g := (mkF m 8 #[.val (.ref a), .unset] [(.ref a)])) rfl rfl (hb hby d20_8)
  refine own_go st2 ?_
  show own_Gl p.tables e below F (T2.setTop (mkF m 11 #[.val (.ref a), .unset] [(.int (0 : Int32))]))
  refine own_go (fun _ k => XS.ifYes X2.here hx rfl (pc0 := 11) (pc' := 31) rfl (hb hby d20_11) rfl (XT.i0_eq_t rfl) (by decide) (by decide) k) ?_
  show own_Gl p.tables e below F (T2.setTop (mkF m 31 #[.val (.ref a), .unset] []))
  refine own_go (fun _ k => XS.aloadN X2.here hx rfl (hb hby d20_31) rfl rfl k) ?_
  show own_Gl p.tables e below F (T2.setTop (mkF m 32 #[.val (.ref a), .unset] [(.ref a)]))
  obtain ⟨cq3, kq3, q3a, q3b, q3c⟩ := isOf hZ e2 E_a
  obtain ⟨_, _, ⟨T3, L3, k3, n3⟩, -, X3, ⟨Lc3, hQ3, l3, y3, z3⟩, st3⟩ := X2.interfaceBack hx (xi := (⟨"java/util/Collection", "isEmpty", "()Z"⟩ : MethodName)) (y := (⟨"java/util/ArrayList", "isEmpty", "()Z"⟩ : MethodName)) hown (mvT hZ (hw _ (List.mem_of_getElem? (i := 111) rfl))) (mvT hZ (hw _ (List.mem_of_getElem? (i := 112) rfl))) (mvT hZ (hw _ (List.mem_of_getElem? (i := 113) rfl))) (mvT hZ (hw _ (List.mem_of_getElem? (i := 114) rfl))) (mvT hZ (hw _ (List.mem_of_getElem? (i := 115) rfl))) (mvT hZ (hw _ (List.mem_of_getElem? (i := 116) rfl))) (mvT hZ (hw _ (List.mem_of_getElem? (i := 117) rfl))) (mvT hZ (hw _ (List.mem_of_getElem? (i := 118) rfl))) (by decide) (backOf (W := 0) (rmIE_0 l Z a0 hw [] a  h0 n0 Z0 FS) hZ (hw _ (List.mem_of_getElem? (i := 119) rfl)) (hw _ (List.mem_of_getElem? (i := 46) rfl)) (by decide) (by decide)) q3a q3b q3c (g := (mkF m 32 #[.val (.ref a), .unset] [(.ref a)])) rfl (by rw [hml]; rfl) (Steps.refl _) (argsL := []) (rest := []) (lenOf pd_16 rfl) rfl (by show 2 * 0 + _ ≤ _; exact Nat.le_of_eq rfl) (hb hby d20_32) (fun _ _ => ⟨rfl, e2, (by first | decide | exact Nat.le_of_ble_eq_true rfl), (by first | decide | exact Nat.le_of_ble_eq_true rfl)⟩)
  dsimp only [Pt.U, Pt.locs, Pt.cells, Pt.slots] at X3 l3 y3 z3 st3 hQ3
  have X3 := own_sn X3 (k' := 0) (n' := 0) y3 z3
  obtain ⟨rfl, N3, e3⟩ := hQ3
  have NF3 := own_fr l3 N0 N3
  refine own_go (fun _ k => st3.trans k) ?_
  show own_Gl p.tables e below F (T3.setTop (mkF m 37 #[.val (.ref a), .unset] [(.int (1 : Int32))]))
  refine own_go (fun _ k => XS.ifNo X3.here hx rfl (hb hby d20_37) rfl (XT.i0_eq_f (by decide)) k) ?_
  show own_Gl p.tables e below F (T3.setTop (mkF m 40 #[.val (.ref a), .unset] []))
  obtain ⟨_, _, ⟨T4, L4, k4, n4⟩, -, X4, ⟨Lc4, hQ4, l4, y4, z4⟩, st4⟩ := Jvm.LawKit.callS X3 hx (y := (⟨"java/util/List", "of", "()Ljava/util/List;"⟩ : MethodName)) hown (mvT hZ (hw _ (List.mem_of_getElem? (i := 122) rfl))) (mvT hZ (hw _ (List.mem_of_getElem? (i := 123) rfl))) (mvT hZ (hw _ (List.mem_of_getElem? (i := 99) rfl))) (mvT hZ (hw _ (List.mem_of_getElem? (i := 124) rfl))) (by decide) (backOf (W := 0) (rmL0 l Z a0 hw []  el h0 n0 Z0 OO SL) hZ (hw _ (List.mem_of_getElem? (i := 124) rfl)) (hw _ (List.mem_of_getElem? (i := 99) rfl)) (by decide) (by decide)) (g := (mkF m 40 #[.val (.ref a), .unset] [])) rfl (by rw [hml]; rfl) (argsL := []) (rest := []) (lenOf pd_17 rfl) rfl (by show 2 * 0 + _ ≤ _; exact Nat.le_of_eq rfl) (hb hby d20_40) (fun _ _ => ⟨rfl, e3, (by first | decide | exact Nat.le_of_ble_eq_true rfl), (by first | decide | exact Nat.le_of_ble_eq_true rfl)⟩)
  dsimp only [Pt.U, Pt.locs, Pt.cells, Pt.slots] at X4 l4 y4 z4 st4 hQ4
  have X4 := own_sn X4 (k' := 0) (n' := 0) y4 z4
  obtain ⟨rfl, N4, e4⟩ := hQ4
  have NF4 := own_fr l4 NF3 N4
  refine own_go st4 ?_
  show own_Gl p.tables e below F (T4.setTop (mkF m 43 #[.val (.ref a), .unset] [(.ref el)]))
  obtain ⟨fs, hr, hrun, hended, hW, hsame⟩ := X4.leave (v := some (.ref el)) (fun h => by rw [Bd.returns] at h; cases h)
  subst hF
  refine own_fin ?_ ⟨hrun, hended, _, _, rfl, ?_, ⟨_, rfl⟩, hW, hsame.mono (by first | decide | exact Nat.le_of_ble_eq_true rfl) (by first | decide | exact Nat.le_of_ble_eq_true rfl)⟩
  · exact own_retA X4 hx Bd.returns rfl rfl (hb hby d20_43) hr
  · show Q_rmLC_0 Z _ _ _ h0 n0 _ T4.heap _
    rw [e4]
    exact ⟨rfl, NF4, Keep.refl _ _⟩
theorem ef_rmLC_1 (m : MethodId) (x0 : Addr) : entryFrame m #[(.ref x0)] 2 = mkF m 0 #[.val (.ref x0), .unset] [] := by first | (simp [entryFrame, mkF, argsToLocals, Value.category]; done) | rfl
theorem d20_44 : decode jdk_56_method_3_code 44 = .ok (.aload_n 0, 1) := by decide +kernel
theorem d20_45 : decode jdk_56_method_3_code 45 = .ok (.invokeinterface 30 1, 5) := by decide +kernel
theorem d20_50 : decode jdk_56_method_3_code 50 = .ok (.invokestatic 34, 3) := by decide +kernel
theorem d20_53 : decode jdk_56_method_3_code 53 = .ok (.areturn, 1) := by decide +kernel
def Q_rmLC_1 (Z : State) (a b : Addr) (kb : ClassId) (mi x0 : Addr) (em : Addr) (h0 : Heap) (n0 : Nat) (v : Option Value) (h : Heap) (L : List Loc) : Prop := ∃ y : Addr, v = some (.ref y) ∧ Fr n0 L ∧ Keep h0 h [] ∧ Exa Z h y "java/util/ImmutableCollections$List12"
set_option maxRecDepth 65536 in
set_option maxHeartbeats 40000000 in
theorem rmLC_1 (l : Launch) (Z : State) (a0 : Array Value) (hw : ∀ d ∈ tables_1, d.before a0 Z = true) (ws : List Jvm.Cond) (a b : Addr) (kb : ClassId) (mi x0 : Addr) (em : Addr) (h0 : Heap) (n0 : Nat) (Z0 : n0 ≤ h0.size) (E_a : Exa Z h0 a "java/util/ArrayList") (FD : Fld Z h0 a "java/util/ArrayList" "elementData" "[Ljava/lang/Object;" (.ref b)) (FS : Fld Z h0 a "java/util/ArrayList" "size" "I" (.int 1)) (VB : Arv Z h0 b kb (.object "java/lang/Object") 10 [(.ref x0), .null, .null, .null, .null, .null, .null, .null, .null, .null] .null) (EB : Exa Z h0 b "[Ljava/lang/Object;") (MI : Mir Z "[Ljava/lang/Object;" mi) (EX0 : Exa Z h0 x0 "java/lang/String") (OO : Old Z n0 h0) (SM : Sta Z Z.heap "java/util/ImmutableCollections" "EMPTY" "Ljava/lang/Object;" (.ref em)) :
    MetFree l (⟨"java/util/ImmutableCollections", "listCopy", "(Ljava/util/Collection;)Ljava/util/List;"⟩ : MethodName) (head1 (Jvm.Cond.code (⟨"java/util/ImmutableCollections", "listCopy", "(Ljava/util/Collection;)Ljava/util/List;"⟩ : MethodName) jdk_56_method_3_code 2 (some (.object "java/util/List")) :: ws) ({ frames := 7, cells := 3, slots := 8, locals := 100 } : Room)) (fun ag U => ag = #[(.ref a)] ∧ Z.Warmed39 U.vm ∧ U.heap = h0) (fun _ _ _ _ _ => True) (fun _ U o U' => ∃ v L, o = .returned v ∧ Q_rmLC_1 Z a b kb mi x0 em h0 n0 v U'.heap L ∧ FrameEnd U o U' L ({ frames := 7, cells := 3, slots := 8, locals := 100 } : Room).cells ({ frames := 7, cells := 3, slots := 8, locals := 100 } : Room).slots) := by
  refine MetFree.of_bodySF (plainFor_of_name pn_13) hisR ?_
  intro p e s m args below meth c s₁ Bd hml0 hP hK
  obtain ⟨rfl, hZ, hh⟩ := hP
  have hx := Bd.exec
  have hby := Bd.bytes
  have hml : c.maxLocals = 2 := hml0
  have hown : s.vm.findClass "java/util/ImmutableCollections" = some m.cls := findClass_of_methodNamed Bd.named
  have hnm := (name_of_methodNamed Bd.named Bd.method).1
  have X0 : Stand p l e ({ frames := 7, cells := 3, slots := 8, locals := 100 } : Room) s m #[(.ref a)] below meth c s₁ [] 0 0 := Stand.of_body Bd
  have e0 : s₁.heap = h0 := by rw [← hh, Bd.state]; rfl
  have N0 := Fr.nil n0
  refine own_start (ef_rmLC_1 m a) ?_
  intro F hF
  show own_Gl p.tables e below F (s₁.setTop (mkF m 0 #[.val (.ref a), .unset] []))
  obtain ⟨cL, hcL⟩ : ∃ c, Z.vm.findClass "java/util/ArrayList" = some c := by obtain ⟨cc, kk, -, q, -⟩ := E_a; exact ⟨_, q⟩
  refine own_go (fun _ k => XS.aloadN X0.here hx rfl (hb hby d20_0) rfl rfl k) ?_
  show own_Gl p.tables e below F (s₁.setTop (mkF m 1 #[.val (.ref a), .unset] [(.ref a)]))
  obtain ⟨T1, X1, e1, st1⟩ := instNo X0 hx hZ hown (hw _ (List.mem_of_getElem? (i := 105) rfl)) e0 E_a (own_notAL (hw _ (List.mem_of_getElem? (i := 106) rfl)) (hw _ (List.mem_of_getElem? (i := 107) rfl)) (hw _ (List.mem_of_getElem? (i := 108) rfl)) (hw _ (List.mem_of_getElem? (i := 109) rfl)) (hw _ (List.mem_of_getElem? (i := 245) rfl)) (by decide) hcL) (g := (mkF m 1 #[.val (.ref a), .unset] [(.ref a)])) rfl rfl (hb hby d20_1)
  refine own_go st1 ?_
  show own_Gl p.tables e below F (T1.setTop (mkF m 4 #[.val (.ref a), .unset] [(.int (0 : Int32))]))
  refine own_go (fun _ k => XS.ifNo X1.here hx rfl (hb hby d20_4) rfl (XT.i0_ne_f rfl) k) ?_
  show own_Gl p.tables e below F (T1.setTop (mkF m 7 #[.val (.ref a), .unset] []))
  refine own_go (fun _ k => XS.aloadN X1.here hx rfl (hb hby d20_7) rfl rfl k) ?_
  show own_Gl p.tables e below F (T1.setTop (mkF m 8 #[.val (.ref a), .unset] [(.ref a)]))
  obtain ⟨T2, X2, e2, st2⟩ := instNo X1 hx hZ hown (hw _ (List.mem_of_getElem? (i := 110) rfl)) e1 E_a (own_notAL (hw _ (List.mem_of_getElem? (i := 106) rfl)) (hw _ (List.mem_of_getElem? (i := 107) rfl)) (hw _ (List.mem_of_getElem? (i := 108) rfl)) (hw _ (List.mem_of_getElem? (i := 109) rfl)) (hw _ (List.mem_of_getElem? (i := 223) rfl)) (by decide) hcL) (g := (mkF m 8 #[.val (.ref a), .unset] [(.ref a)])) rfl rfl (hb hby d20_8)
  refine own_go st2 ?_
  show own_Gl p.tables e below F (T2.setTop (mkF m 11 #[.val (.ref a), .unset] [(.int (0 : Int32))]))
  refine own_go (fun _ k => XS.ifYes X2.here hx rfl (pc0 := 11) (pc' := 31) rfl (hb hby d20_11) rfl (XT.i0_eq_t rfl) (by decide) (by decide) k) ?_
  show own_Gl p.tables e below F (T2.setTop (mkF m 31 #[.val (.ref a), .unset] []))
  refine own_go (fun _ k => XS.aloadN X2.here hx rfl (hb hby d20_31) rfl rfl k) ?_
  show own_Gl p.tables e below F (T2.setTop (mkF m 32 #[.val (.ref a), .unset] [(.ref a)]))
  obtain ⟨cq3, kq3, q3a, q3b, q3c⟩ := isOf hZ e2 E_a
  obtain ⟨_, _, ⟨T3, L3, k3, n3⟩, -, X3, ⟨Lc3, hQ3, l3, y3, z3⟩, st3⟩ := X2.interfaceBack hx (xi := (⟨"java/util/Collection", "isEmpty", "()Z"⟩ : MethodName)) (y := (⟨"java/util/ArrayList", "isEmpty", "()Z"⟩ : MethodName)) hown (mvT hZ (hw _ (List.mem_of_getElem? (i := 111) rfl))) (mvT hZ (hw _ (List.mem_of_getElem? (i := 112) rfl))) (mvT hZ (hw _ (List.mem_of_getElem? (i := 113) rfl))) (mvT hZ (hw _ (List.mem_of_getElem? (i := 114) rfl))) (mvT hZ (hw _ (List.mem_of_getElem? (i := 115) rfl))) (mvT hZ (hw _ (List.mem_of_getElem? (i := 116) rfl))) (mvT hZ (hw _ (List.mem_of_getElem? (i := 117) rfl))) (mvT hZ (hw _ (List.mem_of_getElem? (i := 118) rfl))) (by decide) (backOf (W := 0) (rmIE_1 l Z a0 hw [] a  h0 n0 Z0 FS) hZ (hw _ (List.mem_of_getElem? (i := 119) rfl)) (hw _ (List.mem_of_getElem? (i := 46) rfl)) (by decide) (by decide)) q3a q3b q3c (g := (mkF m 32 #[.val (.ref a), .unset] [(.ref a)])) rfl (by rw [hml]; rfl) (Steps.refl _) (argsL := []) (rest := []) (lenOf pd_16 rfl) rfl (by show 2 * 0 + _ ≤ _; exact Nat.le_of_eq rfl) (hb hby d20_32) (fun _ _ => ⟨rfl, e2, (by first | decide | exact Nat.le_of_ble_eq_true rfl), (by first | decide | exact Nat.le_of_ble_eq_true rfl)⟩)
  dsimp only [Pt.U, Pt.locs, Pt.cells, Pt.slots] at X3 l3 y3 z3 st3 hQ3
  have X3 := own_sn X3 (k' := 0) (n' := 0) y3 z3
  obtain ⟨rfl, N3, e3⟩ := hQ3
  have NF3 := own_fr l3 N0 N3
  refine own_go (fun _ k => st3.trans k) ?_
  show own_Gl p.tables e below F (T3.setTop (mkF m 37 #[.val (.ref a), .unset] [(.int (0 : Int32))]))
  refine own_go (fun _ k => XS.ifYes X3.here hx rfl (pc0 := 37) (pc' := 44) rfl (hb hby d20_37) rfl (XT.i0_eq_t rfl) (by decide) (by decide) k) ?_
  show own_Gl p.tables e below F (T3.setTop (mkF m 44 #[.val (.ref a), .unset] []))
  refine own_go (fun _ k => XS.aloadN X3.here hx rfl (hb hby d20_44) rfl rfl k) ?_
  show own_Gl p.tables e below F (T3.setTop (mkF m 45 #[.val (.ref a), .unset] [(.ref a)]))
  obtain ⟨cq4, kq4, q4a, q4b, q4c⟩ := isOf hZ e3 E_a
  obtain ⟨_, _, ⟨T4, L4, k4, n4⟩, -, X4, ⟨Lc4, hQ4, l4, y4, z4⟩, st4⟩ := X3.interfaceBack hx (xi := (⟨"java/util/Collection", "toArray", "()[Ljava/lang/Object;"⟩ : MethodName)) (y := (⟨"java/util/ArrayList", "toArray", "()[Ljava/lang/Object;"⟩ : MethodName)) hown (mvT hZ (hw _ (List.mem_of_getElem? (i := 185) rfl))) (mvT hZ (hw _ (List.mem_of_getElem? (i := 186) rfl))) (mvT hZ (hw _ (List.mem_of_getElem? (i := 187) rfl))) (mvT hZ (hw _ (List.mem_of_getElem? (i := 188) rfl))) (mvT hZ (hw _ (List.mem_of_getElem? (i := 189) rfl))) (mvT hZ (hw _ (List.mem_of_getElem? (i := 190) rfl))) (mvT hZ (hw _ (List.mem_of_getElem? (i := 191) rfl))) (mvT hZ (hw _ (List.mem_of_getElem? (i := 118) rfl))) (by decide) (backOf (W := 0) (rmTA_1 l Z a0 hw [] a b mi kb x0 h0 n0 Z0 FD FS VB EB MI EX0) hZ (hw _ (List.mem_of_getElem? (i := 192) rfl)) (hw _ (List.mem_of_getElem? (i := 46) rfl)) (by decide) (by decide)) q4a q4b q4c (g := (mkF m 45 #[.val (.ref a), .unset] [(.ref a)])) rfl (by rw [hml]; rfl) (Steps.refl _) (argsL := []) (rest := []) (lenOf pd_7 rfl) rfl (by show 2 * 0 + _ ≤ _; exact Nat.le_of_eq rfl) (hb hby d20_45) (fun _ _ => ⟨rfl, e3, (by first | decide | exact Nat.le_of_ble_eq_true rfl), (by first | decide | exact Nat.le_of_ble_eq_true rfl)⟩)
  dsimp only [Pt.U, Pt.locs, Pt.cells, Pt.slots] at X4 l4 y4 z4 st4 hQ4
  have X4 := own_sn X4 (k' := 1) (n' := 1) y4 z4
  obtain ⟨t4, kt4, rfl, N4, K4, ht4, VT4, OT4⟩ := hQ4
  have NF4 := own_fr l4 NF3 N4
  have f4_1 := E_a.keep K4
  have f4_2 := FS.keep K4 nin0
  have f4_3 := FD.keep K4 nin0
  have f4_4 := OO.keep K4 (all0)
  have Z4 : n0 ≤ T4.heap.size := Nat.le_trans Z0 K4.1
  have KK4 := Keep.trans (Keep.refl h0 []) K4 (fun _ q => nomatch q)
  refine own_go (fun _ k => st4.trans k) ?_
  show own_Gl p.tables e below F (T4.setTop (mkF m 50 #[.val (.ref a), .unset] [(.ref t4)]))
  have EZ0 := EX0.keep K4
  obtain ⟨_, _, ⟨T5, L5, k5, n5⟩, -, X5, ⟨Lc5, hQ5, l5, y5, z5⟩, st5⟩ := Jvm.LawKit.callS X4 hx (y := (⟨"java/util/List", "of", "([Ljava/lang/Object;)Ljava/util/List;"⟩ : MethodName)) hown (mvT hZ (hw _ (List.mem_of_getElem? (i := 215) rfl))) (mvT hZ (hw _ (List.mem_of_getElem? (i := 216) rfl))) (mvT hZ (hw _ (List.mem_of_getElem? (i := 99) rfl))) (mvT hZ (hw _ (List.mem_of_getElem? (i := 217) rfl))) (by decide) (backOf (W := 0) (rmLO_1 l Z a0 hw [] t4 kt4 x0 em T4.heap n0 Z4 VT4 EZ0 f4_4 SM) hZ (hw _ (List.mem_of_getElem? (i := 217) rfl)) (hw _ (List.mem_of_getElem? (i := 99) rfl)) (by decide) (by decide)) (g := (mkF m 50 #[.val (.ref a), .unset] [(.ref t4)])) rfl (by rw [hml]; rfl) (argsL := [(.ref t4)]) (rest := []) (lenOf pd_15 rfl) rfl (by show 2 * 0 + _ ≤ _; exact Nat.le_of_eq rfl) (hb hby d20_50) (fun _ _ => ⟨rfl, rfl, (by first | decide | exact Nat.le_of_ble_eq_true rfl), (by first | decide | exact Nat.le_of_ble_eq_true rfl)⟩)
  dsimp only [Pt.U, Pt.locs, Pt.cells, Pt.slots] at X5 l5 y5 z5 st5 hQ5
  have X5 := own_sn X5 (k' := 3) (n' := 6) y5 z5
  obtain ⟨y5, rfl, N5, K5, EY5⟩ := hQ5
  have NF5 := own_fr l5 NF4 N5
  have f5_1 := f4_1.keep K5
  have f5_2 := f4_2.keep K5 nin0
  have f5_3 := f4_3.keep K5 nin0
  have f5_4 := f4_4.keep K5 (all0)
  have Z5 : n0 ≤ T5.heap.size := Nat.le_trans Z4 K5.1
  have KK5 := Keep.trans KK4 K5 (fun _ q => nomatch q)
  refine own_go st5 ?_
  show own_Gl p.tables e below F (T5.setTop (mkF m 53 #[.val (.ref a), .unset] [(.ref y5)]))
  obtain ⟨fs, hr, hrun, hended, hW, hsame⟩ := X5.leave (v := some (.ref y5)) (fun h => by rw [Bd.returns] at h; cases h)
  subst hF
  refine own_fin ?_ ⟨hrun, hended, _, _, rfl, ?_, ⟨_, rfl⟩, hW, hsame.mono (by first | decide | exact Nat.le_of_ble_eq_true rfl) (by first | decide | exact Nat.le_of_ble_eq_true rfl)⟩
  · exact own_retA X5 hx Bd.returns rfl rfl (hb hby d20_53) hr
  · show Q_rmLC_1 Z _ _ _ _ _ _ h0 n0 _ T5.heap _
    exact ⟨y5, rfl, NF5, KK5, EY5⟩
theorem ef_rmLC_2 (m : MethodId) (x0 : Addr) : entryFrame m #[(.ref x0)] 2 = mkF m 0 #[.val (.ref x0), .unset] [] := by first | (simp [entryFrame, mkF, argsToLocals, Value.category]; done) | rfl
def Q_rmLC_2 (Z : State) (a b : Addr) (kb : ClassId) (mi x0 x1 : Addr) (h0 : Heap) (n0 : Nat) (v : Option Value) (h : Heap) (L : List Loc) : Prop := ∃ y : Addr, v = some (.ref y) ∧ Fr n0 L ∧ Keep h0 h [] ∧ Exa Z h y "java/util/ImmutableCollections$List12"
set_option maxRecDepth 65536 in
set_option maxHeartbeats 40000000 in
theorem rmLC_2 (l : Launch) (Z : State) (a0 : Array Value) (hw : ∀ d ∈ tables_1, d.before a0 Z = true) (ws : List Jvm.Cond) (a b : Addr) (kb : ClassId) (mi x0 x1 : Addr) (h0 : Heap) (n0 : Nat) (Z0 : n0 ≤ h0.size) (E_a : Exa Z h0 a "java/util/ArrayList") (FD : Fld Z h0 a "java/util/ArrayList" "elementData" "[Ljava/lang/Object;" (.ref b)) (FS : Fld Z h0 a "java/util/ArrayList" "size" "I" (.int 2)) (VB : Arv Z h0 b kb (.object "java/lang/Object") 10 [(.ref x0), (.ref x1), .null, .null, .null, .null, .null, .null, .null, .null] .null) (EB : Exa Z h0 b "[Ljava/lang/Object;") (MI : Mir Z "[Ljava/lang/Object;" mi) (EX0 : Exa Z h0 x0 "java/lang/String") (EX1 : Exa Z h0 x1 "java/lang/String") :
    MetFree l (⟨"java/util/ImmutableCollections", "listCopy", "(Ljava/util/Collection;)Ljava/util/List;"⟩ : MethodName) (head1 (Jvm.Cond.code (⟨"java/util/ImmutableCollections", "listCopy", "(Ljava/util/Collection;)Ljava/util/List;"⟩ : MethodName) jdk_56_method_3_code 2 (some (.object "java/util/List")) :: ws) ({ frames := 7, cells := 3, slots := 8, locals := 100 } : Room)) (fun ag U => ag = #[(.ref a)] ∧ Z.Warmed39 U.vm ∧ U.heap = h0) (fun _ _ _ _ _ => True) (fun _ U o U' => ∃ v L, o = .returned v ∧ Q_rmLC_2 Z a b kb mi x0 x1 h0 n0 v U'.heap L ∧ FrameEnd U o U' L ({ frames := 7, cells := 3, slots := 8, locals := 100 } : Room).cells ({ frames := 7, cells := 3, slots := 8, locals := 100 } : Room).slots) := by
  refine MetFree.of_bodySF (plainFor_of_name pn_13) hisR ?_
  intro p e s m args below meth c s₁ Bd hml0 hP hK
  obtain ⟨rfl, hZ, hh⟩ := hP
  have hx := Bd.exec
  have hby := Bd.bytes
  have hml : c.maxLocals = 2 := hml0
  have hown : s.vm.findClass "java/util/ImmutableCollections" = some m.cls := findClass_of_methodNamed Bd.named
  have hnm := (name_of_methodNamed Bd.named Bd.method).1
  have X0 : Stand p l e ({ frames := 7, cells := 3, slots := 8, locals := 100 } : Room) s m #[(.ref a)] below meth c s₁ [] 0 0 := Stand.of_body Bd
  have e0 : s₁.heap = h0 := by rw [← hh, Bd.state]; rfl
  have N0 := Fr.nil n0
  refine own_start (ef_rmLC_2 m a) ?_
  intro F hF
  show own_Gl p.tables e below F (s₁.setTop (mkF m 0 #[.val (.ref a), .unset] []))
  obtain ⟨cL, hcL⟩ : ∃ c, Z.vm.findClass "java/util/ArrayList" = some c := by obtain ⟨cc, kk, -, q, -⟩ := E_a; exact ⟨_, q⟩
  refine own_go (fun _ k => XS.aloadN X0.here hx rfl (hb hby d20_0) rfl rfl k) ?_
  show own_Gl p.tables e below F (s₁.setTop (mkF m 1 #[.val (.ref a), .unset] [(.ref a)]))
  obtain ⟨T1, X1, e1, st1⟩ := instNo X0 hx hZ hown (hw _ (List.mem_of_getElem? (i := 105) rfl)) e0 E_a (own_notAL (hw _ (List.mem_of_getElem? (i := 106) rfl)) (hw _ (List.mem_of_getElem? (i := 107) rfl)) (hw _ (List.mem_of_getElem? (i := 108) rfl)) (hw _ (List.mem_of_getElem? (i := 109) rfl)) (hw _ (List.mem_of_getElem? (i := 245) rfl)) (by decide) hcL) (g := (mkF m 1 #[.val (.ref a), .unset] [(.ref a)])) rfl rfl (hb hby d20_1)
  refine own_go st1 ?_
  show own_Gl p.tables e below F (T1.setTop (mkF m 4 #[.val (.ref a), .unset] [(.int (0 : Int32))]))
  refine own_go (fun _ k => XS.ifNo X1.here hx rfl (hb hby d20_4) rfl (XT.i0_ne_f rfl) k) ?_
  show own_Gl p.tables e below F (T1.setTop (mkF m 7 #[.val (.ref a), .unset] []))
  refine own_go (fun _ k => XS.aloadN X1.here hx rfl (hb hby d20_7) rfl rfl k) ?_
  show own_Gl p.tables e below F (T1.setTop (mkF m 8 #[.val (.ref a), .unset] [(.ref a)]))
  obtain ⟨T2, X2, e2, st2⟩ := instNo X1 hx hZ hown (hw _ (List.mem_of_getElem? (i := 110) rfl)) e1 E_a (own_notAL (hw _ (List.mem_of_getElem? (i := 106) rfl)) (hw _ (List.mem_of_getElem? (i := 107) rfl)) (hw _ (List.mem_of_getElem? (i := 108) rfl)) (hw _ (List.mem_of_getElem? (i := 109) rfl)) (hw _ (List.mem_of_getElem? (i := 223) rfl)) (by decide) hcL) (g := (mkF m 8 #[.val (.ref a), .unset] [(.ref a)])) rfl rfl (hb hby d20_8)
  refine own_go st2 ?_
  show own_Gl p.tables e below F (T2.setTop (mkF m 11 #[.val (.ref a), .unset] [(.int (0 : Int32))]))
  refine own_go (fun _ k => XS.ifYes X2.here hx rfl (pc0 := 11) (pc' := 31) rfl (hb hby d20_11) rfl (XT.i0_eq_t rfl) (by decide) (by decide) k) ?_
  show own_Gl p.tables e below F (T2.setTop (mkF m 31 #[.val (.ref a), .unset] []))
  refine own_go (fun _ k => XS.aloadN X2.here hx rfl (hb hby d20_31) rfl rfl k) ?_
  show own_Gl p.tables e below F (T2.setTop (mkF m 32 #[.val (.ref a), .unset] [(.ref a)]))
  obtain ⟨cq3, kq3, q3a, q3b, q3c⟩ := isOf hZ e2 E_a
  obtain ⟨_, _, ⟨T3, L3, k3, n3⟩, -, X3, ⟨Lc3, hQ3, l3, y3, z3⟩, st3⟩ := X2.interfaceBack hx (xi := (⟨"java/util/Collection", "isEmpty", "()Z"⟩ : MethodName)) (y := (⟨"java/util/ArrayList", "isEmpty", "()Z"⟩ : MethodName)) hown (mvT hZ (hw _ (List.mem_of_getElem? (i := 111) rfl))) (mvT hZ (hw _ (List.mem_of_getElem? (i := 112) rfl))) (mvT hZ (hw _ (List.mem_of_getElem? (i := 113) rfl))) (mvT hZ (hw _ (List.mem_of_getElem? (i := 114) rfl))) (mvT hZ (hw _ (List.mem_of_getElem? (i := 115) rfl))) (mvT hZ (hw _ (List.mem_of_getElem? (i := 116) rfl))) (mvT hZ (hw _ (List.mem_of_getElem? (i := 117) rfl))) (mvT hZ (hw _ (List.mem_of_getElem? (i := 118) rfl))) (by decide) (backOf (W := 0) (rmIE_2 l Z a0 hw [] a  h0 n0 Z0 FS) hZ (hw _ (List.mem_of_getElem? (i := 119) rfl)) (hw _ (List.mem_of_getElem? (i := 46) rfl)) (by decide) (by decide)) q3a q3b q3c (g := (mkF m 32 #[.val (.ref a), .unset] [(.ref a)])) rfl (by rw [hml]; rfl) (Steps.refl _) (argsL := []) (rest := []) (lenOf pd_16 rfl) rfl (by show 2 * 0 + _ ≤ _; exact Nat.le_of_eq rfl) (hb hby d20_32) (fun _ _ => ⟨rfl, e2, (by first | decide | exact Nat.le_of_ble_eq_true rfl), (by first | decide | exact Nat.le_of_ble_eq_true rfl)⟩)
  dsimp only [Pt.U, Pt.locs, Pt.cells, Pt.slots] at X3 l3 y3 z3 st3 hQ3
  have X3 := own_sn X3 (k' := 0) (n' := 0) y3 z3
  obtain ⟨rfl, N3, e3⟩ := hQ3
  have NF3 := own_fr l3 N0 N3
  refine own_go (fun _ k => st3.trans k) ?_
  show own_Gl p.tables e below F (T3.setTop (mkF m 37 #[.val (.ref a), .unset] [(.int (0 : Int32))]))
  refine own_go (fun _ k => XS.ifYes X3.here hx rfl (pc0 := 37) (pc' := 44) rfl (hb hby d20_37) rfl (XT.i0_eq_t rfl) (by decide) (by decide) k) ?_
  show own_Gl p.tables e below F (T3.setTop (mkF m 44 #[.val (.ref a), .unset] []))
  refine own_go (fun _ k => XS.aloadN X3.here hx rfl (hb hby d20_44) rfl rfl k) ?_
  show own_Gl p.tables e below F (T3.setTop (mkF m 45 #[.val (.ref a), .unset] [(.ref a)]))
  obtain ⟨cq4, kq4, q4a, q4b, q4c⟩ := isOf hZ e3 E_a
  obtain ⟨_, _, ⟨T4, L4, k4, n4⟩, -, X4, ⟨Lc4, hQ4, l4, y4, z4⟩, st4⟩ := X3.interfaceBack hx (xi := (⟨"java/util/Collection", "toArray", "()[Ljava/lang/Object;"⟩ : MethodName)) (y := (⟨"java/util/ArrayList", "toArray", "()[Ljava/lang/Object;"⟩ : MethodName)) hown (mvT hZ (hw _ (List.mem_of_getElem? (i := 185) rfl))) (mvT hZ (hw _ (List.mem_of_getElem? (i := 186) rfl))) (mvT hZ (hw _ (List.mem_of_getElem? (i := 187) rfl))) (mvT hZ (hw _ (List.mem_of_getElem? (i := 188) rfl))) (mvT hZ (hw _ (List.mem_of_getElem? (i := 189) rfl))) (mvT hZ (hw _ (List.mem_of_getElem? (i := 190) rfl))) (mvT hZ (hw _ (List.mem_of_getElem? (i := 191) rfl))) (mvT hZ (hw _ (List.mem_of_getElem? (i := 118) rfl))) (by decide) (backOf (W := 0) (rmTA_2 l Z a0 hw [] a b mi kb x0 x1 h0 n0 Z0 FD FS VB EB MI EX0 EX1) hZ (hw _ (List.mem_of_getElem? (i := 192) rfl)) (hw _ (List.mem_of_getElem? (i := 46) rfl)) (by decide) (by decide)) q4a q4b q4c (g := (mkF m 45 #[.val (.ref a), .unset] [(.ref a)])) rfl (by rw [hml]; rfl) (Steps.refl _) (argsL := []) (rest := []) (lenOf pd_7 rfl) rfl (by show 2 * 0 + _ ≤ _; exact Nat.le_of_eq rfl) (hb hby d20_45) (fun _ _ => ⟨rfl, e3, (by first | decide | exact Nat.le_of_ble_eq_true rfl), (by first | decide | exact Nat.le_of_ble_eq_true rfl)⟩)
  dsimp only [Pt.U, Pt.locs, Pt.cells, Pt.slots] at X4 l4 y4 z4 st4 hQ4
  have X4 := own_sn X4 (k' := 1) (n' := 2) y4 z4
  obtain ⟨t4, kt4, rfl, N4, K4, ht4, VT4, OT4⟩ := hQ4
  have NF4 := own_fr l4 NF3 N4
  have f4_1 := E_a.keep K4
  have f4_2 := FS.keep K4 nin0
  have f4_3 := FD.keep K4 nin0
  have Z4 : n0 ≤ T4.heap.size := Nat.le_trans Z0 K4.1
  have KK4 := Keep.trans (Keep.refl h0 []) K4 (fun _ q => nomatch q)
  refine own_go (fun _ k => st4.trans k) ?_
  show own_Gl p.tables e below F (T4.setTop (mkF m 50 #[.val (.ref a), .unset] [(.ref t4)]))
  have EZ0 := EX0.keep K4
  have EZ1 := EX1.keep K4
  obtain ⟨_, _, ⟨T5, L5, k5, n5⟩, -, X5, ⟨Lc5, hQ5, l5, y5, z5⟩, st5⟩ := Jvm.LawKit.callS X4 hx (y := (⟨"java/util/List", "of", "([Ljava/lang/Object;)Ljava/util/List;"⟩ : MethodName)) hown (mvT hZ (hw _ (List.mem_of_getElem? (i := 215) rfl))) (mvT hZ (hw _ (List.mem_of_getElem? (i := 216) rfl))) (mvT hZ (hw _ (List.mem_of_getElem? (i := 99) rfl))) (mvT hZ (hw _ (List.mem_of_getElem? (i := 217) rfl))) (by decide) (backOf (W := 0) (rmLO_2 l Z a0 hw [] t4 kt4 x0 x1 T4.heap n0 Z4 VT4 EZ0 EZ1) hZ (hw _ (List.mem_of_getElem? (i := 217) rfl)) (hw _ (List.mem_of_getElem? (i := 99) rfl)) (by decide) (by decide)) (g := (mkF m 50 #[.val (.ref a), .unset] [(.ref t4)])) rfl (by rw [hml]; rfl) (argsL := [(.ref t4)]) (rest := []) (lenOf pd_15 rfl) rfl (by show 2 * 0 + _ ≤ _; exact Nat.le_of_eq rfl) (hb hby d20_50) (fun _ _ => ⟨rfl, rfl, (by first | decide | exact Nat.le_of_ble_eq_true rfl), (by first | decide | exact Nat.le_of_ble_eq_true rfl)⟩)
  dsimp only [Pt.U, Pt.locs, Pt.cells, Pt.slots] at X5 l5 y5 z5 st5 hQ5
  have X5 := own_sn X5 (k' := 3) (n' := 7) y5 z5
  obtain ⟨y5, rfl, N5, K5, EY5⟩ := hQ5
  have NF5 := own_fr l5 NF4 N5
  have f5_1 := f4_1.keep K5
  have f5_2 := f4_2.keep K5 nin0
  have f5_3 := f4_3.keep K5 nin0
  have Z5 : n0 ≤ T5.heap.size := Nat.le_trans Z4 K5.1
  have KK5 := Keep.trans KK4 K5 (fun _ q => nomatch q)
  refine own_go st5 ?_
  show own_Gl p.tables e below F (T5.setTop (mkF m 53 #[.val (.ref a), .unset] [(.ref y5)]))
  obtain ⟨fs, hr, hrun, hended, hW, hsame⟩ := X5.leave (v := some (.ref y5)) (fun h => by rw [Bd.returns] at h; cases h)
  subst hF
  refine own_fin ?_ ⟨hrun, hended, _, _, rfl, ?_, ⟨_, rfl⟩, hW, hsame.mono (by first | decide | exact Nat.le_of_ble_eq_true rfl) (by first | decide | exact Nat.le_of_ble_eq_true rfl)⟩
  · exact own_retA X5 hx Bd.returns rfl rfl (hb hby d20_53) hr
  · show Q_rmLC_2 Z _ _ _ _ _ _ h0 n0 _ T5.heap _
    exact ⟨y5, rfl, NF5, KK5, EY5⟩
theorem ef_rmLC_3 (m : MethodId) (x0 : Addr) : entryFrame m #[(.ref x0)] 2 = mkF m 0 #[.val (.ref x0), .unset] [] := by first | (simp [entryFrame, mkF, argsToLocals, Value.category]; done) | rfl
def Q_rmLC_3 (Z : State) (a b : Addr) (kb : ClassId) (mi x0 x1 x2 : Addr) (h0 : Heap) (n0 : Nat) (v : Option Value) (h : Heap) (L : List Loc) : Prop := ∃ (y t2 : Addr) (k2 : ClassId), v = some (.ref y) ∧ Fr n0 L ∧ Keep h0 h [] ∧ Exa Z h y "java/util/ImmutableCollections$ListN" ∧ Fld Z h y "java/util/ImmutableCollections$ListN" "elements" "[Ljava/lang/Object;" (.ref t2) ∧ Arv Z h t2 k2 (.object "java/lang/Object") 3 [(.ref x0), (.ref x1), (.ref x2)] .null
set_option maxRecDepth 65536 in
set_option maxHeartbeats 40000000 in
theorem rmLC_3 (l : Launch) (Z : State) (a0 : Array Value) (hw : ∀ d ∈ tables_1, d.before a0 Z = true) (ws : List Jvm.Cond) (a b : Addr) (kb : ClassId) (mi x0 x1 x2 : Addr) (h0 : Heap) (n0 : Nat) (Z0 : n0 ≤ h0.size) (E_a : Exa Z h0 a "java/util/ArrayList") (FD : Fld Z h0 a "java/util/ArrayList" "elementData" "[Ljava/lang/Object;" (.ref b)) (FS : Fld Z h0 a "java/util/ArrayList" "size" "I" (.int 3)) (VB : Arv Z h0 b kb (.object "java/lang/Object") 10 [(.ref x0), (.ref x1), (.ref x2), .null, .null, .null, .null, .null, .null, .null] .null) (EB : Exa Z h0 b "[Ljava/lang/Object;") (MI : Mir Z "[Ljava/lang/Object;" mi) (EX0 : Exa Z h0 x0 "java/lang/String") (EX1 : Exa Z h0 x1 "java/lang/String") (EX2 : Exa Z h0 x2 "java/lang/String") :
    MetFree l (⟨"java/util/ImmutableCollections", "listCopy", "(Ljava/util/Collection;)Ljava/util/List;"⟩ : MethodName) (head1 (Jvm.Cond.code (⟨"java/util/ImmutableCollections", "listCopy", "(Ljava/util/Collection;)Ljava/util/List;"⟩ : MethodName) jdk_56_method_3_code 2 (some (.object "java/util/List")) :: ws) ({ frames := 7, cells := 3, slots := 8, locals := 100 } : Room)) (fun ag U => ag = #[(.ref a)] ∧ Z.Warmed39 U.vm ∧ U.heap = h0) (fun _ _ _ _ _ => True) (fun _ U o U' => ∃ v L, o = .returned v ∧ Q_rmLC_3 Z a b kb mi x0 x1 x2 h0 n0 v U'.heap L ∧ FrameEnd U o U' L ({ frames := 7, cells := 3, slots := 8, locals := 100 } : Room).cells ({ frames := 7, cells := 3, slots := 8, locals := 100 } : Room).slots) := by
  refine MetFree.of_bodySF (plainFor_of_name pn_13) hisR ?_
  intro p e s m args below meth c s₁ Bd hml0 hP hK
  obtain ⟨rfl, hZ, hh⟩ := hP
  have hx := Bd.exec
  have hby := Bd.bytes
  have hml : c.maxLocals = 2 := hml0
  have hown : s.vm.findClass "java/util/ImmutableCollections" = some m.cls := findClass_of_methodNamed Bd.named
  have hnm := (name_of_methodNamed Bd.named Bd.method).1
  have X0 : Stand p l e ({ frames := 7, cells := 3, slots := 8, locals := 100 } : Room) s m #[(.ref a)] below meth c s₁ [] 0 0 := Stand.of_body Bd
  have e0 : s₁.heap = h0 := by rw [← hh, Bd.state]; rfl
  have N0 := Fr.nil n0
  refine own_start (ef_rmLC_3 m a) ?_
  intro F hF
  show own_Gl p.tables e below F (s₁.setTop (mkF m 0 #[.val (.ref a), .unset] []))
  obtain ⟨cL, hcL⟩ : ∃ c, Z.vm.findClass "java/util/ArrayList" = some c := by obtain ⟨cc, kk, -, q, -⟩ := E_a; exact ⟨_, q⟩
  refine own_go (fun _ k => XS.aloadN X0.here hx rfl (hb hby d20_0) rfl rfl k) ?_
  show own_Gl p.tables e below F (s₁.setTop (mkF m 1 #[.val (.ref a), .unset] [(.ref a)]))
  obtain ⟨T1, X1, e1, st1⟩ := instNo X0 hx hZ hown (hw _ (List.mem_of_getElem? (i := 105) rfl)) e0 E_a (own_notAL (hw _ (List.mem_of_getElem? (i := 106) rfl)) (hw _ (List.mem_of_getElem? (i := 107) rfl)) (hw _ (List.mem_of_getElem? (i := 108) rfl)) (hw _ (List.mem_of_getElem? (i := 109) rfl)) (hw _ (List.mem_of_getElem? (i := 245) rfl)) (by decide) hcL) (g := (mkF m 1 #[.val (.ref a), .unset] [(.ref a)])) rfl rfl (hb hby d20_1)
  refine own_go st1 ?_
  show own_Gl p.tables e below F (T1.setTop (mkF m 4 #[.val (.ref a), .unset] [(.int (0 : Int32))]))
  refine own_go (fun _ k => XS.ifNo X1.here hx rfl (hb hby d20_4) rfl (XT.i0_ne_f rfl) k) ?_
  show own_Gl p.tables e below F (T1.setTop (mkF m 7 #[.val (.ref a), .unset] []))
  refine own_go (fun _ k => XS.aloadN X1.here hx rfl (hb hby d20_7) rfl rfl k) ?_
  show own_Gl p.tables e below F (T1.setTop (mkF m 8 #[.val (.ref a), .unset] [(.ref a)]))
  obtain ⟨T2, X2, e2, st2⟩ := instNo X1 hx hZ hown (hw _ (List.mem_of_getElem? (i := 110) rfl)) e1 E_a (own_notAL (hw _ (List.mem_of_getElem? (i := 106) rfl)) (hw _ (List.mem_of_getElem? (i := 107) rfl)) (hw _ (List.mem_of_getElem? (i := 108) rfl)) (hw _ (List.mem_of_getElem? (i := 109) rfl)) (hw _ (List.mem_of_getElem? (i := 223) rfl)) (by decide) hcL) (g := (mkF m 8 #[.val (.ref a), .unset] [(.ref a)])) rfl rfl (hb hby d20_8)
  refine own_go st2 ?_
  show own_Gl p.tables e below F (T2.setTop (mkF m 11 #[.val (.ref a), .unset] [(.int (0 : Int32))]))
  refine own_go (fun _ k => XS.ifYes X2.here hx rfl (pc0 := 11) (pc' := 31) rfl (hb hby d20_11) rfl (XT.i0_eq_t rfl) (by decide) (by decide) k) ?_
  show own_Gl p.tables e below F (T2.setTop (mkF m 31 #[.val (.ref a), .unset] []))
  refine own_go (fun _ k => XS.aloadN X2.here hx rfl (hb hby d20_31) rfl rfl k) ?_
  show own_Gl p.tables e below F (T2.setTop (mkF m 32 #[.val (.ref a), .unset] [(.ref a)]))
  obtain ⟨cq3, kq3, q3a, q3b, q3c⟩ := isOf hZ e2 E_a
  obtain ⟨_, _, ⟨T3, L3, k3, n3⟩, -, X3, ⟨Lc3, hQ3, l3, y3, z3⟩, st3⟩ := X2.interfaceBack hx (xi := (⟨"java/util/Collection", "isEmpty", "()Z"⟩ : MethodName)) (y := (⟨"java/util/ArrayList", "isEmpty", "()Z"⟩ : MethodName)) hown (mvT hZ (hw _ (List.mem_of_getElem? (i := 111) rfl))) (mvT hZ (hw _ (List.mem_of_getElem? (i := 112) rfl))) (mvT hZ (hw _ (List.mem_of_getElem? (i := 113) rfl))) (mvT hZ (hw _ (List.mem_of_getElem? (i := 114) rfl))) (mvT hZ (hw _ (List.mem_of_getElem? (i := 115) rfl))) (mvT hZ (hw _ (List.mem_of_getElem? (i := 116) rfl))) (mvT hZ (hw _ (List.mem_of_getElem? (i := 117) rfl))) (mvT hZ (hw _ (List.mem_of_getElem? (i := 118) rfl))) (by decide) (backOf (W := 0) (rmIE_3 l Z a0 hw [] a  h0 n0 Z0 FS) hZ (hw _ (List.mem_of_getElem? (i := 119) rfl)) (hw _ (List.mem_of_getElem? (i := 46) rfl)) (by decide) (by decide)) q3a q3b q3c (g := (mkF m 32 #[.val (.ref a), .unset] [(.ref a)])) rfl (by rw [hml]; rfl) (Steps.refl _) (argsL := []) (rest := []) (lenOf pd_16 rfl) rfl (by show 2 * 0 + _ ≤ _; exact Nat.le_of_eq rfl) (hb hby d20_32) (fun _ _ => ⟨rfl, e2, (by first | decide | exact Nat.le_of_ble_eq_true rfl), (by first | decide | exact Nat.le_of_ble_eq_true rfl)⟩)
  dsimp only [Pt.U, Pt.locs, Pt.cells, Pt.slots] at X3 l3 y3 z3 st3 hQ3
  have X3 := own_sn X3 (k' := 0) (n' := 0) y3 z3
  obtain ⟨rfl, N3, e3⟩ := hQ3
  have NF3 := own_fr l3 N0 N3
  refine own_go (fun _ k => st3.trans k) ?_
  show own_Gl p.tables e below F (T3.setTop (mkF m 37 #[.val (.ref a), .unset] [(.int (0 : Int32))]))
  refine own_go (fun _ k => XS.ifYes X3.here hx rfl (pc0 := 37) (pc' := 44) rfl (hb hby d20_37) rfl (XT.i0_eq_t rfl) (by decide) (by decide) k) ?_
  show own_Gl p.tables e below F (T3.setTop (mkF m 44 #[.val (.ref a), .unset] []))
  refine own_go (fun _ k => XS.aloadN X3.here hx rfl (hb hby d20_44) rfl rfl k) ?_
  show own_Gl p.tables e below F (T3.setTop (mkF m 45 #[.val (.ref a), .unset] [(.ref a)]))
  obtain ⟨cq4, kq4, q4a, q4b, q4c⟩ := isOf hZ e3 E_a
  obtain ⟨_, _, ⟨T4, L4, k4, n4⟩, -, X4, ⟨Lc4, hQ4, l4, y4, z4⟩, st4⟩ := X3.interfaceBack hx (xi := (⟨"java/util/Collection", "toArray", "()[Ljava/lang/Object;"⟩ : MethodName)) (y := (⟨"java/util/ArrayList", "toArray", "()[Ljava/lang/Object;"⟩ : MethodName)) hown (mvT hZ (hw _ (List.mem_of_getElem? (i := 185) rfl))) (mvT hZ (hw _ (List.mem_of_getElem? (i := 186) rfl))) (mvT hZ (hw _ (List.mem_of_getElem? (i := 187) rfl))) (mvT hZ (hw _ (List.mem_of_getElem? (i := 188) rfl))) (mvT hZ (hw _ (List.mem_of_getElem? (i := 189) rfl))) (mvT hZ (hw _ (List.mem_of_getElem? (i := 190) rfl))) (mvT hZ (hw _ (List.mem_of_getElem? (i := 191) rfl))) (mvT hZ (hw _ (List.mem_of_getElem? (i := 118) rfl))) (by decide) (backOf (W := 0) (rmTA_3 l Z a0 hw [] a b mi kb x0 x1 x2 h0 n0 Z0 FD FS VB EB MI EX0 EX1 EX2) hZ (hw _ (List.mem_of_getElem? (i := 192) rfl)) (hw _ (List.mem_of_getElem? (i := 46) rfl)) (by decide) (by decide)) q4a q4b q4c (g := (mkF m 45 #[.val (.ref a), .unset] [(.ref a)])) rfl (by rw [hml]; rfl) (Steps.refl _) (argsL := []) (rest := []) (lenOf pd_7 rfl) rfl (by show 2 * 0 + _ ≤ _; exact Nat.le_of_eq rfl) (hb hby d20_45) (fun _ _ => ⟨rfl, e3, (by first | decide | exact Nat.le_of_ble_eq_true rfl), (by first | decide | exact Nat.le_of_ble_eq_true rfl)⟩)
  dsimp only [Pt.U, Pt.locs, Pt.cells, Pt.slots] at X4 l4 y4 z4 st4 hQ4
  have X4 := own_sn X4 (k' := 1) (n' := 3) y4 z4
  obtain ⟨t4, kt4, rfl, N4, K4, ht4, VT4, OT4⟩ := hQ4
  have NF4 := own_fr l4 NF3 N4
  have f4_1 := E_a.keep K4
  have f4_2 := FS.keep K4 nin0
  have f4_3 := FD.keep K4 nin0
  have Z4 : n0 ≤ T4.heap.size := Nat.le_trans Z0 K4.1
  have KK4 := Keep.trans (Keep.refl h0 []) K4 (fun _ q => nomatch q)
  refine own_go (fun _ k => st4.trans k) ?_
  show own_Gl p.tables e below F (T4.setTop (mkF m 50 #[.val (.ref a), .unset] [(.ref t4)]))
  have EZ0 := EX0.keep K4
  have EZ1 := EX1.keep K4
  have EZ2 := EX2.keep K4
  obtain ⟨_, _, ⟨T5, L5, k5, n5⟩, -, X5, ⟨Lc5, hQ5, l5, y5, z5⟩, st5⟩ := Jvm.LawKit.callS X4 hx (y := (⟨"java/util/List", "of", "([Ljava/lang/Object;)Ljava/util/List;"⟩ : MethodName)) hown (mvT hZ (hw _ (List.mem_of_getElem? (i := 215) rfl))) (mvT hZ (hw _ (List.mem_of_getElem? (i := 216) rfl))) (mvT hZ (hw _ (List.mem_of_getElem? (i := 99) rfl))) (mvT hZ (hw _ (List.mem_of_getElem? (i := 217) rfl))) (by decide) (backOf (W := 0) (rmLO_3 l Z a0 hw [] t4 kt4 x0 x1 x2 T4.heap n0 Z4 VT4 EZ0 EZ1 EZ2) hZ (hw _ (List.mem_of_getElem? (i := 217) rfl)) (hw _ (List.mem_of_getElem? (i := 99) rfl)) (by decide) (by decide)) (g := (mkF m 50 #[.val (.ref a), .unset] [(.ref t4)])) rfl (by rw [hml]; rfl) (argsL := [(.ref t4)]) (rest := []) (lenOf pd_15 rfl) rfl (by show 2 * 0 + _ ≤ _; exact Nat.le_of_eq rfl) (hb hby d20_50) (fun _ _ => ⟨rfl, rfl, (by first | decide | exact Nat.le_of_ble_eq_true rfl), (by first | decide | exact Nat.le_of_ble_eq_true rfl)⟩)
  dsimp only [Pt.U, Pt.locs, Pt.cells, Pt.slots] at X5 l5 y5 z5 st5 hQ5
  have X5 := own_sn X5 (k' := 3) (n' := 8) y5 z5
  obtain ⟨y5, t5, k25, rfl, N5, K5, EY5, FY5, VY5⟩ := hQ5
  have NF5 := own_fr l5 NF4 N5
  have f5_1 := f4_1.keep K5
  have f5_2 := f4_2.keep K5 nin0
  have f5_3 := f4_3.keep K5 nin0
  have Z5 : n0 ≤ T5.heap.size := Nat.le_trans Z4 K5.1
  have KK5 := Keep.trans KK4 K5 (fun _ q => nomatch q)
  refine own_go st5 ?_
  show own_Gl p.tables e below F (T5.setTop (mkF m 53 #[.val (.ref a), .unset] [(.ref y5)]))
  obtain ⟨fs, hr, hrun, hended, hW, hsame⟩ := X5.leave (v := some (.ref y5)) (fun h => by rw [Bd.returns] at h; cases h)
  subst hF
  refine own_fin ?_ ⟨hrun, hended, _, _, rfl, ?_, ⟨_, rfl⟩, hW, hsame.mono (by first | decide | exact Nat.le_of_ble_eq_true rfl) (by first | decide | exact Nat.le_of_ble_eq_true rfl)⟩
  · exact own_retA X5 hx Bd.returns rfl rfl (hb hby d20_53) hr
  · show Q_rmLC_3 Z _ _ _ _ _ _ _ h0 n0 _ T5.heap _
    exact ⟨y5, t5, k25, rfl, NF5, KK5, EY5, FY5, VY5⟩
theorem ef_rmCO_0 (m : MethodId) (x0 : Addr) : entryFrame m #[(.ref x0)] 1 = mkF m 0 #[.val (.ref x0)] [] := by first | (simp [entryFrame, mkF, argsToLocals, Value.category]; done) | rfl
theorem d19_0 : decode jdk_40_method_48_code 0 = .ok (.aload_n 0, 1) := by decide +kernel
theorem d19_1 : decode jdk_40_method_48_code 1 = .ok (.invokestatic 112, 3) := by decide +kernel
theorem pd_18 : parseMethodDescriptor "(Ljava/util/Collection;)Ljava/util/List;" = some ⟨[(.object "java/util/Collection")], some (.object "java/util/List")⟩ := by decide +kernel
theorem d19_4 : decode jdk_40_method_48_code 4 = .ok (.areturn, 1) := by decide +kernel
def Q_rmCO_0 (Z : State) (a b : Addr) (el : Addr) (h0 : Heap) (n0 : Nat) (v : Option Value) (h : Heap) (L : List Loc) : Prop := v = some (.ref el) ∧ Fr n0 L ∧ Keep h0 h []
set_option maxRecDepth 65536 in
set_option maxHeartbeats 40000000 in
theorem rmCO_0 (l : Launch) (Z : State) (a0 : Array Value) (hw : ∀ d ∈ tables_1, d.before a0 Z = true) (ws : List Jvm.Cond) (a b : Addr) (el : Addr) (h0 : Heap) (n0 : Nat) (Z0 : n0 ≤ h0.size) (E_a : Exa Z h0 a "java/util/ArrayList") (FD : Fld Z h0 a "java/util/ArrayList" "elementData" "[Ljava/lang/Object;" (.ref b)) (FS : Fld Z h0 a "java/util/ArrayList" "size" "I" (.int 0)) (OO : Old Z n0 h0) (SL : Sta Z Z.heap "java/util/ImmutableCollections" "EMPTY_LIST" "Ljava/util/ImmutableCollections$ListN;" (.ref el)) :
    MetFree l (⟨"java/util/List", "copyOf", "(Ljava/util/Collection;)Ljava/util/List;"⟩ : MethodName) (head1 (Jvm.Cond.code (⟨"java/util/List", "copyOf", "(Ljava/util/Collection;)Ljava/util/List;"⟩ : MethodName) jdk_40_method_48_code 1 (some (.object "java/util/List")) :: ws) ({ frames := 8, cells := 3, slots := 8, locals := 113 } : Room)) (fun ag U => ag = #[(.ref a)] ∧ Z.Warmed39 U.vm ∧ U.heap = h0) (fun _ _ _ _ _ => True) (fun _ U o U' => ∃ v L, o = .returned v ∧ Q_rmCO_0 Z a b el h0 n0 v U'.heap L ∧ FrameEnd U o U' L ({ frames := 8, cells := 3, slots := 8, locals := 113 } : Room).cells ({ frames := 8, cells := 3, slots := 8, locals := 113 } : Room).slots) := by
  refine MetFree.of_bodySF (plainFor_of_name pn_14) hisR ?_
  intro p e s m args below meth c s₁ Bd hml0 hP hK
  obtain ⟨rfl, hZ, hh⟩ := hP
  have hx := Bd.exec
  have hby := Bd.bytes
  have hml : c.maxLocals = 1 := hml0
  have hown : s.vm.findClass "java/util/List" = some m.cls := findClass_of_methodNamed Bd.named
  have hnm := (name_of_methodNamed Bd.named Bd.method).1
  have X0 : Stand p l e ({ frames := 8, cells := 3, slots := 8, locals := 113 } : Room) s m #[(.ref a)] below meth c s₁ [] 0 0 := Stand.of_body Bd
  have e0 : s₁.heap = h0 := by rw [← hh, Bd.state]; rfl
  have N0 := Fr.nil n0
  refine own_start (ef_rmCO_0 m a) ?_
  intro F hF
  show own_Gl p.tables e below F (s₁.setTop (mkF m 0 #[.val (.ref a)] []))
  refine own_go (fun _ k => XS.aloadN X0.here hx rfl (hb hby d19_0) rfl rfl k) ?_
  show own_Gl p.tables e below F (s₁.setTop (mkF m 1 #[.val (.ref a)] [(.ref a)]))
  obtain ⟨_, _, ⟨T1, L1, k1, n1⟩, -, X1, ⟨Lc1, hQ1, l1, y1, z1⟩, st1⟩ := Jvm.LawKit.callS X0 hx (y := (⟨"java/util/ImmutableCollections", "listCopy", "(Ljava/util/Collection;)Ljava/util/List;"⟩ : MethodName)) hown (mvT hZ (hw _ (List.mem_of_getElem? (i := 101) rfl))) (mvT hZ (hw _ (List.mem_of_getElem? (i := 102) rfl))) (mvT hZ (hw _ (List.mem_of_getElem? (i := 103) rfl))) (mvT hZ (hw _ (List.mem_of_getElem? (i := 104) rfl))) (by decide) (backOf (W := 0) (rmLC_0 l Z a0 hw [] a b el h0 n0 Z0 E_a FD FS OO SL) hZ (hw _ (List.mem_of_getElem? (i := 104) rfl)) (hw _ (List.mem_of_getElem? (i := 103) rfl)) (by decide) (by decide)) (g := (mkF m 1 #[.val (.ref a)] [(.ref a)])) rfl (by rw [hml]; rfl) (argsL := [(.ref a)]) (rest := []) (lenOf pd_18 rfl) rfl (by show 2 * 0 + _ ≤ _; exact Nat.le_of_eq rfl) (hb hby d19_1) (fun _ _ => ⟨rfl, e0, (by first | decide | exact Nat.le_of_ble_eq_true rfl), (by first | decide | exact Nat.le_of_ble_eq_true rfl)⟩)
  dsimp only [Pt.U, Pt.locs, Pt.cells, Pt.slots] at X1 l1 y1 z1 st1 hQ1
  have X1 := own_sn X1 (k' := 3) (n' := 8) y1 z1
  obtain ⟨rfl, N1, K1⟩ := hQ1
  have NF1 := own_fr l1 N0 N1
  have Z1 : n0 ≤ T1.heap.size := Nat.le_trans Z0 K1.1
  have KK1 := Keep.trans (Keep.refl h0 []) K1 (fun _ q => nomatch q)
  refine own_go st1 ?_
  show own_Gl p.tables e below F (T1.setTop (mkF m 4 #[.val (.ref a)] [(.ref el)]))
  obtain ⟨fs, hr, hrun, hended, hW, hsame⟩ := X1.leave (v := some (.ref el)) (fun h => by rw [Bd.returns] at h; cases h)
  subst hF
  refine own_fin ?_ ⟨hrun, hended, _, _, rfl, ?_, ⟨_, rfl⟩, hW, hsame.mono (by first | decide | exact Nat.le_of_ble_eq_true rfl) (by first | decide | exact Nat.le_of_ble_eq_true rfl)⟩
  · exact own_retA X1 hx Bd.returns rfl rfl (hb hby d19_4) hr
  · show Q_rmCO_0 Z _ _ _ h0 n0 _ T1.heap _
    exact ⟨rfl, NF1, KK1⟩
theorem ef_rmCO_1 (m : MethodId) (x0 : Addr) : entryFrame m #[(.ref x0)] 1 = mkF m 0 #[.val (.ref x0)] [] := by first | (simp [entryFrame, mkF, argsToLocals, Value.category]; done) | rfl
def Q_rmCO_1 (Z : State) (a b : Addr) (kb : ClassId) (mi x0 : Addr) (em : Addr) (h0 : Heap) (n0 : Nat) (v : Option Value) (h : Heap) (L : List Loc) : Prop := ∃ y : Addr, v = some (.ref y) ∧ Fr n0 L ∧ Keep h0 h [] ∧ Exa Z h y "java/util/ImmutableCollections$List12"
set_option maxRecDepth 65536 in
set_option maxHeartbeats 40000000 in
theorem rmCO_1 (l : Launch) (Z : State) (a0 : Array Value) (hw : ∀ d ∈ tables_1, d.before a0 Z = true) (ws : List Jvm.Cond) (a b : Addr) (kb : ClassId) (mi x0 : Addr) (em : Addr) (h0 : Heap) (n0 : Nat) (Z0 : n0 ≤ h0.size) (E_a : Exa Z h0 a "java/util/ArrayList") (FD : Fld Z h0 a "java/util/ArrayList" "elementData" "[Ljava/lang/Object;" (.ref b)) (FS : Fld Z h0 a "java/util/ArrayList" "size" "I" (.int 1)) (VB : Arv Z h0 b kb (.object "java/lang/Object") 10 [(.ref x0), .null, .null, .null, .null, .null, .null, .null, .null, .null] .null) (EB : Exa Z h0 b "[Ljava/lang/Object;") (MI : Mir Z "[Ljava/lang/Object;" mi) (EX0 : Exa Z h0 x0 "java/lang/String") (OO : Old Z n0 h0) (SM : Sta Z Z.heap "java/util/ImmutableCollections" "EMPTY" "Ljava/lang/Object;" (.ref em)) :
    MetFree l (⟨"java/util/List", "copyOf", "(Ljava/util/Collection;)Ljava/util/List;"⟩ : MethodName) (head1 (Jvm.Cond.code (⟨"java/util/List", "copyOf", "(Ljava/util/Collection;)Ljava/util/List;"⟩ : MethodName) jdk_40_method_48_code 1 (some (.object "java/util/List")) :: ws) ({ frames := 8, cells := 3, slots := 8, locals := 113 } : Room)) (fun ag U => ag = #[(.ref a)] ∧ Z.Warmed39 U.vm ∧ U.heap = h0) (fun _ _ _ _ _ => True) (fun _ U o U' => ∃ v L, o = .returned v ∧ Q_rmCO_1 Z a b kb mi x0 em h0 n0 v U'.heap L ∧ FrameEnd U o U' L ({ frames := 8, cells := 3, slots := 8, locals := 113 } : Room).cells ({ frames := 8, cells := 3, slots := 8, locals := 113 } : Room).slots) := by
  refine MetFree.of_bodySF (plainFor_of_name pn_14) hisR ?_
  intro p e s m args below meth c s₁ Bd hml0 hP hK
  obtain ⟨rfl, hZ, hh⟩ := hP
  have hx := Bd.exec
  have hby := Bd.bytes
  have hml : c.maxLocals = 1 := hml0
  have hown : s.vm.findClass "java/util/List" = some m.cls := findClass_of_methodNamed Bd.named
  have hnm := (name_of_methodNamed Bd.named Bd.method).1
  have X0 : Stand p l e ({ frames := 8, cells := 3, slots := 8, locals := 113 } : Room) s m #[(.ref a)] below meth c s₁ [] 0 0 := Stand.of_body Bd
  have e0 : s₁.heap = h0 := by rw [← hh, Bd.state]; rfl
  have N0 := Fr.nil n0
  refine own_start (ef_rmCO_1 m a) ?_
  intro F hF
  show own_Gl p.tables e below F (s₁.setTop (mkF m 0 #[.val (.ref a)] []))
  refine own_go (fun _ k => XS.aloadN X0.here hx rfl (hb hby d19_0) rfl rfl k) ?_
  show own_Gl p.tables e below F (s₁.setTop (mkF m 1 #[.val (.ref a)] [(.ref a)]))
  obtain ⟨_, _, ⟨T1, L1, k1, n1⟩, -, X1, ⟨Lc1, hQ1, l1, y1, z1⟩, st1⟩ := Jvm.LawKit.callS X0 hx (y := (⟨"java/util/ImmutableCollections", "listCopy", "(Ljava/util/Collection;)Ljava/util/List;"⟩ : MethodName)) hown (mvT hZ (hw _ (List.mem_of_getElem? (i := 101) rfl))) (mvT hZ (hw _ (List.mem_of_getElem? (i := 102) rfl))) (mvT hZ (hw _ (List.mem_of_getElem? (i := 103) rfl))) (mvT hZ (hw _ (List.mem_of_getElem? (i := 104) rfl))) (by decide) (backOf (W := 0) (rmLC_1 l Z a0 hw [] a b kb mi x0 em h0 n0 Z0 E_a FD FS VB EB MI EX0 OO SM) hZ (hw _ (List.mem_of_getElem? (i := 104) rfl)) (hw _ (List.mem_of_getElem? (i := 103) rfl)) (by decide) (by decide)) (g := (mkF m 1 #[.val (.ref a)] [(.ref a)])) rfl (by rw [hml]; rfl) (argsL := [(.ref a)]) (rest := []) (lenOf pd_18 rfl) rfl (by show 2 * 0 + _ ≤ _; exact Nat.le_of_eq rfl) (hb hby d19_1) (fun _ _ => ⟨rfl, e0, (by first | decide | exact Nat.le_of_ble_eq_true rfl), (by first | decide | exact Nat.le_of_ble_eq_true rfl)⟩)
  dsimp only [Pt.U, Pt.locs, Pt.cells, Pt.slots] at X1 l1 y1 z1 st1 hQ1
  have X1 := own_sn X1 (k' := 3) (n' := 8) y1 z1
  obtain ⟨y1, rfl, N1, K1, EY1⟩ := hQ1
  have NF1 := own_fr l1 N0 N1
  have Z1 : n0 ≤ T1.heap.size := Nat.le_trans Z0 K1.1
  have KK1 := Keep.trans (Keep.refl h0 []) K1 (fun _ q => nomatch q)
  refine own_go st1 ?_
  show own_Gl p.tables e below F (T1.setTop (mkF m 4 #[.val (.ref a)] [(.ref y1)]))
  obtain ⟨fs, hr, hrun, hended, hW, hsame⟩ := X1.leave (v := some (.ref y1)) (fun h => by rw [Bd.returns] at h; cases h)
  subst hF
  refine own_fin ?_ ⟨hrun, hended, _, _, rfl, ?_, ⟨_, rfl⟩, hW, hsame.mono (by first | decide | exact Nat.le_of_ble_eq_true rfl) (by first | decide | exact Nat.le_of_ble_eq_true rfl)⟩
  · exact own_retA X1 hx Bd.returns rfl rfl (hb hby d19_4) hr
  · show Q_rmCO_1 Z _ _ _ _ _ _ h0 n0 _ T1.heap _
    exact ⟨y1, rfl, NF1, KK1, EY1⟩
theorem ef_rmCO_2 (m : MethodId) (x0 : Addr) : entryFrame m #[(.ref x0)] 1 = mkF m 0 #[.val (.ref x0)] [] := by first | (simp [entryFrame, mkF, argsToLocals, Value.category]; done) | rfl
def Q_rmCO_2 (Z : State) (a b : Addr) (kb : ClassId) (mi x0 x1 : Addr) (h0 : Heap) (n0 : Nat) (v : Option Value) (h : Heap) (L : List Loc) : Prop := ∃ y : Addr, v = some (.ref y) ∧ Fr n0 L ∧ Keep h0 h [] ∧ Exa Z h y "java/util/ImmutableCollections$List12"
set_option maxRecDepth 65536 in
set_option maxHeartbeats 40000000 in
theorem rmCO_2 (l : Launch) (Z : State) (a0 : Array Value) (hw : ∀ d ∈ tables_1, d.before a0 Z = true) (ws : List Jvm.Cond) (a b : Addr) (kb : ClassId) (mi x0 x1 : Addr) (h0 : Heap) (n0 : Nat) (Z0 : n0 ≤ h0.size) (E_a : Exa Z h0 a "java/util/ArrayList") (FD : Fld Z h0 a "java/util/ArrayList" "elementData" "[Ljava/lang/Object;" (.ref b)) (FS : Fld Z h0 a "java/util/ArrayList" "size" "I" (.int 2)) (VB : Arv Z h0 b kb (.object "java/lang/Object") 10 [(.ref x0), (.ref x1), .null, .null, .null, .null, .null, .null, .null, .null] .null) (EB : Exa Z h0 b "[Ljava/lang/Object;") (MI : Mir Z "[Ljava/lang/Object;" mi) (EX0 : Exa Z h0 x0 "java/lang/String") (EX1 : Exa Z h0 x1 "java/lang/String") :
    MetFree l (⟨"java/util/List", "copyOf", "(Ljava/util/Collection;)Ljava/util/List;"⟩ : MethodName) (head1 (Jvm.Cond.code (⟨"java/util/List", "copyOf", "(Ljava/util/Collection;)Ljava/util/List;"⟩ : MethodName) jdk_40_method_48_code 1 (some (.object "java/util/List")) :: ws) ({ frames := 8, cells := 3, slots := 8, locals := 113 } : Room)) (fun ag U => ag = #[(.ref a)] ∧ Z.Warmed39 U.vm ∧ U.heap = h0) (fun _ _ _ _ _ => True) (fun _ U o U' => ∃ v L, o = .returned v ∧ Q_rmCO_2 Z a b kb mi x0 x1 h0 n0 v U'.heap L ∧ FrameEnd U o U' L ({ frames := 8, cells := 3, slots := 8, locals := 113 } : Room).cells ({ frames := 8, cells := 3, slots := 8, locals := 113 } : Room).slots) := by
  refine MetFree.of_bodySF (plainFor_of_name pn_14) hisR ?_
  intro p e s m args below meth c s₁ Bd hml0 hP hK
  obtain ⟨rfl, hZ, hh⟩ := hP
  have hx := Bd.exec
  have hby := Bd.bytes
  have hml : c.maxLocals = 1 := hml0
  have hown : s.vm.findClass "java/util/List" = some m.cls := findClass_of_methodNamed Bd.named
  have hnm := (name_of_methodNamed Bd.named Bd.method).1
  have X0 : Stand p l e ({ frames := 8, cells := 3, slots := 8, locals := 113 } : Room) s m #[(.ref a)] below meth c s₁ [] 0 0 := Stand.of_body Bd
  have e0 : s₁.heap = h0 := by rw [← hh, Bd.state]; rfl
  have N0 := Fr.nil n0
  refine own_start (ef_rmCO_2 m a) ?_
  intro F hF
  show own_Gl p.tables e below F (s₁.setTop (mkF m 0 #[.val (.ref a)] []))
  refine own_go (fun _ k => XS.aloadN X0.here hx rfl (hb hby d19_0) rfl rfl k) ?_
  show own_Gl p.tables e below F (s₁.setTop (mkF m 1 #[.val (.ref a)] [(.ref a)]))
  obtain ⟨_, _, ⟨T1, L1, k1, n1⟩, -, X1, ⟨Lc1, hQ1, l1, y1, z1⟩, st1⟩ := Jvm.LawKit.callS X0 hx (y := (⟨"java/util/ImmutableCollections", "listCopy", "(Ljava/util/Collection;)Ljava/util/List;"⟩ : MethodName)) hown (mvT hZ (hw _ (List.mem_of_getElem? (i := 101) rfl))) (mvT hZ (hw _ (List.mem_of_getElem? (i := 102) rfl))) (mvT hZ (hw _ (List.mem_of_getElem? (i := 103) rfl))) (mvT hZ (hw _ (List.mem_of_getElem? (i := 104) rfl))) (by decide) (backOf (W := 0) (rmLC_2 l Z a0 hw [] a b kb mi x0 x1 h0 n0 Z0 E_a FD FS VB EB MI EX0 EX1) hZ (hw _ (List.mem_of_getElem? (i := 104) rfl)) (hw _ (List.mem_of_getElem? (i := 103) rfl)) (by decide) (by decide)) (g := (mkF m 1 #[.val (.ref a)] [(.ref a)])) rfl (by rw [hml]; rfl) (argsL := [(.ref a)]) (rest := []) (lenOf pd_18 rfl) rfl (by show 2 * 0 + _ ≤ _; exact Nat.le_of_eq rfl) (hb hby d19_1) (fun _ _ => ⟨rfl, e0, (by first | decide | exact Nat.le_of_ble_eq_true rfl), (by first | decide | exact Nat.le_of_ble_eq_true rfl)⟩)
  dsimp only [Pt.U, Pt.locs, Pt.cells, Pt.slots] at X1 l1 y1 z1 st1 hQ1
  have X1 := own_sn X1 (k' := 3) (n' := 8) y1 z1
  obtain ⟨y1, rfl, N1, K1, EY1⟩ := hQ1
  have NF1 := own_fr l1 N0 N1
  have Z1 : n0 ≤ T1.heap.size := Nat.le_trans Z0 K1.1
  have KK1 := Keep.trans (Keep.refl h0 []) K1 (fun _ q => nomatch q)
  refine own_go st1 ?_
  show own_Gl p.tables e below F (T1.setTop (mkF m 4 #[.val (.ref a)] [(.ref y1)]))
  obtain ⟨fs, hr, hrun, hended, hW, hsame⟩ := X1.leave (v := some (.ref y1)) (fun h => by rw [Bd.returns] at h; cases h)
  subst hF
  refine own_fin ?_ ⟨hrun, hended, _, _, rfl, ?_, ⟨_, rfl⟩, hW, hsame.mono (by first | decide | exact Nat.le_of_ble_eq_true rfl) (by first | decide | exact Nat.le_of_ble_eq_true rfl)⟩
  · exact own_retA X1 hx Bd.returns rfl rfl (hb hby d19_4) hr
  · show Q_rmCO_2 Z _ _ _ _ _ _ h0 n0 _ T1.heap _
    exact ⟨y1, rfl, NF1, KK1, EY1⟩
theorem ef_rmCO_3 (m : MethodId) (x0 : Addr) : entryFrame m #[(.ref x0)] 1 = mkF m 0 #[.val (.ref x0)] [] := by first | (simp [entryFrame, mkF, argsToLocals, Value.category]; done) | rfl
def Q_rmCO_3 (Z : State) (a b : Addr) (kb : ClassId) (mi x0 x1 x2 : Addr) (h0 : Heap) (n0 : Nat) (v : Option Value) (h : Heap) (L : List Loc) : Prop := ∃ (y t2 : Addr) (k2 : ClassId), v = some (.ref y) ∧ Fr n0 L ∧ Keep h0 h [] ∧ Exa Z h y "java/util/ImmutableCollections$ListN" ∧ Fld Z h y "java/util/ImmutableCollections$ListN" "elements" "[Ljava/lang/Object;" (.ref t2) ∧ Arv Z h t2 k2 (.object "java/lang/Object") 3 [(.ref x0), (.ref x1), (.ref x2)] .null
set_option maxRecDepth 65536 in
set_option maxHeartbeats 40000000 in
theorem rmCO_3 (l : Launch) (Z : State) (a0 : Array Value) (hw : ∀ d ∈ tables_1, d.before a0 Z = true) (ws : List Jvm.Cond) (a b : Addr) (kb : ClassId) (mi x0 x1 x2 : Addr) (h0 : Heap) (n0 : Nat) (Z0 : n0 ≤ h0.size) (E_a : Exa Z h0 a "java/util/ArrayList") (FD : Fld Z h0 a "java/util/ArrayList" "elementData" "[Ljava/lang/Object;" (.ref b)) (FS : Fld Z h0 a "java/util/ArrayList" "size" "I" (.int 3)) (VB : Arv Z h0 b kb (.object "java/lang/Object") 10 [(.ref x0), (.ref x1), (.ref x2), .null, .null, .null, .null, .null, .null, .null] .null) (EB : Exa Z h0 b "[Ljava/lang/Object;") (MI : Mir Z "[Ljava/lang/Object;" mi) (EX0 : Exa Z h0 x0 "java/lang/String") (EX1 : Exa Z h0 x1 "java/lang/String") (EX2 : Exa Z h0 x2 "java/lang/String") :
    MetFree l (⟨"java/util/List", "copyOf", "(Ljava/util/Collection;)Ljava/util/List;"⟩ : MethodName) (head1 (Jvm.Cond.code (⟨"java/util/List", "copyOf", "(Ljava/util/Collection;)Ljava/util/List;"⟩ : MethodName) jdk_40_method_48_code 1 (some (.object "java/util/List")) :: ws) ({ frames := 8, cells := 3, slots := 8, locals := 113 } : Room)) (fun ag U => ag = #[(.ref a)] ∧ Z.Warmed39 U.vm ∧ U.heap = h0) (fun _ _ _ _ _ => True) (fun _ U o U' => ∃ v L, o = .returned v ∧ Q_rmCO_3 Z a b kb mi x0 x1 x2 h0 n0 v U'.heap L ∧ FrameEnd U o U' L ({ frames := 8, cells := 3, slots := 8, locals := 113 } : Room).cells ({ frames := 8, cells := 3, slots := 8, locals := 113 } : Room).slots) := by
  refine MetFree.of_bodySF (plainFor_of_name pn_14) hisR ?_
  intro p e s m args below meth c s₁ Bd hml0 hP hK
  obtain ⟨rfl, hZ, hh⟩ := hP
  have hx := Bd.exec
  have hby := Bd.bytes
  have hml : c.maxLocals = 1 := hml0
  have hown : s.vm.findClass "java/util/List" = some m.cls := findClass_of_methodNamed Bd.named
  have hnm := (name_of_methodNamed Bd.named Bd.method).1
  have X0 : Stand p l e ({ frames := 8, cells := 3, slots := 8, locals := 113 } : Room) s m #[(.ref a)] below meth c s₁ [] 0 0 := Stand.of_body Bd
  have e0 : s₁.heap = h0 := by rw [← hh, Bd.state]; rfl
  have N0 := Fr.nil n0
  refine own_start (ef_rmCO_3 m a) ?_
  intro F hF
  show own_Gl p.tables e below F (s₁.setTop (mkF m 0 #[.val (.ref a)] []))
  refine own_go (fun _ k => XS.aloadN X0.here hx rfl (hb hby d19_0) rfl rfl k) ?_
  show own_Gl p.tables e below F (s₁.setTop (mkF m 1 #[.val (.ref a)] [(.ref a)]))
  obtain ⟨_, _, ⟨T1, L1, k1, n1⟩, -, X1, ⟨Lc1, hQ1, l1, y1, z1⟩, st1⟩ := Jvm.LawKit.callS X0 hx (y := (⟨"java/util/ImmutableCollections", "listCopy", "(Ljava/util/Collection;)Ljava/util/List;"⟩ : MethodName)) hown (mvT hZ (hw _ (List.mem_of_getElem? (i := 101) rfl))) (mvT hZ (hw _ (List.mem_of_getElem? (i := 102) rfl))) (mvT hZ (hw _ (List.mem_of_getElem? (i := 103) rfl))) (mvT hZ (hw _ (List.mem_of_getElem? (i := 104) rfl))) (by decide) (backOf (W := 0) (rmLC_3 l Z a0 hw [] a b kb mi x0 x1 x2 h0 n0 Z0 E_a FD FS VB EB MI EX0 EX1 EX2) hZ (hw _ (List.mem_of_getElem? (i := 104) rfl)) (hw _ (List.mem_of_getElem? (i := 103) rfl)) (by decide) (by decide)) (g := (mkF m 1 #[.val (.ref a)] [(.ref a)])) rfl (by rw [hml]; rfl) (argsL := [(.ref a)]) (rest := []) (lenOf pd_18 rfl) rfl (by show 2 * 0 + _ ≤ _; exact Nat.le_of_eq rfl) (hb hby d19_1) (fun _ _ => ⟨rfl, e0, (by first | decide | exact Nat.le_of_ble_eq_true rfl), (by first | decide | exact Nat.le_of_ble_eq_true rfl)⟩)
  dsimp only [Pt.U, Pt.locs, Pt.cells, Pt.slots] at X1 l1 y1 z1 st1 hQ1
  have X1 := own_sn X1 (k' := 3) (n' := 8) y1 z1
  obtain ⟨y1, t1, k21, rfl, N1, K1, EY1, FY1, VY1⟩ := hQ1
  have NF1 := own_fr l1 N0 N1
  have Z1 : n0 ≤ T1.heap.size := Nat.le_trans Z0 K1.1
  have KK1 := Keep.trans (Keep.refl h0 []) K1 (fun _ q => nomatch q)
  refine own_go st1 ?_
  show own_Gl p.tables e below F (T1.setTop (mkF m 4 #[.val (.ref a)] [(.ref y1)]))
  obtain ⟨fs, hr, hrun, hended, hW, hsame⟩ := X1.leave (v := some (.ref y1)) (fun h => by rw [Bd.returns] at h; cases h)
  subst hF
  refine own_fin ?_ ⟨hrun, hended, _, _, rfl, ?_, ⟨_, rfl⟩, hW, hsame.mono (by first | decide | exact Nat.le_of_ble_eq_true rfl) (by first | decide | exact Nat.le_of_ble_eq_true rfl)⟩
  · exact own_retA X1 hx Bd.returns rfl rfl (hb hby d19_4) hr
  · show Q_rmCO_3 Z _ _ _ _ _ _ _ h0 n0 _ T1.heap _
    exact ⟨y1, t1, k21, rfl, NF1, KK1, EY1, FY1, VY1⟩
theorem ef_rmUI_0 (m : MethodId) (x0 : Addr) (x1 : Addr) (x2 : Int32) (x3 : Addr) : entryFrame m #[(.ref x0), (.ref x1), (.int x2), (.ref x3)] 4 = mkF m 0 #[.val (.ref x0), .val (.ref x1), .val (.int x2), .val (.ref x3)] [] := by first | (simp [entryFrame, mkF, argsToLocals, Value.category]; done) | rfl
theorem pn_15 : plainName "com/example/brokerwright/brokerwright/kafka/UserLookup" = true := by first | (simp [plainName, overriddenIn]; done) | decide +kernel
theorem d17_0 : decode prog_22_method_1_code 0 = .ok (.aload_n 0, 1) := by decide +kernel
theorem d17_1 : decode prog_22_method_1_code 1 = .ok (.invokespecial 1, 3) := by decide +kernel
theorem d17_4 : decode prog_22_method_1_code 4 = .ok (.aload_n 1, 1) := by decide +kernel
theorem d17_5 : decode prog_22_method_1_code 5 = .ok (.invokestatic 7, 3) := by decide +kernel
theorem d17_8 : decode prog_22_method_1_code 8 = .ok (.astore_n 1, 1) := by decide +kernel
theorem d17_9 : decode prog_22_method_1_code 9 = .ok (.aload_n 0, 1) := by decide +kernel
theorem d17_10 : decode prog_22_method_1_code 10 = .ok (.aload_n 1, 1) := by decide +kernel
theorem d17_11 : decode prog_22_method_1_code 11 = .ok (.putfield 13, 3) := by decide +kernel
theorem d17_14 : decode prog_22_method_1_code 14 = .ok (.aload_n 0, 1) := by decide +kernel
theorem d17_15 : decode prog_22_method_1_code 15 = .ok (.iload_n 2, 1) := by decide +kernel
theorem d17_16 : decode prog_22_method_1_code 16 = .ok (.putfield 19, 3) := by decide +kernel
theorem d17_19 : decode prog_22_method_1_code 19 = .ok (.aload_n 0, 1) := by decide +kernel
theorem d17_20 : decode prog_22_method_1_code 20 = .ok (.aload_n 3, 1) := by decide +kernel
theorem d17_21 : decode prog_22_method_1_code 21 = .ok (.putfield 23, 3) := by decide +kernel
theorem d17_24 : decode prog_22_method_1_code 24 = .ok (.return_, 1) := by decide +kernel
def Q_rmUI_0 (Z : State) (u a : Addr) (p2 : Int32) (ro b : Addr) (el : Addr) (h0 : Heap) (n0 : Nat) (v : Option Value) (h : Heap) (L : List Loc) : Prop := v = none ∧ Fr n0 L ∧ Keep h0 h [u] ∧ Exa Z h u "com/example/brokerwright/brokerwright/kafka/UserLookup" ∧ Fld Z h u "com/example/brokerwright/brokerwright/kafka/UserLookup" "holdsBindings" "Z" (.int (nar .boolean p2)) ∧ Fld Z h u "com/example/brokerwright/brokerwright/kafka/UserLookup" "mechanisms" "Ljava/util/List;" (.ref el)
set_option maxRecDepth 65536 in
set_option maxHeartbeats 40000000 in
theorem rmUI_0 (l : Launch) (Z : State) (a0 : Array Value) (hw : ∀ d ∈ tables_1, d.before a0 Z = true) (ws : List Jvm.Cond) (u a : Addr) (p2 : Int32) (ro b : Addr) (el : Addr) (h0 : Heap) (n0 : Nat) (Z0 : n0 ≤ h0.size) (E_u : Exa Z h0 u "com/example/brokerwright/brokerwright/kafka/UserLookup") (F_mechanisms : Fld Z h0 u "com/example/brokerwright/brokerwright/kafka/UserLookup" "mechanisms" "Ljava/util/List;" .null) (F_holdsBindings : Fld Z h0 u "com/example/brokerwright/brokerwright/kafka/UserLookup" "holdsBindings" "Z" (.int 0)) (F_refusal : Fld Z h0 u "com/example/brokerwright/brokerwright/kafka/UserLookup" "refusal" "Ljava/util/Optional;" .null) (g_u : n0 ≤ u) (E_a : Exa Z h0 a "java/util/ArrayList") (FD : Fld Z h0 a "java/util/ArrayList" "elementData" "[Ljava/lang/Object;" (.ref b)) (FS : Fld Z h0 a "java/util/ArrayList" "size" "I" (.int 0)) (OO : Old Z n0 h0) (SL : Sta Z Z.heap "java/util/ImmutableCollections" "EMPTY_LIST" "Ljava/util/ImmutableCollections$ListN;" (.ref el)) :
    MetFree l (⟨"com/example/brokerwright/brokerwright/kafka/UserLookup", "<init>", "(Ljava/util/List;ZLjava/util/Optional;)V"⟩ : MethodName) (head1 (Jvm.Cond.code (⟨"com/example/brokerwright/brokerwright/kafka/UserLookup", "<init>", "(Ljava/util/List;ZLjava/util/Optional;)V"⟩ : MethodName) prog_22_method_1_code 4 none :: ws) ({ frames := 9, cells := 3, slots := 8, locals := 125 } : Room)) (fun ag U => ag = #[(.ref u), (.ref a), (.int p2), (.ref ro)] ∧ Z.Warmed39 U.vm ∧ U.heap = h0) (fun _ _ _ _ _ => True) (fun _ U o U' => ∃ v L, o = .returned v ∧ Q_rmUI_0 Z u a p2 ro b el h0 n0 v U'.heap L ∧ FrameEnd U o U' L ({ frames := 9, cells := 3, slots := 8, locals := 125 } : Room).cells ({ frames := 9, cells := 3, slots := 8, locals := 125 } : Room).slots) := by
  refine MetFree.of_bodySF (plainFor_of_name pn_15) hisR ?_
  intro p e s m args below meth c s₁ Bd hml0 hP hK
  obtain ⟨rfl, hZ, hh⟩ := hP
  have hx := Bd.exec
  have hby := Bd.bytes
  have hml : c.maxLocals = 4 := hml0
  have hown : s.vm.findClass "com/example/brokerwright/brokerwright/kafka/UserLookup" = some m.cls := findClass_of_methodNamed Bd.named
  have hnm := (name_of_methodNamed Bd.named Bd.method).1
  have X0 : Stand p l e ({ frames := 9, cells := 3, slots := 8, locals := 125 } : Room) s m #[(.ref u), (.ref a), (.int p2), (.ref ro)] below meth c s₁ [] 0 0 := Stand.of_body Bd
  have e0 : s₁.heap = h0 := by rw [← hh, Bd.state]; rfl
  have N0 := Fr.nil n0
  refine own_start (ef_rmUI_0 m u a p2 ro) ?_
  intro F hF
  show own_Gl p.tables e below F (s₁.setTop (mkF m 0 #[.val (.ref u), .val (.ref a), .val (.int p2), .val (.ref ro)] []))
  refine own_go (fun _ k => XS.aloadN X0.here hx rfl (hb hby d17_0) rfl rfl k) ?_
  show own_Gl p.tables e below F (s₁.setTop (mkF m 1 #[.val (.ref u), .val (.ref a), .val (.int p2), .val (.ref ro)] [(.ref u)]))
  obtain ⟨_, _, ⟨T1, L1, k1, n1⟩, -, X1, ⟨Lc1, hQ1, l1, y1, z1⟩, st1⟩ := X0.specialBack hx (y := (⟨"java/lang/Record", "<init>", "()V"⟩ : MethodName)) rfl hown (mvT hZ (hw _ (List.mem_of_getElem? (i := 91) rfl))) (mvT hZ (hw _ (List.mem_of_getElem? (i := 92) rfl))) (mvT hZ (hw _ (List.mem_of_getElem? (i := 95) rfl))) (by decide) (backOf (W := 0) (rm18 l Z a0 hw [] u  h0 n0 Z0 ) hZ (hw _ (List.mem_of_getElem? (i := 95) rfl)) (hw _ (List.mem_of_getElem? (i := 94) rfl)) (by decide) (by decide)) (g := (mkF m 1 #[.val (.ref u), .val (.ref a), .val (.int p2), .val (.ref ro)] [(.ref u)])) rfl (by rw [hml]; rfl) (Steps.refl _) (a := u) (argsL := []) (rest := []) (lenOf pd_1 rfl) rfl (by show 2 * 0 + _ ≤ _; exact Nat.le_of_eq rfl) (hb hby d17_1) (fun _ _ => ⟨rfl, e0, (by first | decide | exact Nat.le_of_ble_eq_true rfl), (by first | decide | exact Nat.le_of_ble_eq_true rfl)⟩)
  dsimp only [Pt.U, Pt.locs, Pt.cells, Pt.slots] at X1 l1 y1 z1 st1 hQ1
  have X1 := own_sn X1 (k' := 0) (n' := 0) y1 z1
  obtain ⟨rfl, N1, e1⟩ := hQ1
  have NF1 := own_fr l1 N0 N1
  refine own_go (fun _ k => st1.trans k) ?_
  show own_Gl p.tables e below F (T1.setTop (mkF m 4 #[.val (.ref u), .val (.ref a), .val (.int p2), .val (.ref ro)] []))
  refine own_go (fun _ k => XS.aloadN X1.here hx rfl (hb hby d17_4) rfl rfl k) ?_
  show own_Gl p.tables e below F (T1.setTop (mkF m 5 #[.val (.ref u), .val (.ref a), .val (.int p2), .val (.ref ro)] [(.ref a)]))
  obtain ⟨_, _, ⟨T2, L2, k2, n2⟩, -, X2, ⟨Lc2, hQ2, l2, y2, z2⟩, st2⟩ := Jvm.LawKit.callS X1 hx (y := (⟨"java/util/List", "copyOf", "(Ljava/util/Collection;)Ljava/util/List;"⟩ : MethodName)) hown (mvT hZ (hw _ (List.mem_of_getElem? (i := 97) rfl))) (mvT hZ (hw _ (List.mem_of_getElem? (i := 98) rfl))) (mvT hZ (hw _ (List.mem_of_getElem? (i := 99) rfl))) (mvT hZ (hw _ (List.mem_of_getElem? (i := 100) rfl))) (by decide) (backOf (W := 0) (rmCO_0 l Z a0 hw [] a b el h0 n0 Z0 E_a FD FS OO SL) hZ (hw _ (List.mem_of_getElem? (i := 100) rfl)) (hw _ (List.mem_of_getElem? (i := 99) rfl)) (by decide) (by decide)) (g := (mkF m 5 #[.val (.ref u), .val (.ref a), .val (.int p2), .val (.ref ro)] [(.ref a)])) rfl (by rw [hml]; rfl) (argsL := [(.ref a)]) (rest := []) (lenOf pd_18 rfl) rfl (by show 2 * 0 + _ ≤ _; exact Nat.le_of_eq rfl) (hb hby d17_5) (fun _ _ => ⟨rfl, e1, (by first | decide | exact Nat.le_of_ble_eq_true rfl), (by first | decide | exact Nat.le_of_ble_eq_true rfl)⟩)
  dsimp only [Pt.U, Pt.locs, Pt.cells, Pt.slots] at X2 l2 y2 z2 st2 hQ2
  have X2 := own_sn X2 (k' := 3) (n' := 8) y2 z2
  obtain ⟨rfl, N2, K2⟩ := hQ2
  have NF2 := own_fr l2 NF1 N2
  have f2_1 := E_u.keep K2
  have f2_2 := F_mechanisms.keep K2 nin0
  have f2_3 := F_holdsBindings.keep K2 nin0
  have f2_4 := F_refusal.keep K2 nin0
  have Z2 : n0 ≤ T2.heap.size := Nat.le_trans Z0 K2.1
  have KK2 := Keep.trans (Keep.refl h0 [u]) K2 (fun _ q => nomatch q)
  refine own_go st2 ?_
  show own_Gl p.tables e below F (T2.setTop (mkF m 8 #[.val (.ref u), .val (.ref a), .val (.int p2), .val (.ref ro)] [(.ref el)]))
  refine own_go (fun _ k => XS.astoreN X2.here hx rfl (hb hby d17_8) rfl rfl (l' := #[.val (.ref u), .val (.ref el), .val (.int p2), .val (.ref ro)]) rfl k) ?_
  show own_Gl p.tables e below F (T2.setTop (mkF m 9 #[.val (.ref u), .val (.ref el), .val (.int p2), .val (.ref ro)] []))
  refine own_go (fun _ k => XS.aloadN X2.here hx rfl (hb hby d17_9) rfl rfl k) ?_
  show own_Gl p.tables e below F (T2.setTop (mkF m 10 #[.val (.ref u), .val (.ref el), .val (.int p2), .val (.ref ro)] [(.ref u)]))
  refine own_go (fun _ k => XS.aloadN X2.here hx rfl (hb hby d17_10) rfl rfl k) ?_
  show own_Gl p.tables e below F (T2.setTop (mkF m 11 #[.val (.ref u), .val (.ref el), .val (.int p2), .val (.ref ro)] [(.ref el), (.ref u)]))
  obtain ⟨T3, h3, X3, e3, W3, st3⟩ := putF X2 hx hZ hown (host := "") (Or.inl (hw _ (List.mem_of_getElem? (i := 126) rfl))) Via.refl rfl f2_2 f2_1 (Or.inr ⟨(hw _ (List.mem_of_getElem? (i := 127) rfl)), rfl, hnm⟩) (hw _ (List.mem_of_getElem? (i := 86) rfl)) (ty := (.object "java/util/List")) (by decide) rfl rfl (g := (mkF m 11 #[.val (.ref u), .val (.ref el), .val (.int p2), .val (.ref ro)] [(.ref el), (.ref u)])) rfl rfl (hb hby d17_11)
  have Fw3 := f2_2.same W3
  have f3_1 := f2_1.wr W3
  have f3_3 := f2_3.other W3 (Or.inr (slot_ne (Or.inr (hw _ (List.mem_of_getElem? (i := 129) rfl))) (Or.inr (hw _ (List.mem_of_getElem? (i := 127) rfl))) (by decide) (t := .boolean) (t' := (.object "java/util/List")) (by decide) (by decide)))
  have f3_4 := f2_4.other W3 (Or.inr (slot_ne (Or.inr (hw _ (List.mem_of_getElem? (i := 131) rfl))) (Or.inr (hw _ (List.mem_of_getElem? (i := 127) rfl))) (by decide) (t := (.object "java/util/Optional")) (t' := (.object "java/util/List")) (by decide) (by decide)))
  have Z3 : n0 ≤ h3.size := by rw [W3.size]; exact Z2
  have K3 := Keep.wr KK2 W3 (Or.inl (by simp))
  have N3 := Fr.snoc X3 NF2 g_u
  refine own_go st3 ?_
  show own_Gl p.tables e below F (T3.setTop (mkF m 14 #[.val (.ref u), .val (.ref el), .val (.int p2), .val (.ref ro)] []))
  refine own_go (fun _ k => XS.aloadN X3.here hx rfl (hb hby d17_14) rfl rfl k) ?_
  show own_Gl p.tables e below F (T3.setTop (mkF m 15 #[.val (.ref u), .val (.ref el), .val (.int p2), .val (.ref ro)] [(.ref u)]))
  refine own_go (fun _ k => XS.iloadN X3.here hx rfl (hb hby d17_15) rfl k) ?_
  show own_Gl p.tables e below F (T3.setTop (mkF m 16 #[.val (.ref u), .val (.ref el), .val (.int p2), .val (.ref ro)] [(.int p2), (.ref u)]))
  obtain ⟨T4, h4, X4, e4, W4, st4⟩ := putFN X3 hx hZ hown (hw _ (List.mem_of_getElem? (i := 128) rfl)) Via.refl e3 f3_3 f3_1 (Or.inr ⟨(hw _ (List.mem_of_getElem? (i := 129) rfl)), rfl, hnm⟩) (hw _ (List.mem_of_getElem? (i := 86) rfl)) (ty := .boolean) (v' := (.int (nar .boolean p2))) (by decide) rfl (fits_nar_bool _) (g := (mkF m 16 #[.val (.ref u), .val (.ref el), .val (.int p2), .val (.ref ro)] [(.int p2), (.ref u)])) rfl rfl (hb hby d17_16)
  have Fw4 := f3_3.same W4
  have f4_1 := f3_1.wr W4
  have f4_2 := Fw3.other W4 (Or.inr (slot_ne (Or.inr (hw _ (List.mem_of_getElem? (i := 127) rfl))) (Or.inr (hw _ (List.mem_of_getElem? (i := 129) rfl))) (by decide) (t := (.object "java/util/List")) (t' := .boolean) (by decide) (by decide)))
  have f4_4 := f3_4.other W4 (Or.inr (slot_ne (Or.inr (hw _ (List.mem_of_getElem? (i := 131) rfl))) (Or.inr (hw _ (List.mem_of_getElem? (i := 129) rfl))) (by decide) (t := (.object "java/util/Optional")) (t' := .boolean) (by decide) (by decide)))
  have Z4 : n0 ≤ h4.size := by rw [W4.size]; exact Z3
  have K4 := Keep.wr K3 W4 (Or.inl (by simp))
  have N4 := Fr.snoc X4 N3 g_u
  refine own_go st4 ?_
  show own_Gl p.tables e below F (T4.setTop (mkF m 19 #[.val (.ref u), .val (.ref el), .val (.int p2), .val (.ref ro)] []))
  refine own_go (fun _ k => XS.aloadN X4.here hx rfl (hb hby d17_19) rfl rfl k) ?_
  show own_Gl p.tables e below F (T4.setTop (mkF m 20 #[.val (.ref u), .val (.ref el), .val (.int p2), .val (.ref ro)] [(.ref u)]))
  refine own_go (fun _ k => XS.aloadN X4.here hx rfl (hb hby d17_20) rfl rfl k) ?_
  show own_Gl p.tables e below F (T4.setTop (mkF m 21 #[.val (.ref u), .val (.ref el), .val (.int p2), .val (.ref ro)] [(.ref ro), (.ref u)]))
  obtain ⟨T5, h5, X5, e5, W5, st5⟩ := putF X4 hx hZ hown (host := "") (Or.inl (hw _ (List.mem_of_getElem? (i := 130) rfl))) Via.refl e4 f4_4 f4_1 (Or.inr ⟨(hw _ (List.mem_of_getElem? (i := 131) rfl)), rfl, hnm⟩) (hw _ (List.mem_of_getElem? (i := 86) rfl)) (ty := (.object "java/util/Optional")) (by decide) rfl rfl (g := (mkF m 21 #[.val (.ref u), .val (.ref el), .val (.int p2), .val (.ref ro)] [(.ref ro), (.ref u)])) rfl rfl (hb hby d17_21)
  have Fw5 := f4_4.same W5
  have f5_1 := f4_1.wr W5
  have f5_2 := f4_2.other W5 (Or.inr (slot_ne (Or.inr (hw _ (List.mem_of_getElem? (i := 127) rfl))) (Or.inr (hw _ (List.mem_of_getElem? (i := 131) rfl))) (by decide) (t := (.object "java/util/List")) (t' := (.object "java/util/Optional")) (by decide) (by decide)))
  have f5_3 := Fw4.other W5 (Or.inr (slot_ne (Or.inr (hw _ (List.mem_of_getElem? (i := 129) rfl))) (Or.inr (hw _ (List.mem_of_getElem? (i := 131) rfl))) (by decide) (t := .boolean) (t' := (.object "java/util/Optional")) (by decide) (by decide)))
  have Z5 : n0 ≤ h5.size := by rw [W5.size]; exact Z4
  have K5 := Keep.wr K4 W5 (Or.inl (by simp))
  have N5 := Fr.snoc X5 N4 g_u
  refine own_go st5 ?_
  show own_Gl p.tables e below F (T5.setTop (mkF m 24 #[.val (.ref u), .val (.ref el), .val (.int p2), .val (.ref ro)] []))
  obtain ⟨fs, hr, hrun, hended, hW, hsame⟩ := X5.leave (v := none) (fun _ => rfl)
  subst hF
  refine own_fin ?_ ⟨hrun, hended, _, _, rfl, ?_, ⟨_, rfl⟩, hW, hsame.mono (by first | decide | exact Nat.le_of_ble_eq_true rfl) (by first | decide | exact Nat.le_of_ble_eq_true rfl)⟩
  · exact X5.returnOut hx Bd.returns (hb hby d17_24) hr
  · show Q_rmUI_0 Z _ _ _ _ _ _ h0 n0 _ T5.heap _
    rw [e5]
    exact ⟨rfl, N5, K5, f5_1, f5_3, f5_2⟩
theorem ef_rmUI_1 (m : MethodId) (x0 : Addr) (x1 : Addr) (x2 : Int32) (x3 : Addr) : entryFrame m #[(.ref x0), (.ref x1), (.int x2), (.ref x3)] 4 = mkF m 0 #[.val (.ref x0), .val (.ref x1), .val (.int x2), .val (.ref x3)] [] := by first | (simp [entryFrame, mkF, argsToLocals, Value.category]; done) | rfl
def Q_rmUI_1 (Z : State) (u a : Addr) (p2 : Int32) (ro b : Addr) (kb : ClassId) (mi x0 : Addr) (em : Addr) (h0 : Heap) (n0 : Nat) (v : Option Value) (h : Heap) (L : List Loc) : Prop := v = none ∧ Fr n0 L ∧ Keep h0 h [u] ∧ Exa Z h u "com/example/brokerwright/brokerwright/kafka/UserLookup" ∧ Fld Z h u "com/example/brokerwright/brokerwright/kafka/UserLookup" "holdsBindings" "Z" (.int (nar .boolean p2)) ∧ ∃ y : Addr, Fld Z h u "com/example/brokerwright/brokerwright/kafka/UserLookup" "mechanisms" "Ljava/util/List;" (.ref y) ∧ Exa Z h y "java/util/ImmutableCollections$List12"
set_option maxRecDepth 65536 in
set_option maxHeartbeats 40000000 in
theorem rmUI_1 (l : Launch) (Z : State) (a0 : Array Value) (hw : ∀ d ∈ tables_1, d.before a0 Z = true) (ws : List Jvm.Cond) (u a : Addr) (p2 : Int32) (ro b : Addr) (kb : ClassId) (mi x0 : Addr) (em : Addr) (h0 : Heap) (n0 : Nat) (Z0 : n0 ≤ h0.size) (E_u : Exa Z h0 u "com/example/brokerwright/brokerwright/kafka/UserLookup") (F_mechanisms : Fld Z h0 u "com/example/brokerwright/brokerwright/kafka/UserLookup" "mechanisms" "Ljava/util/List;" .null) (F_holdsBindings : Fld Z h0 u "com/example/brokerwright/brokerwright/kafka/UserLookup" "holdsBindings" "Z" (.int 0)) (F_refusal : Fld Z h0 u "com/example/brokerwright/brokerwright/kafka/UserLookup" "refusal" "Ljava/util/Optional;" .null) (g_u : n0 ≤ u) (E_a : Exa Z h0 a "java/util/ArrayList") (FD : Fld Z h0 a "java/util/ArrayList" "elementData" "[Ljava/lang/Object;" (.ref b)) (FS : Fld Z h0 a "java/util/ArrayList" "size" "I" (.int 1)) (VB : Arv Z h0 b kb (.object "java/lang/Object") 10 [(.ref x0), .null, .null, .null, .null, .null, .null, .null, .null, .null] .null) (EB : Exa Z h0 b "[Ljava/lang/Object;") (MI : Mir Z "[Ljava/lang/Object;" mi) (EX0 : Exa Z h0 x0 "java/lang/String") (OO : Old Z n0 h0) (SM : Sta Z Z.heap "java/util/ImmutableCollections" "EMPTY" "Ljava/lang/Object;" (.ref em)) :
    MetFree l (⟨"com/example/brokerwright/brokerwright/kafka/UserLookup", "<init>", "(Ljava/util/List;ZLjava/util/Optional;)V"⟩ : MethodName) (head1 (Jvm.Cond.code (⟨"com/example/brokerwright/brokerwright/kafka/UserLookup", "<init>", "(Ljava/util/List;ZLjava/util/Optional;)V"⟩ : MethodName) prog_22_method_1_code 4 none :: ws) ({ frames := 9, cells := 3, slots := 8, locals := 125 } : Room)) (fun ag U => ag = #[(.ref u), (.ref a), (.int p2), (.ref ro)] ∧ Z.Warmed39 U.vm ∧ U.heap = h0) (fun _ _ _ _ _ => True) (fun _ U o U' => ∃ v L, o = .returned v ∧ Q_rmUI_1 Z u a p2 ro b kb mi x0 em h0 n0 v U'.heap L ∧ FrameEnd U o U' L ({ frames := 9, cells := 3, slots := 8, locals := 125 } : Room).cells ({ frames := 9, cells := 3, slots := 8, locals := 125 } : Room).slots) := by
  refine MetFree.of_bodySF (plainFor_of_name pn_15) hisR ?_
  intro p e s m args below meth c s₁ Bd hml0 hP hK
  obtain ⟨rfl, hZ, hh⟩ := hP
  have hx := Bd.exec
  have hby := Bd.bytes
  have hml : c.maxLocals = 4 := hml0
  have hown : s.vm.findClass "com/example/brokerwright/brokerwright/kafka/UserLookup" = some m.cls := findClass_of_methodNamed Bd.named
  have hnm := (name_of_methodNamed Bd.named Bd.method).1
  have X0 : Stand p l e ({ frames := 9, cells := 3, slots := 8, locals := 125 } : Room) s m #[(.ref u), (.ref a), (.int p2), (.ref ro)] below meth c s₁ [] 0 0 := Stand.of_body Bd
  have e0 : s₁.heap = h0 := by rw [← hh, Bd.state]; rfl
  have N0 := Fr.nil n0
  refine own_start (ef_rmUI_1 m u a p2 ro) ?_
  intro F hF
  show own_Gl p.tables e below F (s₁.setTop (mkF m 0 #[.val (.ref u), .val (.ref a), .val (.int p2), .val (.ref ro)] []))
  refine own_go (fun _ k => XS.aloadN X0.here hx rfl (hb hby d17_0) rfl rfl k) ?_
  show own_Gl p.tables e below F (s₁.setTop (mkF m 1 #[.val (.ref u), .val (.ref a), .val (.int p2), .val (.ref ro)] [(.ref u)]))
  obtain ⟨_, _, ⟨T1, L1, k1, n1⟩, -, X1, ⟨Lc1, hQ1, l1, y1, z1⟩, st1⟩ := X0.specialBack hx (y := (⟨"java/lang/Record", "<init>", "()V"⟩ : MethodName)) rfl hown (mvT hZ (hw _ (List.mem_of_getElem? (i := 91) rfl))) (mvT hZ (hw _ (List.mem_of_getElem? (i := 92) rfl))) (mvT hZ (hw _ (List.mem_of_getElem? (i := 95) rfl))) (by decide) (backOf (W := 0) (rm18 l Z a0 hw [] u  h0 n0 Z0 ) hZ (hw _ (List.mem_of_getElem? (i := 95) rfl)) (hw _ (List.mem_of_getElem? (i := 94) rfl)) (by decide) (by decide)) (g := (mkF m 1 #[.val (.ref u), .val (.ref a), .val (.int p2), .val (.ref ro)] [(.ref u)])) rfl (by rw [hml]; rfl) (Steps.refl _) (a := u) (argsL := []) (rest := []) (lenOf pd_1 rfl) rfl (by show 2 * 0 + _ ≤ _; exact Nat.le_of_eq rfl) (hb hby d17_1) (fun _ _ => ⟨rfl, e0, (by first | decide | exact Nat.le_of_ble_eq_true rfl), (by first | decide | exact Nat.le_of_ble_eq_true rfl)⟩)
  dsimp only [Pt.U, Pt.locs, Pt.cells, Pt.slots] at X1 l1 y1 z1 st1 hQ1
  have X1 := own_sn X1 (k' := 0) (n' := 0) y1 z1
  obtain ⟨rfl, N1, e1⟩ := hQ1
  have NF1 := own_fr l1 N0 N1
  refine own_go (fun _ k => st1.trans k) ?_
  show own_Gl p.tables e below F (T1.setTop (mkF m 4 #[.val (.ref u), .val (.ref a), .val (.int p2), .val (.ref ro)] []))
  refine own_go (fun _ k => XS.aloadN X1.here hx rfl (hb hby d17_4) rfl rfl k) ?_
  show own_Gl p.tables e below F (T1.setTop (mkF m 5 #[.val (.ref u), .val (.ref a), .val (.int p2), .val (.ref ro)] [(.ref a)]))
  obtain ⟨_, _, ⟨T2, L2, k2, n2⟩, -, X2, ⟨Lc2, hQ2, l2, y2, z2⟩, st2⟩ := Jvm.LawKit.callS X1 hx (y := (⟨"java/util/List", "copyOf", "(Ljava/util/Collection;)Ljava/util/List;"⟩ : MethodName)) hown (mvT hZ (hw _ (List.mem_of_getElem? (i := 97) rfl))) (mvT hZ (hw _ (List.mem_of_getElem? (i := 98) rfl))) (mvT hZ (hw _ (List.mem_of_getElem? (i := 99) rfl))) (mvT hZ (hw _ (List.mem_of_getElem? (i := 100) rfl))) (by decide) (backOf (W := 0) (rmCO_1 l Z a0 hw [] a b kb mi x0 em h0 n0 Z0 E_a FD FS VB EB MI EX0 OO SM) hZ (hw _ (List.mem_of_getElem? (i := 100) rfl)) (hw _ (List.mem_of_getElem? (i := 99) rfl)) (by decide) (by decide)) (g := (mkF m 5 #[.val (.ref u), .val (.ref a), .val (.int p2), .val (.ref ro)] [(.ref a)])) rfl (by rw [hml]; rfl) (argsL := [(.ref a)]) (rest := []) (lenOf pd_18 rfl) rfl (by show 2 * 0 + _ ≤ _; exact Nat.le_of_eq rfl) (hb hby d17_5) (fun _ _ => ⟨rfl, e1, (by first | decide | exact Nat.le_of_ble_eq_true rfl), (by first | decide | exact Nat.le_of_ble_eq_true rfl)⟩)
  dsimp only [Pt.U, Pt.locs, Pt.cells, Pt.slots] at X2 l2 y2 z2 st2 hQ2
  have X2 := own_sn X2 (k' := 3) (n' := 8) y2 z2
  obtain ⟨y2, rfl, N2, K2, EY2⟩ := hQ2
  have NF2 := own_fr l2 NF1 N2
  have f2_1 := E_u.keep K2
  have f2_2 := F_mechanisms.keep K2 nin0
  have f2_3 := F_holdsBindings.keep K2 nin0
  have f2_4 := F_refusal.keep K2 nin0
  have Z2 : n0 ≤ T2.heap.size := Nat.le_trans Z0 K2.1
  have KK2 := Keep.trans (Keep.refl h0 [u]) K2 (fun _ q => nomatch q)
  refine own_go st2 ?_
  show own_Gl p.tables e below F (T2.setTop (mkF m 8 #[.val (.ref u), .val (.ref a), .val (.int p2), .val (.ref ro)] [(.ref y2)]))
  have ne_u_y : u ≠ y2 := ne_exa f2_1 EY2 (by decide)
  refine own_go (fun _ k => XS.astoreN X2.here hx rfl (hb hby d17_8) rfl rfl (l' := #[.val (.ref u), .val (.ref y2), .val (.int p2), .val (.ref ro)]) rfl k) ?_
  show own_Gl p.tables e below F (T2.setTop (mkF m 9 #[.val (.ref u), .val (.ref y2), .val (.int p2), .val (.ref ro)] []))
  refine own_go (fun _ k => XS.aloadN X2.here hx rfl (hb hby d17_9) rfl rfl k) ?_
  show own_Gl p.tables e below F (T2.setTop (mkF m 10 #[.val (.ref u), .val (.ref y2), .val (.int p2), .val (.ref ro)] [(.ref u)]))
  refine own_go (fun _ k => XS.aloadN X2.here hx rfl (hb hby d17_10) rfl rfl k) ?_
  show own_Gl p.tables e below F (T2.setTop (mkF m 11 #[.val (.ref u), .val (.ref y2), .val (.int p2), .val (.ref ro)] [(.ref y2), (.ref u)]))
  obtain ⟨T3, h3, X3, e3, W3, st3⟩ := putF X2 hx hZ hown (host := "") (Or.inl (hw _ (List.mem_of_getElem? (i := 126) rfl))) Via.refl rfl f2_2 f2_1 (Or.inr ⟨(hw _ (List.mem_of_getElem? (i := 127) rfl)), rfl, hnm⟩) (hw _ (List.mem_of_getElem? (i := 86) rfl)) (ty := (.object "java/util/List")) (by decide) rfl rfl (g := (mkF m 11 #[.val (.ref u), .val (.ref y2), .val (.int p2), .val (.ref ro)] [(.ref y2), (.ref u)])) rfl rfl (hb hby d17_11)
  have Fw3 := f2_2.same W3
  have f3_1 := f2_1.wr W3
  have f3_3 := f2_3.other W3 (Or.inr (slot_ne (Or.inr (hw _ (List.mem_of_getElem? (i := 129) rfl))) (Or.inr (hw _ (List.mem_of_getElem? (i := 127) rfl))) (by decide) (t := .boolean) (t' := (.object "java/util/List")) (by decide) (by decide)))
  have f3_4 := f2_4.other W3 (Or.inr (slot_ne (Or.inr (hw _ (List.mem_of_getElem? (i := 131) rfl))) (Or.inr (hw _ (List.mem_of_getElem? (i := 127) rfl))) (by decide) (t := (.object "java/util/Optional")) (t' := (.object "java/util/List")) (by decide) (by decide)))
  have f3_5 := EY2.wr W3
  have Z3 : n0 ≤ h3.size := by rw [W3.size]; exact Z2
  have K3 := Keep.wr KK2 W3 (Or.inl (by simp))
  have N3 := Fr.snoc X3 NF2 g_u
  refine own_go st3 ?_
  show own_Gl p.tables e below F (T3.setTop (mkF m 14 #[.val (.ref u), .val (.ref y2), .val (.int p2), .val (.ref ro)] []))
  refine own_go (fun _ k => XS.aloadN X3.here hx rfl (hb hby d17_14) rfl rfl k) ?_
  show own_Gl p.tables e below F (T3.setTop (mkF m 15 #[.val (.ref u), .val (.ref y2), .val (.int p2), .val (.ref ro)] [(.ref u)]))
  refine own_go (fun _ k => XS.iloadN X3.here hx rfl (hb hby d17_15) rfl k) ?_
  show own_Gl p.tables e below F (T3.setTop (mkF m 16 #[.val (.ref u), .val (.ref y2), .val (.int p2), .val (.ref ro)] [(.int p2), (.ref u)]))
  obtain ⟨T4, h4, X4, e4, W4, st4⟩ := putFN X3 hx hZ hown (hw _ (List.mem_of_getElem? (i := 128) rfl)) Via.refl e3 f3_3 f3_1 (Or.inr ⟨(hw _ (List.mem_of_getElem? (i := 129) rfl)), rfl, hnm⟩) (hw _ (List.mem_of_getElem? (i := 86) rfl)) (ty := .boolean) (v' := (.int (nar .boolean p2))) (by decide) rfl (fits_nar_bool _) (g := (mkF m 16 #[.val (.ref u), .val (.ref y2), .val (.int p2), .val (.ref ro)] [(.int p2), (.ref u)])) rfl rfl (hb hby d17_16)
  have Fw4 := f3_3.same W4
  have f4_1 := f3_1.wr W4
  have f4_2 := Fw3.other W4 (Or.inr (slot_ne (Or.inr (hw _ (List.mem_of_getElem? (i := 127) rfl))) (Or.inr (hw _ (List.mem_of_getElem? (i := 129) rfl))) (by decide) (t := (.object "java/util/List")) (t' := .boolean) (by decide) (by decide)))
  have f4_4 := f3_4.other W4 (Or.inr (slot_ne (Or.inr (hw _ (List.mem_of_getElem? (i := 131) rfl))) (Or.inr (hw _ (List.mem_of_getElem? (i := 129) rfl))) (by decide) (t := (.object "java/util/Optional")) (t' := .boolean) (by decide) (by decide)))
  have f4_5 := f3_5.wr W4
  have Z4 : n0 ≤ h4.size := by rw [W4.size]; exact Z3
  have K4 := Keep.wr K3 W4 (Or.inl (by simp))
  have N4 := Fr.snoc X4 N3 g_u
  refine own_go st4 ?_
  show own_Gl p.tables e below F (T4.setTop (mkF m 19 #[.val (.ref u), .val (.ref y2), .val (.int p2), .val (.ref ro)] []))
  refine own_go (fun _ k => XS.aloadN X4.here hx rfl (hb hby d17_19) rfl rfl k) ?_
  show own_Gl p.tables e below F (T4.setTop (mkF m 20 #[.val (.ref u), .val (.ref y2), .val (.int p2), .val (.ref ro)] [(.ref u)]))
  refine own_go (fun _ k => XS.aloadN X4.here hx rfl (hb hby d17_20) rfl rfl k) ?_
  show own_Gl p.tables e below F (T4.setTop (mkF m 21 #[.val (.ref u), .val (.ref y2), .val (.int p2), .val (.ref ro)] [(.ref ro), (.ref u)]))
  obtain ⟨T5, h5, X5, e5, W5, st5⟩ := putF X4 hx hZ hown (host := "") (Or.inl (hw _ (List.mem_of_getElem? (i := 130) rfl))) Via.refl e4 f4_4 f4_1 (Or.inr ⟨(hw _ (List.mem_of_getElem? (i := 131) rfl)), rfl, hnm⟩) (hw _ (List.mem_of_getElem? (i := 86) rfl)) (ty := (.object "java/util/Optional")) (by decide) rfl rfl (g := (mkF m 21 #[.val (.ref u), .val (.ref y2), .val (.int p2), .val (.ref ro)] [(.ref ro), (.ref u)])) rfl rfl (hb hby d17_21)
  have Fw5 := f4_4.same W5
  have f5_1 := f4_1.wr W5
  have f5_2 := f4_2.other W5 (Or.inr (slot_ne (Or.inr (hw _ (List.mem_of_getElem? (i := 127) rfl))) (Or.inr (hw _ (List.mem_of_getElem? (i := 131) rfl))) (by decide) (t := (.object "java/util/List")) (t' := (.object "java/util/Optional")) (by decide) (by decide)))
  have f5_3 := Fw4.other W5 (Or.inr (slot_ne (Or.inr (hw _ (List.mem_of_getElem? (i := 129) rfl))) (Or.inr (hw _ (List.mem_of_getElem? (i := 131) rfl))) (by decide) (t := .boolean) (t' := (.object "java/util/Optional")) (by decide) (by decide)))
  have f5_5 := f4_5.wr W5
  have Z5 : n0 ≤ h5.size := by rw [W5.size]; exact Z4
  have K5 := Keep.wr K4 W5 (Or.inl (by simp))
  have N5 := Fr.snoc X5 N4 g_u
  refine own_go st5 ?_
  show own_Gl p.tables e below F (T5.setTop (mkF m 24 #[.val (.ref u), .val (.ref y2), .val (.int p2), .val (.ref ro)] []))
  obtain ⟨fs, hr, hrun, hended, hW, hsame⟩ := X5.leave (v := none) (fun _ => rfl)
  subst hF
  refine own_fin ?_ ⟨hrun, hended, _, _, rfl, ?_, ⟨_, rfl⟩, hW, hsame.mono (by first | decide | exact Nat.le_of_ble_eq_true rfl) (by first | decide | exact Nat.le_of_ble_eq_true rfl)⟩
  · exact X5.returnOut hx Bd.returns (hb hby d17_24) hr
  · show Q_rmUI_1 Z _ _ _ _ _ _ _ _ _ h0 n0 _ T5.heap _
    rw [e5]
    exact ⟨rfl, N5, K5, f5_1, f5_3, y2, f5_2, f5_5⟩
theorem ef_rmUI_2 (m : MethodId) (x0 : Addr) (x1 : Addr) (x2 : Int32) (x3 : Addr) : entryFrame m #[(.ref x0), (.ref x1), (.int x2), (.ref x3)] 4 = mkF m 0 #[.val (.ref x0), .val (.ref x1), .val (.int x2), .val (.ref x3)] [] := by first | (simp [entryFrame, mkF, argsToLocals, Value.category]; done) | rfl
def Q_rmUI_2 (Z : State) (u a : Addr) (p2 : Int32) (ro b : Addr) (kb : ClassId) (mi x0 x1 : Addr) (h0 : Heap) (n0 : Nat) (v : Option Value) (h : Heap) (L : List Loc) : Prop := v = none ∧ Fr n0 L ∧ Keep h0 h [u] ∧ Exa Z h u "com/example/brokerwright/brokerwright/kafka/UserLookup" ∧ Fld Z h u "com/example/brokerwright/brokerwright/kafka/UserLookup" "holdsBindings" "Z" (.int (nar .boolean p2)) ∧ ∃ y : Addr, Fld Z h u "com/example/brokerwright/brokerwright/kafka/UserLookup" "mechanisms" "Ljava/util/List;" (.ref y) ∧ Exa Z h y "java/util/ImmutableCollections$List12"
set_option maxRecDepth 65536 in
set_option maxHeartbeats 40000000 in
theorem rmUI_2 (l : Launch) (Z : State) (a0 : Array Value) (hw : ∀ d ∈ tables_1, d.before a0 Z = true) (ws : List Jvm.Cond) (u a : Addr) (p2 : Int32) (ro b : Addr) (kb : ClassId) (mi x0 x1 : Addr) (h0 : Heap) (n0 : Nat) (Z0 : n0 ≤ h0.size) (E_u : Exa Z h0 u "com/example/brokerwright/brokerwright/kafka/UserLookup") (F_mechanisms : Fld Z h0 u "com/example/brokerwright/brokerwright/kafka/UserLookup" "mechanisms" "Ljava/util/List;" .null) (F_holdsBindings : Fld Z h0 u "com/example/brokerwright/brokerwright/kafka/UserLookup" "holdsBindings" "Z" (.int 0)) (F_refusal : Fld Z h0 u "com/example/brokerwright/brokerwright/kafka/UserLookup" "refusal" "Ljava/util/Optional;" .null) (g_u : n0 ≤ u) (E_a : Exa Z h0 a "java/util/ArrayList") (FD : Fld Z h0 a "java/util/ArrayList" "elementData" "[Ljava/lang/Object;" (.ref b)) (FS : Fld Z h0 a "java/util/ArrayList" "size" "I" (.int 2)) (VB : Arv Z h0 b kb (.object "java/lang/Object") 10 [(.ref x0), (.ref x1), .null, .null, .null, .null, .null, .null, .null, .null] .null) (EB : Exa Z h0 b "[Ljava/lang/Object;") (MI : Mir Z "[Ljava/lang/Object;" mi) (EX0 : Exa Z h0 x0 "java/lang/String") (EX1 : Exa Z h0 x1 "java/lang/String") :
    MetFree l (⟨"com/example/brokerwright/brokerwright/kafka/UserLookup", "<init>", "(Ljava/util/List;ZLjava/util/Optional;)V"⟩ : MethodName) (head1 (Jvm.Cond.code (⟨"com/example/brokerwright/brokerwright/kafka/UserLookup", "<init>", "(Ljava/util/List;ZLjava/util/Optional;)V"⟩ : MethodName) prog_22_method_1_code 4 none :: ws) ({ frames := 9, cells := 3, slots := 8, locals := 125 } : Room)) (fun ag U => ag = #[(.ref u), (.ref a), (.int p2), (.ref ro)] ∧ Z.Warmed39 U.vm ∧ U.heap = h0) (fun _ _ _ _ _ => True) (fun _ U o U' => ∃ v L, o = .returned v ∧ Q_rmUI_2 Z u a p2 ro b kb mi x0 x1 h0 n0 v U'.heap L ∧ FrameEnd U o U' L ({ frames := 9, cells := 3, slots := 8, locals := 125 } : Room).cells ({ frames := 9, cells := 3, slots := 8, locals := 125 } : Room).slots) := by
  refine MetFree.of_bodySF (plainFor_of_name pn_15) hisR ?_
  intro p e s m args below meth c s₁ Bd hml0 hP hK
  obtain ⟨rfl, hZ, hh⟩ := hP
  have hx := Bd.exec
  have hby := Bd.bytes
  have hml : c.maxLocals = 4 := hml0
  have hown : s.vm.findClass "com/example/brokerwright/brokerwright/kafka/UserLookup" = some m.cls := findClass_of_methodNamed Bd.named
  have hnm := (name_of_methodNamed Bd.named Bd.method).1
  have X0 : Stand p l e ({ frames := 9, cells := 3, slots := 8, locals := 125 } : Room) s m #[(.ref u), (.ref a), (.int p2), (.ref ro)] below meth c s₁ [] 0 0 := Stand.of_body Bd
  have e0 : s₁.heap = h0 := by rw [← hh, Bd.state]; rfl
  have N0 := Fr.nil n0
  refine own_start (ef_rmUI_2 m u a p2 ro) ?_
  intro F hF
  show own_Gl p.tables e below F (s₁.setTop (mkF m 0 #[.val (.ref u), .val (.ref a), .val (.int p2), .val (.ref ro)] []))
  refine own_go (fun _ k => XS.aloadN X0.here hx rfl (hb hby d17_0) rfl rfl k) ?_
  show own_Gl p.tables e below F (s₁.setTop (mkF m 1 #[.val (.ref u), .val (.ref a), .val (.int p2), .val (.ref ro)] [(.ref u)]))
  obtain ⟨_, _, ⟨T1, L1, k1, n1⟩, -, X1, ⟨Lc1, hQ1, l1, y1, z1⟩, st1⟩ := X0.specialBack hx (y := (⟨"java/lang/Record", "<init>", "()V"⟩ : MethodName)) rfl hown (mvT hZ (hw _ (List.mem_of_getElem? (i := 91) rfl))) (mvT hZ (hw _ (List.mem_of_getElem? (i := 92) rfl))) (mvT hZ (hw _ (List.mem_of_getElem? (i := 95) rfl))) (by decide) (backOf (W := 0) (rm18 l Z a0 hw [] u  h0 n0 Z0 ) hZ (hw _ (List.mem_of_getElem? (i := 95) rfl)) (hw _ (List.mem_of_getElem? (i := 94) rfl)) (by decide) (by decide)) (g := (mkF m 1 #[.val (.ref u), .val (.ref a), .val (.int p2), .val (.ref ro)] [(.ref u)])) rfl (by rw [hml]; rfl) (Steps.refl _) (a := u) (argsL := []) (rest := []) (lenOf pd_1 rfl) rfl (by show 2 * 0 + _ ≤ _; exact Nat.le_of_eq rfl) (hb hby d17_1) (fun _ _ => ⟨rfl, e0, (by first | decide | exact Nat.le_of_ble_eq_true rfl), (by first | decide | exact Nat.le_of_ble_eq_true rfl)⟩)
  dsimp only [Pt.U, Pt.locs, Pt.cells, Pt.slots] at X1 l1 y1 z1 st1 hQ1
  have X1 := own_sn X1 (k' := 0) (n' := 0) y1 z1
  obtain ⟨rfl, N1, e1⟩ := hQ1
  have NF1 := own_fr l1 N0 N1
  refine own_go (fun _ k => st1.trans k) ?_
  show own_Gl p.tables e below F (T1.setTop (mkF m 4 #[.val (.ref u), .val (.ref a), .val (.int p2), .val (.ref ro)] []))
  refine own_go (fun _ k => XS.aloadN X1.here hx rfl (hb hby d17_4) rfl rfl k) ?_
  show own_Gl p.tables e below F (T1.setTop (mkF m 5 #[.val (.ref u), .val (.ref a), .val (.int p2), .val (.ref ro)] [(.ref a)]))
  obtain ⟨_, _, ⟨T2, L2, k2, n2⟩, -, X2, ⟨Lc2, hQ2, l2, y2, z2⟩, st2⟩ := Jvm.LawKit.callS X1 hx (y := (⟨"java/util/List", "copyOf", "(Ljava/util/Collection;)Ljava/util/List;"⟩ : MethodName)) hown (mvT hZ (hw _ (List.mem_of_getElem? (i := 97) rfl))) (mvT hZ (hw _ (List.mem_of_getElem? (i := 98) rfl))) (mvT hZ (hw _ (List.mem_of_getElem? (i := 99) rfl))) (mvT hZ (hw _ (List.mem_of_getElem? (i := 100) rfl))) (by decide) (backOf (W := 0) (rmCO_2 l Z a0 hw [] a b kb mi x0 x1 h0 n0 Z0 E_a FD FS VB EB MI EX0 EX1) hZ (hw _ (List.mem_of_getElem? (i := 100) rfl)) (hw _ (List.mem_of_getElem? (i := 99) rfl)) (by decide) (by decide)) (g := (mkF m 5 #[.val (.ref u), .val (.ref a), .val (.int p2), .val (.ref ro)] [(.ref a)])) rfl (by rw [hml]; rfl) (argsL := [(.ref a)]) (rest := []) (lenOf pd_18 rfl) rfl (by show 2 * 0 + _ ≤ _; exact Nat.le_of_eq rfl) (hb hby d17_5) (fun _ _ => ⟨rfl, e1, (by first | decide | exact Nat.le_of_ble_eq_true rfl), (by first | decide | exact Nat.le_of_ble_eq_true rfl)⟩)
  dsimp only [Pt.U, Pt.locs, Pt.cells, Pt.slots] at X2 l2 y2 z2 st2 hQ2
  have X2 := own_sn X2 (k' := 3) (n' := 8) y2 z2
  obtain ⟨y2, rfl, N2, K2, EY2⟩ := hQ2
  have NF2 := own_fr l2 NF1 N2
  have f2_1 := E_u.keep K2
  have f2_2 := F_mechanisms.keep K2 nin0
  have f2_3 := F_holdsBindings.keep K2 nin0
  have f2_4 := F_refusal.keep K2 nin0
  have Z2 : n0 ≤ T2.heap.size := Nat.le_trans Z0 K2.1
  have KK2 := Keep.trans (Keep.refl h0 [u]) K2 (fun _ q => nomatch q)
  refine own_go st2 ?_
  show own_Gl p.tables e below F (T2.setTop (mkF m 8 #[.val (.ref u), .val (.ref a), .val (.int p2), .val (.ref ro)] [(.ref y2)]))
  have ne_u_y : u ≠ y2 := ne_exa f2_1 EY2 (by decide)
  refine own_go (fun _ k => XS.astoreN X2.here hx rfl (hb hby d17_8) rfl rfl (l' := #[.val (.ref u), .val (.ref y2), .val (.int p2), .val (.ref ro)]) rfl k) ?_
  show own_Gl p.tables e below F (T2.setTop (mkF m 9 #[.val (.ref u), .val (.ref y2), .val (.int p2), .val (.ref ro)] []))
  refine own_go (fun _ k => XS.aloadN X2.here hx rfl (hb hby d17_9) rfl rfl k) ?_
  show own_Gl p.tables e below F (T2.setTop (mkF m 10 #[.val (.ref u), .val (.ref y2), .val (.int p2), .val (.ref ro)] [(.ref u)]))
  refine own_go (fun _ k => XS.aloadN X2.here hx rfl (hb hby d17_10) rfl rfl k) ?_
  show own_Gl p.tables e below F (T2.setTop (mkF m 11 #[.val (.ref u), .val (.ref y2), .val (.int p2), .val (.ref ro)] [(.ref y2), (.ref u)]))
  obtain ⟨T3, h3, X3, e3, W3, st3⟩ := putF X2 hx hZ hown (host := "") (Or.inl (hw _ (List.mem_of_getElem? (i := 126) rfl))) Via.refl rfl f2_2 f2_1 (Or.inr ⟨(hw _ (List.mem_of_getElem? (i := 127) rfl)), rfl, hnm⟩) (hw _ (List.mem_of_getElem? (i := 86) rfl)) (ty := (.object "java/util/List")) (by decide) rfl rfl (g := (mkF m 11 #[.val (.ref u), .val (.ref y2), .val (.int p2), .val (.ref ro)] [(.ref y2), (.ref u)])) rfl rfl (hb hby d17_11)
  have Fw3 := f2_2.same W3
  have f3_1 := f2_1.wr W3
  have f3_3 := f2_3.other W3 (Or.inr (slot_ne (Or.inr (hw _ (List.mem_of_getElem? (i := 129) rfl))) (Or.inr (hw _ (List.mem_of_getElem? (i := 127) rfl))) (by decide) (t := .boolean) (t' := (.object "java/util/List")) (by decide) (by decide)))
  have f3_4 := f2_4.other W3 (Or.inr (slot_ne (Or.inr (hw _ (List.mem_of_getElem? (i := 131) rfl))) (Or.inr (hw _ (List.mem_of_getElem? (i := 127) rfl))) (by decide) (t := (.object "java/util/Optional")) (t' := (.object "java/util/List")) (by decide) (by decide)))
  have f3_5 := EY2.wr W3
  have Z3 : n0 ≤ h3.size := by rw [W3.size]; exact Z2
  have K3 := Keep.wr KK2 W3 (Or.inl (by simp))
  have N3 := Fr.snoc X3 NF2 g_u
  refine own_go st3 ?_
  show own_Gl p.tables e below F (T3.setTop (mkF m 14 #[.val (.ref u), .val (.ref y2), .val (.int p2), .val (.ref ro)] []))
  refine own_go (fun _ k => XS.aloadN X3.here hx rfl (hb hby d17_14) rfl rfl k) ?_
  show own_Gl p.tables e below F (T3.setTop (mkF m 15 #[.val (.ref u), .val (.ref y2), .val (.int p2), .val (.ref ro)] [(.ref u)]))
  refine own_go (fun _ k => XS.iloadN X3.here hx rfl (hb hby d17_15) rfl k) ?_
  show own_Gl p.tables e below F (T3.setTop (mkF m 16 #[.val (.ref u), .val (.ref y2), .val (.int p2), .val (.ref ro)] [(.int p2), (.ref u)]))
  obtain ⟨T4, h4, X4, e4, W4, st4⟩ := putFN X3 hx hZ hown (hw _ (List.mem_of_getElem? (i := 128) rfl)) Via.refl e3 f3_3 f3_1 (Or.inr ⟨(hw _ (List.mem_of_getElem? (i := 129) rfl)), rfl, hnm⟩) (hw _ (List.mem_of_getElem? (i := 86) rfl)) (ty := .boolean) (v' := (.int (nar .boolean p2))) (by decide) rfl (fits_nar_bool _) (g := (mkF m 16 #[.val (.ref u), .val (.ref y2), .val (.int p2), .val (.ref ro)] [(.int p2), (.ref u)])) rfl rfl (hb hby d17_16)
  have Fw4 := f3_3.same W4
  have f4_1 := f3_1.wr W4
  have f4_2 := Fw3.other W4 (Or.inr (slot_ne (Or.inr (hw _ (List.mem_of_getElem? (i := 127) rfl))) (Or.inr (hw _ (List.mem_of_getElem? (i := 129) rfl))) (by decide) (t := (.object "java/util/List")) (t' := .boolean) (by decide) (by decide)))
  have f4_4 := f3_4.other W4 (Or.inr (slot_ne (Or.inr (hw _ (List.mem_of_getElem? (i := 131) rfl))) (Or.inr (hw _ (List.mem_of_getElem? (i := 129) rfl))) (by decide) (t := (.object "java/util/Optional")) (t' := .boolean) (by decide) (by decide)))
  have f4_5 := f3_5.wr W4
  have Z4 : n0 ≤ h4.size := by rw [W4.size]; exact Z3
  have K4 := Keep.wr K3 W4 (Or.inl (by simp))
  have N4 := Fr.snoc X4 N3 g_u
  refine own_go st4 ?_
  show own_Gl p.tables e below F (T4.setTop (mkF m 19 #[.val (.ref u), .val (.ref y2), .val (.int p2), .val (.ref ro)] []))
  refine own_go (fun _ k => XS.aloadN X4.here hx rfl (hb hby d17_19) rfl rfl k) ?_
  show own_Gl p.tables e below F (T4.setTop (mkF m 20 #[.val (.ref u), .val (.ref y2), .val (.int p2), .val (.ref ro)] [(.ref u)]))
  refine own_go (fun _ k => XS.aloadN X4.here hx rfl (hb hby d17_20) rfl rfl k) ?_
  show own_Gl p.tables e below F (T4.setTop (mkF m 21 #[.val (.ref u), .val (.ref y2), .val (.int p2), .val (.ref ro)] [(.ref ro), (.ref u)]))
  obtain ⟨T5, h5, X5, e5, W5, st5⟩ := putF X4 hx hZ hown (host := "") (Or.inl (hw _ (List.mem_of_getElem? (i := 130) rfl))) Via.refl e4 f4_4 f4_1 (Or.inr ⟨(hw _ (List.mem_of_getElem? (i := 131) rfl)), rfl, hnm⟩) (hw _ (List.mem_of_getElem? (i := 86) rfl)) (ty := (.object "java/util/Optional")) (by decide) rfl rfl (g := (mkF m 21 #[.val (.ref u), .val (.ref y2), .val (.int p2), .val (.ref ro)] [(.ref ro), (.ref u)])) rfl rfl (hb hby d17_21)
  have Fw5 := f4_4.same W5
  have f5_1 := f4_1.wr W5
  have f5_2 := f4_2.other W5 (Or.inr (slot_ne (Or.inr (hw _ (List.mem_of_getElem? (i := 127) rfl))) (Or.inr (hw _ (List.mem_of_getElem? (i := 131) rfl))) (by decide) (t := (.object "java/util/List")) (t' := (.object "java/util/Optional")) (by decide) (by decide)))
  have f5_3 := Fw4.other W5 (Or.inr (slot_ne (Or.inr (hw _ (List.mem_of_getElem? (i := 129) rfl))) (Or.inr (hw _ (List.mem_of_getElem? (i := 131) rfl))) (by decide) (t := .boolean) (t' := (.object "java/util/Optional")) (by decide) (by decide)))
  have f5_5 := f4_5.wr W5
  have Z5 : n0 ≤ h5.size := by rw [W5.size]; exact Z4
  have K5 := Keep.wr K4 W5 (Or.inl (by simp))
  have N5 := Fr.snoc X5 N4 g_u
  refine own_go st5 ?_
  show own_Gl p.tables e below F (T5.setTop (mkF m 24 #[.val (.ref u), .val (.ref y2), .val (.int p2), .val (.ref ro)] []))
  obtain ⟨fs, hr, hrun, hended, hW, hsame⟩ := X5.leave (v := none) (fun _ => rfl)
  subst hF
  refine own_fin ?_ ⟨hrun, hended, _, _, rfl, ?_, ⟨_, rfl⟩, hW, hsame.mono (by first | decide | exact Nat.le_of_ble_eq_true rfl) (by first | decide | exact Nat.le_of_ble_eq_true rfl)⟩
  · exact X5.returnOut hx Bd.returns (hb hby d17_24) hr
  · show Q_rmUI_2 Z _ _ _ _ _ _ _ _ _ h0 n0 _ T5.heap _
    rw [e5]
    exact ⟨rfl, N5, K5, f5_1, f5_3, y2, f5_2, f5_5⟩
theorem ef_rmUI_3 (m : MethodId) (x0 : Addr) (x1 : Addr) (x2 : Int32) (x3 : Addr) : entryFrame m #[(.ref x0), (.ref x1), (.int x2), (.ref x3)] 4 = mkF m 0 #[.val (.ref x0), .val (.ref x1), .val (.int x2), .val (.ref x3)] [] := by first | (simp [entryFrame, mkF, argsToLocals, Value.category]; done) | rfl
def Q_rmUI_3 (Z : State) (u a : Addr) (p2 : Int32) (ro b : Addr) (kb : ClassId) (mi x0 x1 x2 : Addr) (h0 : Heap) (n0 : Nat) (v : Option Value) (h : Heap) (L : List Loc) : Prop := v = none ∧ Fr n0 L ∧ Keep h0 h [u] ∧ Exa Z h u "com/example/brokerwright/brokerwright/kafka/UserLookup" ∧ Fld Z h u "com/example/brokerwright/brokerwright/kafka/UserLookup" "holdsBindings" "Z" (.int (nar .boolean p2)) ∧ ∃ (y t2 : Addr) (k2 : ClassId), Fld Z h u "com/example/brokerwright/brokerwright/kafka/UserLookup" "mechanisms" "Ljava/util/List;" (.ref y) ∧ Exa Z h y "java/util/ImmutableCollections$ListN" ∧ Fld Z h y "java/util/ImmutableCollections$ListN" "elements" "[Ljava/lang/Object;" (.ref t2) ∧ Arv Z h t2 k2 (.object "java/lang/Object") 3 [(.ref x0), (.ref x1), (.ref x2)] .null
set_option maxRecDepth 65536 in
set_option maxHeartbeats 40000000 in
theorem rmUI_3 (l : Launch) (Z : State) (a0 : Array Value) (hw : ∀ d ∈ tables_1, d.before a0 Z = true) (ws : List Jvm.Cond) (u a : Addr) (p2 : Int32) (ro b : Addr) (kb : ClassId) (mi x0 x1 x2 : Addr) (h0 : Heap) (n0 : Nat) (Z0 : n0 ≤ h0.size) (E_u : Exa Z h0 u "com/example/brokerwright/brokerwright/kafka/UserLookup") (F_mechanisms : Fld Z h0 u "com/example/brokerwright/brokerwright/kafka/UserLookup" "mechanisms" "Ljava/util/List;" .null) (F_holdsBindings : Fld Z h0 u "com/example/brokerwright/brokerwright/kafka/UserLookup" "holdsBindings" "Z" (.int 0)) (F_refusal : Fld Z h0 u "com/example/brokerwright/brokerwright/kafka/UserLookup" "refusal" "Ljava/util/Optional;" .null) (g_u : n0 ≤ u) (E_a : Exa Z h0 a "java/util/ArrayList") (FD : Fld Z h0 a "java/util/ArrayList" "elementData" "[Ljava/lang/Object;" (.ref b)) (FS : Fld Z h0 a "java/util/ArrayList" "size" "I" (.int 3)) (VB : Arv Z h0 b kb (.object "java/lang/Object") 10 [(.ref x0), (.ref x1), (.ref x2), .null, .null, .null, .null, .null, .null, .null] .null) (EB : Exa Z h0 b "[Ljava/lang/Object;") (MI : Mir Z "[Ljava/lang/Object;" mi) (EX0 : Exa Z h0 x0 "java/lang/String") (EX1 : Exa Z h0 x1 "java/lang/String") (EX2 : Exa Z h0 x2 "java/lang/String") :
    MetFree l (⟨"com/example/brokerwright/brokerwright/kafka/UserLookup", "<init>", "(Ljava/util/List;ZLjava/util/Optional;)V"⟩ : MethodName) (head1 (Jvm.Cond.code (⟨"com/example/brokerwright/brokerwright/kafka/UserLookup", "<init>", "(Ljava/util/List;ZLjava/util/Optional;)V"⟩ : MethodName) prog_22_method_1_code 4 none :: ws) ({ frames := 9, cells := 3, slots := 8, locals := 125 } : Room)) (fun ag U => ag = #[(.ref u), (.ref a), (.int p2), (.ref ro)] ∧ Z.Warmed39 U.vm ∧ U.heap = h0) (fun _ _ _ _ _ => True) (fun _ U o U' => ∃ v L, o = .returned v ∧ Q_rmUI_3 Z u a p2 ro b kb mi x0 x1 x2 h0 n0 v U'.heap L ∧ FrameEnd U o U' L ({ frames := 9, cells := 3, slots := 8, locals := 125 } : Room).cells ({ frames := 9, cells := 3, slots := 8, locals := 125 } : Room).slots) := by
  refine MetFree.of_bodySF (plainFor_of_name pn_15) hisR ?_
  intro p e s m args below meth c s₁ Bd hml0 hP hK
  obtain ⟨rfl, hZ, hh⟩ := hP
  have hx := Bd.exec
  have hby := Bd.bytes
  have hml : c.maxLocals = 4 := hml0
  have hown : s.vm.findClass "com/example/brokerwright/brokerwright/kafka/UserLookup" = some m.cls := findClass_of_methodNamed Bd.named
  have hnm := (name_of_methodNamed Bd.named Bd.method).1
  have X0 : Stand p l e ({ frames := 9, cells := 3, slots := 8, locals := 125 } : Room) s m #[(.ref u), (.ref a), (.int p2), (.ref ro)] below meth c s₁ [] 0 0 := Stand.of_body Bd
  have e0 : s₁.heap = h0 := by rw [← hh, Bd.state]; rfl
  have N0 := Fr.nil n0
  refine own_start (ef_rmUI_3 m u a p2 ro) ?_
  intro F hF
  show own_Gl p.tables e below F (s₁.setTop (mkF m 0 #[.val (.ref u), .val (.ref a), .val (.int p2), .val (.ref ro)] []))
  refine own_go (fun _ k => XS.aloadN X0.here hx rfl (hb hby d17_0) rfl rfl k) ?_
  show own_Gl p.tables e below F (s₁.setTop (mkF m 1 #[.val (.ref u), .val (.ref a), .val (.int p2), .val (.ref ro)] [(.ref u)]))
  obtain ⟨_, _, ⟨T1, L1, k1, n1⟩, -, X1, ⟨Lc1, hQ1, l1, y1, z1⟩, st1⟩ := X0.specialBack hx (y := (⟨"java/lang/Record", "<init>", "()V"⟩ : MethodName)) rfl hown (mvT hZ (hw _ (List.mem_of_getElem? (i := 91) rfl))) (mvT hZ (hw _ (List.mem_of_getElem? (i := 92) rfl))) (mvT hZ (hw _ (List.mem_of_getElem? (i := 95) rfl))) (by decide) (backOf (W := 0) (rm18 l Z a0 hw [] u  h0 n0 Z0 ) hZ (hw _ (List.mem_of_getElem? (i := 95) rfl)) (hw _ (List.mem_of_getElem? (i := 94) rfl)) (by decide) (by decide)) (g := (mkF m 1 #[.val (.ref u), .val (.ref a), .val (.int p2), .val (.ref ro)] [(.ref u)])) rfl (by rw [hml]; rfl) (Steps.refl _) (a := u) (argsL := []) (rest := []) (lenOf pd_1 rfl) rfl (by show 2 * 0 + _ ≤ _; exact Nat.le_of_eq rfl) (hb hby d17_1) (fun _ _ => ⟨rfl, e0, (by first | decide | exact Nat.le_of_ble_eq_true rfl), (by first | decide | exact Nat.le_of_ble_eq_true rfl)⟩)
  dsimp only [Pt.U, Pt.locs, Pt.cells, Pt.slots] at X1 l1 y1 z1 st1 hQ1
  have X1 := own_sn X1 (k' := 0) (n' := 0) y1 z1
  obtain ⟨rfl, N1, e1⟩ := hQ1
  have NF1 := own_fr l1 N0 N1
  refine own_go (fun _ k => st1.trans k) ?_
  show own_Gl p.tables e below F (T1.setTop (mkF m 4 #[.val (.ref u), .val (.ref a), .val (.int p2), .val (.ref ro)] []))
  refine own_go (fun _ k => XS.aloadN X1.here hx rfl (hb hby d17_4) rfl rfl k) ?_
  show own_Gl p.tables e below F (T1.setTop (mkF m 5 #[.val (.ref u), .val (.ref a), .val (.int p2), .val (.ref ro)] [(.ref a)]))
  obtain ⟨_, _, ⟨T2, L2, k2, n2⟩, -, X2, ⟨Lc2, hQ2, l2, y2, z2⟩, st2⟩ := Jvm.LawKit.callS X1 hx (y := (⟨"java/util/List", "copyOf", "(Ljava/util/Collection;)Ljava/util/List;"⟩ : MethodName)) hown (mvT hZ (hw _ (List.mem_of_getElem? (i := 97) rfl))) (mvT hZ (hw _ (List.mem_of_getElem? (i := 98) rfl))) (mvT hZ (hw _ (List.mem_of_getElem? (i := 99) rfl))) (mvT hZ (hw _ (List.mem_of_getElem? (i := 100) rfl))) (by decide) (backOf (W := 0) (rmCO_3 l Z a0 hw [] a b kb mi x0 x1 x2 h0 n0 Z0 E_a FD FS VB EB MI EX0 EX1 EX2) hZ (hw _ (List.mem_of_getElem? (i := 100) rfl)) (hw _ (List.mem_of_getElem? (i := 99) rfl)) (by decide) (by decide)) (g := (mkF m 5 #[.val (.ref u), .val (.ref a), .val (.int p2), .val (.ref ro)] [(.ref a)])) rfl (by rw [hml]; rfl) (argsL := [(.ref a)]) (rest := []) (lenOf pd_18 rfl) rfl (by show 2 * 0 + _ ≤ _; exact Nat.le_of_eq rfl) (hb hby d17_5) (fun _ _ => ⟨rfl, e1, (by first | decide | exact Nat.le_of_ble_eq_true rfl), (by first | decide | exact Nat.le_of_ble_eq_true rfl)⟩)
  dsimp only [Pt.U, Pt.locs, Pt.cells, Pt.slots] at X2 l2 y2 z2 st2 hQ2
  have X2 := own_sn X2 (k' := 3) (n' := 8) y2 z2
  obtain ⟨y2, t2, k22, rfl, N2, K2, EY2, FY2, VY2⟩ := hQ2
  have NF2 := own_fr l2 NF1 N2
  have f2_1 := E_u.keep K2
  have f2_2 := F_mechanisms.keep K2 nin0
  have f2_3 := F_holdsBindings.keep K2 nin0
  have f2_4 := F_refusal.keep K2 nin0
  have Z2 : n0 ≤ T2.heap.size := Nat.le_trans Z0 K2.1
  have KK2 := Keep.trans (Keep.refl h0 [u]) K2 (fun _ q => nomatch q)
  refine own_go st2 ?_
  show own_Gl p.tables e below F (T2.setTop (mkF m 8 #[.val (.ref u), .val (.ref a), .val (.int p2), .val (.ref ro)] [(.ref y2)]))
  have ne_u_y : u ≠ y2 := ne_exa f2_1 EY2 (by decide)
  have ne_u_t : u ≠ t2 := (f2_1).neArv VY2 (hw _ (List.mem_of_getElem? (i := 86) rfl))
  refine own_go (fun _ k => XS.astoreN X2.here hx rfl (hb hby d17_8) rfl rfl (l' := #[.val (.ref u), .val (.ref y2), .val (.int p2), .val (.ref ro)]) rfl k) ?_
  show own_Gl p.tables e below F (T2.setTop (mkF m 9 #[.val (.ref u), .val (.ref y2), .val (.int p2), .val (.ref ro)] []))
  refine own_go (fun _ k => XS.aloadN X2.here hx rfl (hb hby d17_9) rfl rfl k) ?_
  show own_Gl p.tables e below F (T2.setTop (mkF m 10 #[.val (.ref u), .val (.ref y2), .val (.int p2), .val (.ref ro)] [(.ref u)]))
  refine own_go (fun _ k => XS.aloadN X2.here hx rfl (hb hby d17_10) rfl rfl k) ?_
  show own_Gl p.tables e below F (T2.setTop (mkF m 11 #[.val (.ref u), .val (.ref y2), .val (.int p2), .val (.ref ro)] [(.ref y2), (.ref u)]))
  obtain ⟨T3, h3, X3, e3, W3, st3⟩ := putF X2 hx hZ hown (host := "") (Or.inl (hw _ (List.mem_of_getElem? (i := 126) rfl))) Via.refl rfl f2_2 f2_1 (Or.inr ⟨(hw _ (List.mem_of_getElem? (i := 127) rfl)), rfl, hnm⟩) (hw _ (List.mem_of_getElem? (i := 86) rfl)) (ty := (.object "java/util/List")) (by decide) rfl rfl (g := (mkF m 11 #[.val (.ref u), .val (.ref y2), .val (.int p2), .val (.ref ro)] [(.ref y2), (.ref u)])) rfl rfl (hb hby d17_11)
  have Fw3 := f2_2.same W3
  have f3_1 := f2_1.wr W3
  have f3_3 := f2_3.other W3 (Or.inr (slot_ne (Or.inr (hw _ (List.mem_of_getElem? (i := 129) rfl))) (Or.inr (hw _ (List.mem_of_getElem? (i := 127) rfl))) (by decide) (t := .boolean) (t' := (.object "java/util/List")) (by decide) (by decide)))
  have f3_4 := f2_4.other W3 (Or.inr (slot_ne (Or.inr (hw _ (List.mem_of_getElem? (i := 131) rfl))) (Or.inr (hw _ (List.mem_of_getElem? (i := 127) rfl))) (by decide) (t := (.object "java/util/Optional")) (t' := (.object "java/util/List")) (by decide) (by decide)))
  have f3_5 := EY2.wr W3
  have f3_6 := FY2.other W3 (Or.inl (Ne.symm ne_u_y))
  have f3_7 := VY2.other W3 (Ne.symm ne_u_t)
  have Z3 : n0 ≤ h3.size := by rw [W3.size]; exact Z2
  have K3 := Keep.wr KK2 W3 (Or.inl (by simp))
  have N3 := Fr.snoc X3 NF2 g_u
  refine own_go st3 ?_
  show own_Gl p.tables e below F (T3.setTop (mkF m 14 #[.val (.ref u), .val (.ref y2), .val (.int p2), .val (.ref ro)] []))
  refine own_go (fun _ k => XS.aloadN X3.here hx rfl (hb hby d17_14) rfl rfl k) ?_
  show own_Gl p.tables e below F (T3.setTop (mkF m 15 #[.val (.ref u), .val (.ref y2), .val (.int p2), .val (.ref ro)] [(.ref u)]))
  refine own_go (fun _ k => XS.iloadN X3.here hx rfl (hb hby d17_15) rfl k) ?_
  show own_Gl p.tables e below F (T3.setTop (mkF m 16 #[.val (.ref u), .val (.ref y2), .val (.int p2), .val (.ref ro)] [(.int p2), (.ref u)]))
  obtain ⟨T4, h4, X4, e4, W4, st4⟩ := putFN X3 hx hZ hown (hw _ (List.mem_of_getElem? (i := 128) rfl)) Via.refl e3 f3_3 f3_1 (Or.inr ⟨(hw _ (List.mem_of_getElem? (i := 129) rfl)), rfl, hnm⟩) (hw _ (List.mem_of_getElem? (i := 86) rfl)) (ty := .boolean) (v' := (.int (nar .boolean p2))) (by decide) rfl (fits_nar_bool _) (g := (mkF m 16 #[.val (.ref u), .val (.ref y2), .val (.int p2), .val (.ref ro)] [(.int p2), (.ref u)])) rfl rfl (hb hby d17_16)
  have Fw4 := f3_3.same W4
  have f4_1 := f3_1.wr W4
  have f4_2 := Fw3.other W4 (Or.inr (slot_ne (Or.inr (hw _ (List.mem_of_getElem? (i := 127) rfl))) (Or.inr (hw _ (List.mem_of_getElem? (i := 129) rfl))) (by decide) (t := (.object "java/util/List")) (t' := .boolean) (by decide) (by decide)))
  have f4_4 := f3_4.other W4 (Or.inr (slot_ne (Or.inr (hw _ (List.mem_of_getElem? (i := 131) rfl))) (Or.inr (hw _ (List.mem_of_getElem? (i := 129) rfl))) (by decide) (t := (.object "java/util/Optional")) (t' := .boolean) (by decide) (by decide)))
  have f4_5 := f3_5.wr W4
  have f4_6 := f3_6.other W4 (Or.inl (Ne.symm ne_u_y))
  have f4_7 := f3_7.other W4 (Ne.symm ne_u_t)
  have Z4 : n0 ≤ h4.size := by rw [W4.size]; exact Z3
  have K4 := Keep.wr K3 W4 (Or.inl (by simp))
  have N4 := Fr.snoc X4 N3 g_u
  refine own_go st4 ?_
  show own_Gl p.tables e below F (T4.setTop (mkF m 19 #[.val (.ref u), .val (.ref y2), .val (.int p2), .val (.ref ro)] []))
  refine own_go (fun _ k => XS.aloadN X4.here hx rfl (hb hby d17_19) rfl rfl k) ?_
  show own_Gl p.tables e below F (T4.setTop (mkF m 20 #[.val (.ref u), .val (.ref y2), .val (.int p2), .val (.ref ro)] [(.ref u)]))
  refine own_go (fun _ k => XS.aloadN X4.here hx rfl (hb hby d17_20) rfl rfl k) ?_
  show own_Gl p.tables e below F (T4.setTop (mkF m 21 #[.val (.ref u), .val (.ref y2), .val (.int p2), .val (.ref ro)] [(.ref ro), (.ref u)]))
  obtain ⟨T5, h5, X5, e5, W5, st5⟩ := putF X4 hx hZ hown (host := "") (Or.inl (hw _ (List.mem_of_getElem? (i := 130) rfl))) Via.refl e4 f4_4 f4_1 (Or.inr ⟨(hw _ (List.mem_of_getElem? (i := 131) rfl)), rfl, hnm⟩) (hw _ (List.mem_of_getElem? (i := 86) rfl)) (ty := (.object "java/util/Optional")) (by decide) rfl rfl (g := (mkF m 21 #[.val (.ref u), .val (.ref y2), .val (.int p2), .val (.ref ro)] [(.ref ro), (.ref u)])) rfl rfl (hb hby d17_21)
  have Fw5 := f4_4.same W5
  have f5_1 := f4_1.wr W5
  have f5_2 := f4_2.other W5 (Or.inr (slot_ne (Or.inr (hw _ (List.mem_of_getElem? (i := 127) rfl))) (Or.inr (hw _ (List.mem_of_getElem? (i := 131) rfl))) (by decide) (t := (.object "java/util/List")) (t' := (.object "java/util/Optional")) (by decide) (by decide)))
  have f5_3 := Fw4.other W5 (Or.inr (slot_ne (Or.inr (hw _ (List.mem_of_getElem? (i := 129) rfl))) (Or.inr (hw _ (List.mem_of_getElem? (i := 131) rfl))) (by decide) (t := .boolean) (t' := (.object "java/util/Optional")) (by decide) (by decide)))
  have f5_5 := f4_5.wr W5
  have f5_6 := f4_6.other W5 (Or.inl (Ne.symm ne_u_y))
  have f5_7 := f4_7.other W5 (Ne.symm ne_u_t)
  have Z5 : n0 ≤ h5.size := by rw [W5.size]; exact Z4
  have K5 := Keep.wr K4 W5 (Or.inl (by simp))
  have N5 := Fr.snoc X5 N4 g_u
  refine own_go st5 ?_
  show own_Gl p.tables e below F (T5.setTop (mkF m 24 #[.val (.ref u), .val (.ref y2), .val (.int p2), .val (.ref ro)] []))
  obtain ⟨fs, hr, hrun, hended, hW, hsame⟩ := X5.leave (v := none) (fun _ => rfl)
  subst hF
  refine own_fin ?_ ⟨hrun, hended, _, _, rfl, ?_, ⟨_, rfl⟩, hW, hsame.mono (by first | decide | exact Nat.le_of_ble_eq_true rfl) (by first | decide | exact Nat.le_of_ble_eq_true rfl)⟩
  · exact X5.returnOut hx Bd.returns (hb hby d17_24) hr
  · show Q_rmUI_3 Z _ _ _ _ _ _ _ _ _ _ h0 n0 _ T5.heap _
    rw [e5]
    exact ⟨rfl, N5, K5, f5_1, f5_3, y2, t2, k22, f5_2, f5_5, f5_6, f5_7⟩
theorem ef_rmHU_0 (m : MethodId) (x0 : Addr) : entryFrame m #[(.ref x0)] 1 = mkF m 0 #[.val (.ref x0)] [] := by first | (simp [entryFrame, mkF, argsToLocals, Value.category]; done) | rfl
theorem d23_0 : decode prog_22_method_2_code 0 = .ok (.aload_n 0, 1) := by decide +kernel
theorem d23_1 : decode prog_22_method_2_code 1 = .ok (.getfield 13, 3) := by decide +kernel
theorem d23_4 : decode prog_22_method_2_code 4 = .ok (.invokeinterface 27 1, 5) := by decide +kernel
theorem d23_9 : decode prog_22_method_2_code 9 = .ok (.ifCond .eq 10, 3) := by decide +kernel
theorem d23_12 : decode prog_22_method_2_code 12 = .ok (.aload_n 0, 1) := by decide +kernel
theorem d23_13 : decode prog_22_method_2_code 13 = .ok (.getfield 19, 3) := by decide +kernel
theorem d23_16 : decode prog_22_method_2_code 16 = .ok (.ifCond .eq 7, 3) := by decide +kernel
theorem d23_23 : decode prog_22_method_2_code 23 = .ok (.iconst 0, 1) := by decide +kernel
theorem d23_24 : decode prog_22_method_2_code 24 = .ok (.ireturn, 1) := by decide +kernel
theorem d23_19 : decode prog_22_method_2_code 19 = .ok (.iconst 1, 1) := by decide +kernel
theorem d23_20 : decode prog_22_method_2_code 20 = .ok (.goto 4, 3) := by decide +kernel
def Q_rmHU_0 (Z : State) (u y : Addr) (bb : Int32) (t : Addr) (kt : ClassId) (h0 : Heap) (n0 : Nat) (v : Option Value) (h : Heap) (L : List Loc) : Prop := v = some (.int bb) ∧ Fr n0 L ∧ h = h0
set_option maxRecDepth 65536 in
set_option maxHeartbeats 40000000 in
theorem rmHU_0 (l : Launch) (Z : State) (a0 : Array Value) (hw : ∀ d ∈ tables_1, d.before a0 Z = true) (ws : List Jvm.Cond) (u y : Addr) (bb : Int32) (t : Addr) (kt : ClassId) (h0 : Heap) (n0 : Nat) (Z0 : n0 ≤ h0.size) (FM : Fld Z h0 u "com/example/brokerwright/brokerwright/kafka/UserLookup" "mechanisms" "Ljava/util/List;" (.ref y)) (FB : Fld Z h0 u "com/example/brokerwright/brokerwright/kafka/UserLookup" "holdsBindings" "Z" (.int bb)) (EY : Exa Z h0 y "java/util/ImmutableCollections$ListN") (hb01 : bb = 0 ∨ bb = 1) (FE : Fld Z h0 y "java/util/ImmutableCollections$ListN" "elements" "[Ljava/lang/Object;" (.ref t)) (VT : Arv Z h0 t kt (.object "java/lang/Object") 0 [] .null) :
    MetFree l (⟨"com/example/brokerwright/brokerwright/kafka/UserLookup", "holdsUser", "()Z"⟩ : MethodName) (head1 (Jvm.Cond.code (⟨"com/example/brokerwright/brokerwright/kafka/UserLookup", "holdsUser", "()Z"⟩ : MethodName) prog_22_method_2_code 1 (some .boolean) :: ws) ({ frames := 1, cells := 0, slots := 0, locals := 12 } : Room)) (fun ag U => ag = #[(.ref u)] ∧ Z.Warmed39 U.vm ∧ U.heap = h0) (fun _ _ _ _ _ => True) (fun _ U o U' => ∃ v L, o = .returned v ∧ Q_rmHU_0 Z u y bb t kt h0 n0 v U'.heap L ∧ FrameEnd U o U' L ({ frames := 1, cells := 0, slots := 0, locals := 12 } : Room).cells ({ frames := 1, cells := 0, slots := 0, locals := 12 } : Room).slots) := by
  refine MetFree.of_bodySF (plainFor_of_name pn_15) hisR ?_
  intro p e s m args below meth c s₁ Bd hml0 hP hK
  obtain ⟨rfl, hZ, hh⟩ := hP
  have hx := Bd.exec
  have hby := Bd.bytes
  have hml : c.maxLocals = 1 := hml0
  have hown : s.vm.findClass "com/example/brokerwright/brokerwright/kafka/UserLookup" = some m.cls := findClass_of_methodNamed Bd.named
  have hnm := (name_of_methodNamed Bd.named Bd.method).1
  have X0 : Stand p l e ({ frames := 1, cells := 0, slots := 0, locals := 12 } : Room) s m #[(.ref u)] below meth c s₁ [] 0 0 := Stand.of_body Bd
  have e0 : s₁.heap = h0 := by rw [← hh, Bd.state]; rfl
  have N0 := Fr.nil n0
  refine own_start (ef_rmHU_0 m u) ?_
  intro F hF
  show own_Gl p.tables e below F (s₁.setTop (mkF m 0 #[.val (.ref u)] []))
  refine own_go (fun _ k => XS.aloadN X0.here hx rfl (hb hby d23_0) rfl rfl k) ?_
  show own_Gl p.tables e below F (s₁.setTop (mkF m 1 #[.val (.ref u)] [(.ref u)]))
  obtain ⟨T1, X1, e1, st1⟩ := getF X0 hx hZ hown (host := "") (Or.inl (hw _ (List.mem_of_getElem? (i := 126) rfl))) Via.refl e0 FM (g := (mkF m 1 #[.val (.ref u)] [(.ref u)])) rfl rfl (hb hby d23_1)
  refine own_go st1 ?_
  show own_Gl p.tables e below F (T1.setTop (mkF m 4 #[.val (.ref u)] [(.ref y)]))
  obtain ⟨cq2, kq2, q2a, q2b, q2c⟩ := isOf hZ e1 EY
  obtain ⟨_, _, ⟨T2, L2, k2, n2⟩, -, X2, ⟨Lc2, hQ2, l2, y2, z2⟩, st2⟩ := X1.interfaceBack hx (xi := (⟨"java/util/List", "isEmpty", "()Z"⟩ : MethodName)) (y := (⟨"java/util/ImmutableCollections$ListN", "isEmpty", "()Z"⟩ : MethodName)) hown (mvT hZ (hw _ (List.mem_of_getElem? (i := 137) rfl))) (mvT hZ (hw _ (List.mem_of_getElem? (i := 138) rfl))) (mvT hZ (hw _ (List.mem_of_getElem? (i := 139) rfl))) (mvT hZ (hw _ (List.mem_of_getElem? (i := 140) rfl))) (mvT hZ (hw _ (List.mem_of_getElem? (i := 141) rfl))) (mvT hZ (hw _ (List.mem_of_getElem? (i := 142) rfl))) (mvT hZ (hw _ (List.mem_of_getElem? (i := 143) rfl))) (mvT hZ (hw _ (List.mem_of_getElem? (i := 144) rfl))) (by decide) (backOf (W := 0) (rmNE_0 l Z a0 hw [] y t kt h0 n0 Z0 FE VT) hZ (hw _ (List.mem_of_getElem? (i := 146) rfl)) (hw _ (List.mem_of_getElem? (i := 145) rfl)) (by decide) (by decide)) q2a q2b q2c (g := (mkF m 4 #[.val (.ref u)] [(.ref y)])) rfl (by rw [hml]; rfl) (Steps.refl _) (argsL := []) (rest := []) (lenOf pd_16 rfl) rfl (by show 2 * 0 + _ ≤ _; exact Nat.le_of_eq rfl) (hb hby d23_4) (fun _ _ => ⟨rfl, e1, (by first | decide | exact Nat.le_of_ble_eq_true rfl), (by first | decide | exact Nat.le_of_ble_eq_true rfl)⟩)
  dsimp only [Pt.U, Pt.locs, Pt.cells, Pt.slots] at X2 l2 y2 z2 st2 hQ2
  have X2 := own_sn X2 (k' := 0) (n' := 0) y2 z2
  obtain ⟨rfl, N2, e2⟩ := hQ2
  have NF2 := own_fr l2 N0 N2
  refine own_go (fun _ k => st2.trans k) ?_
  show own_Gl p.tables e below F (T2.setTop (mkF m 9 #[.val (.ref u)] [(.int (1 : Int32))]))
  refine own_go (fun _ k => XS.ifNo X2.here hx rfl (hb hby d23_9) rfl (XT.i0_eq_f (by decide)) k) ?_
  show own_Gl p.tables e below F (T2.setTop (mkF m 12 #[.val (.ref u)] []))
  refine own_go (fun _ k => XS.aloadN X2.here hx rfl (hb hby d23_12) rfl rfl k) ?_
  show own_Gl p.tables e below F (T2.setTop (mkF m 13 #[.val (.ref u)] [(.ref u)]))
  obtain ⟨T3, X3, e3, st3⟩ := getF X2 hx hZ hown (host := "") (Or.inl (hw _ (List.mem_of_getElem? (i := 128) rfl))) Via.refl e2 FB (g := (mkF m 13 #[.val (.ref u)] [(.ref u)])) rfl rfl (hb hby d23_13)
  refine own_go st3 ?_
  show own_Gl p.tables e below F (T3.setTop (mkF m 16 #[.val (.ref u)] [(.int bb)]))
  rcases hb01 with rfl | rfl
  · show own_Gl p.tables e below F (T3.setTop (mkF m 16 #[.val (.ref u)] [(.int (0 : Int32))]))
    refine own_go (fun _ k => XS.ifYes X3.here hx rfl (pc0 := 16) (pc' := 23) rfl (hb hby d23_16) rfl (XT.i0_eq_t rfl) (by decide) (by decide) k) ?_
    show own_Gl p.tables e below F (T3.setTop (mkF m 23 #[.val (.ref u)] []))
    refine own_go (fun _ k => XS.iconst X3.here hx rfl (hb hby d23_23) k) ?_
    show own_Gl p.tables e below F (T3.setTop (mkF m 24 #[.val (.ref u)] [(.int (0 : Int32))]))
    obtain ⟨fs, hr, hrun, hended, hW, hsame⟩ := X3.leave (v := some (.int (0 : Int32))) (fun h => by rw [Bd.returns] at h; cases h)
    subst hF
    refine own_fin ?_ ⟨hrun, hended, _, _, rfl, ?_, ⟨_, rfl⟩, hW, hsame.mono (by first | decide | exact Nat.le_of_ble_eq_true rfl) (by first | decide | exact Nat.le_of_ble_eq_true rfl)⟩
    · exact own_retN X3 hx (t := .boolean) Bd.returns (by simp) rfl (hb hby d23_24) hr
    · show Q_rmHU_0 Z _ _ _ _ _ h0 n0 _ T3.heap _
      rw [e3]
      exact ⟨rfl, NF2, rfl⟩
  · show own_Gl p.tables e below F (T3.setTop (mkF m 16 #[.val (.ref u)] [(.int (1 : Int32))]))
    refine own_go (fun _ k => XS.ifNo X3.here hx rfl (hb hby d23_16) rfl (XT.i0_eq_f (by decide)) k) ?_
    show own_Gl p.tables e below F (T3.setTop (mkF m 19 #[.val (.ref u)] []))
    refine own_go (fun _ k => XS.iconst X3.here hx rfl (hb hby d23_19) k) ?_
    show own_Gl p.tables e below F (T3.setTop (mkF m 20 #[.val (.ref u)] [(.int (1 : Int32))]))
    refine own_go (fun _ k => XS.goto X3.here hx rfl (pc0 := 20) (pc' := 24) rfl (hb hby d23_20) (by decide) (by decide) k) ?_
    show own_Gl p.tables e below F (T3.setTop (mkF m 24 #[.val (.ref u)] [(.int (1 : Int32))]))
    obtain ⟨fs, hr, hrun, hended, hW, hsame⟩ := X3.leave (v := some (.int (1 : Int32))) (fun h => by rw [Bd.returns] at h; cases h)
    subst hF
    refine own_fin ?_ ⟨hrun, hended, _, _, rfl, ?_, ⟨_, rfl⟩, hW, hsame.mono (by first | decide | exact Nat.le_of_ble_eq_true rfl) (by first | decide | exact Nat.le_of_ble_eq_true rfl)⟩
    · exact own_retN X3 hx (t := .boolean) Bd.returns (by simp) rfl (hb hby d23_24) hr
    · show Q_rmHU_0 Z _ _ _ _ _ h0 n0 _ T3.heap _
      rw [e3]
      exact ⟨rfl, NF2, rfl⟩
theorem ef_rmHU_1 (m : MethodId) (x0 : Addr) : entryFrame m #[(.ref x0)] 1 = mkF m 0 #[.val (.ref x0)] [] := by first | (simp [entryFrame, mkF, argsToLocals, Value.category]; done) | rfl
def Q_rmHU_1 (Z : State) (u y : Addr) (bb : Int32) (h0 : Heap) (n0 : Nat) (v : Option Value) (h : Heap) (L : List Loc) : Prop := v = some (.int 1) ∧ Fr n0 L ∧ h = h0
set_option maxRecDepth 65536 in
set_option maxHeartbeats 40000000 in
theorem rmHU_1 (l : Launch) (Z : State) (a0 : Array Value) (hw : ∀ d ∈ tables_1, d.before a0 Z = true) (ws : List Jvm.Cond) (u y : Addr) (bb : Int32) (h0 : Heap) (n0 : Nat) (Z0 : n0 ≤ h0.size) (FM : Fld Z h0 u "com/example/brokerwright/brokerwright/kafka/UserLookup" "mechanisms" "Ljava/util/List;" (.ref y)) (FB : Fld Z h0 u "com/example/brokerwright/brokerwright/kafka/UserLookup" "holdsBindings" "Z" (.int bb)) (EY : Exa Z h0 y "java/util/ImmutableCollections$List12") (hb01 : bb = 0 ∨ bb = 1) :
    MetFree l (⟨"com/example/brokerwright/brokerwright/kafka/UserLookup", "holdsUser", "()Z"⟩ : MethodName) (head1 (Jvm.Cond.code (⟨"com/example/brokerwright/brokerwright/kafka/UserLookup", "holdsUser", "()Z"⟩ : MethodName) prog_22_method_2_code 1 (some .boolean) :: ws) ({ frames := 1, cells := 0, slots := 0, locals := 12 } : Room)) (fun ag U => ag = #[(.ref u)] ∧ Z.Warmed39 U.vm ∧ U.heap = h0) (fun _ _ _ _ _ => True) (fun _ U o U' => ∃ v L, o = .returned v ∧ Q_rmHU_1 Z u y bb h0 n0 v U'.heap L ∧ FrameEnd U o U' L ({ frames := 1, cells := 0, slots := 0, locals := 12 } : Room).cells ({ frames := 1, cells := 0, slots := 0, locals := 12 } : Room).slots) := by
  refine MetFree.of_bodySF (plainFor_of_name pn_15) hisR ?_
  intro p e s m args below meth c s₁ Bd hml0 hP hK
  obtain ⟨rfl, hZ, hh⟩ := hP
  have hx := Bd.exec
  have hby := Bd.bytes
  have hml : c.maxLocals = 1 := hml0
  have hown : s.vm.findClass "com/example/brokerwright/brokerwright/kafka/UserLookup" = some m.cls := findClass_of_methodNamed Bd.named
  have hnm := (name_of_methodNamed Bd.named Bd.method).1
  have X0 : Stand p l e ({ frames := 1, cells := 0, slots := 0, locals := 12 } : Room) s m #[(.ref u)] below meth c s₁ [] 0 0 := Stand.of_body Bd
  have e0 : s₁.heap = h0 := by rw [← hh, Bd.state]; rfl
  have N0 := Fr.nil n0
  refine own_start (ef_rmHU_1 m u) ?_
  intro F hF
  show own_Gl p.tables e below F (s₁.setTop (mkF m 0 #[.val (.ref u)] []))
  refine own_go (fun _ k => XS.aloadN X0.here hx rfl (hb hby d23_0) rfl rfl k) ?_
  show own_Gl p.tables e below F (s₁.setTop (mkF m 1 #[.val (.ref u)] [(.ref u)]))
  obtain ⟨T1, X1, e1, st1⟩ := getF X0 hx hZ hown (host := "") (Or.inl (hw _ (List.mem_of_getElem? (i := 126) rfl))) Via.refl e0 FM (g := (mkF m 1 #[.val (.ref u)] [(.ref u)])) rfl rfl (hb hby d23_1)
  refine own_go st1 ?_
  show own_Gl p.tables e below F (T1.setTop (mkF m 4 #[.val (.ref u)] [(.ref y)]))
  obtain ⟨cq2, kq2, q2a, q2b, q2c⟩ := isOf hZ e1 EY
  obtain ⟨_, _, ⟨T2, L2, k2, n2⟩, -, X2, ⟨Lc2, hQ2, l2, y2, z2⟩, st2⟩ := X1.interfaceBack hx (xi := (⟨"java/util/List", "isEmpty", "()Z"⟩ : MethodName)) (y := (⟨"java/util/ImmutableCollections$List12", "isEmpty", "()Z"⟩ : MethodName)) hown (mvT hZ (hw _ (List.mem_of_getElem? (i := 137) rfl))) (mvT hZ (hw _ (List.mem_of_getElem? (i := 138) rfl))) (mvT hZ (hw _ (List.mem_of_getElem? (i := 139) rfl))) (mvT hZ (hw _ (List.mem_of_getElem? (i := 260) rfl))) (mvT hZ (hw _ (List.mem_of_getElem? (i := 261) rfl))) (mvT hZ (hw _ (List.mem_of_getElem? (i := 262) rfl))) (mvT hZ (hw _ (List.mem_of_getElem? (i := 263) rfl))) (mvT hZ (hw _ (List.mem_of_getElem? (i := 264) rfl))) (by decide) (backOf (W := 0) (rm41 l Z a0 hw [] y  h0 n0 Z0 ) hZ (hw _ (List.mem_of_getElem? (i := 265) rfl)) (hw _ (List.mem_of_getElem? (i := 246) rfl)) (by decide) (by decide)) q2a q2b q2c (g := (mkF m 4 #[.val (.ref u)] [(.ref y)])) rfl (by rw [hml]; rfl) (Steps.refl _) (argsL := []) (rest := []) (lenOf pd_16 rfl) rfl (by show 2 * 0 + _ ≤ _; exact Nat.le_of_eq rfl) (hb hby d23_4) (fun _ _ => ⟨rfl, e1, (by first | decide | exact Nat.le_of_ble_eq_true rfl), (by first | decide | exact Nat.le_of_ble_eq_true rfl)⟩)
  dsimp only [Pt.U, Pt.locs, Pt.cells, Pt.slots] at X2 l2 y2 z2 st2 hQ2
  have X2 := own_sn X2 (k' := 0) (n' := 0) y2 z2
  obtain ⟨rfl, N2, e2⟩ := hQ2
  have NF2 := own_fr l2 N0 N2
  refine own_go (fun _ k => st2.trans k) ?_
  show own_Gl p.tables e below F (T2.setTop (mkF m 9 #[.val (.ref u)] [(.int (0 : Int32))]))
  refine own_go (fun _ k => XS.ifYes X2.here hx rfl (pc0 := 9) (pc' := 19) rfl (hb hby d23_9) rfl (XT.i0_eq_t rfl) (by decide) (by decide) k) ?_
  show own_Gl p.tables e below F (T2.setTop (mkF m 19 #[.val (.ref u)] []))
  refine own_go (fun _ k => XS.iconst X2.here hx rfl (hb hby d23_19) k) ?_
  show own_Gl p.tables e below F (T2.setTop (mkF m 20 #[.val (.ref u)] [(.int (1 : Int32))]))
  refine own_go (fun _ k => XS.goto X2.here hx rfl (pc0 := 20) (pc' := 24) rfl (hb hby d23_20) (by decide) (by decide) k) ?_
  show own_Gl p.tables e below F (T2.setTop (mkF m 24 #[.val (.ref u)] [(.int (1 : Int32))]))
  obtain ⟨fs, hr, hrun, hended, hW, hsame⟩ := X2.leave (v := some (.int (1 : Int32))) (fun h => by rw [Bd.returns] at h; cases h)
  subst hF
  refine own_fin ?_ ⟨hrun, hended, _, _, rfl, ?_, ⟨_, rfl⟩, hW, hsame.mono (by first | decide | exact Nat.le_of_ble_eq_true rfl) (by first | decide | exact Nat.le_of_ble_eq_true rfl)⟩
  · exact own_retN X2 hx (t := .boolean) Bd.returns (by simp) rfl (hb hby d23_24) hr
  · show Q_rmHU_1 Z _ _ _ h0 n0 _ T2.heap _
    rw [e2]
    exact ⟨rfl, NF2, rfl⟩
theorem ef_rmHU_2 (m : MethodId) (x0 : Addr) : entryFrame m #[(.ref x0)] 1 = mkF m 0 #[.val (.ref x0)] [] := by first | (simp [entryFrame, mkF, argsToLocals, Value.category]; done) | rfl
def Q_rmHU_2 (Z : State) (u y : Addr) (bb : Int32) (h0 : Heap) (n0 : Nat) (v : Option Value) (h : Heap) (L : List Loc) : Prop := v = some (.int 1) ∧ Fr n0 L ∧ h = h0
set_option maxRecDepth 65536 in
set_option maxHeartbeats 40000000 in
theorem rmHU_2 (l : Launch) (Z : State) (a0 : Array Value) (hw : ∀ d ∈ tables_1, d.before a0 Z = true) (ws : List Jvm.Cond) (u y : Addr) (bb : Int32) (h0 : Heap) (n0 : Nat) (Z0 : n0 ≤ h0.size) (FM : Fld Z h0 u "com/example/brokerwright/brokerwright/kafka/UserLookup" "mechanisms" "Ljava/util/List;" (.ref y)) (FB : Fld Z h0 u "com/example/brokerwright/brokerwright/kafka/UserLookup" "holdsBindings" "Z" (.int bb)) (EY : Exa Z h0 y "java/util/ImmutableCollections$List12") (hb01 : bb = 0 ∨ bb = 1) :
    MetFree l (⟨"com/example/brokerwright/brokerwright/kafka/UserLookup", "holdsUser", "()Z"⟩ : MethodName) (head1 (Jvm.Cond.code (⟨"com/example/brokerwright/brokerwright/kafka/UserLookup", "holdsUser", "()Z"⟩ : MethodName) prog_22_method_2_code 1 (some .boolean) :: ws) ({ frames := 1, cells := 0, slots := 0, locals := 12 } : Room)) (fun ag U => ag = #[(.ref u)] ∧ Z.Warmed39 U.vm ∧ U.heap = h0) (fun _ _ _ _ _ => True) (fun _ U o U' => ∃ v L, o = .returned v ∧ Q_rmHU_2 Z u y bb h0 n0 v U'.heap L ∧ FrameEnd U o U' L ({ frames := 1, cells := 0, slots := 0, locals := 12 } : Room).cells ({ frames := 1, cells := 0, slots := 0, locals := 12 } : Room).slots) := by
  refine MetFree.of_bodySF (plainFor_of_name pn_15) hisR ?_
  intro p e s m args below meth c s₁ Bd hml0 hP hK
  obtain ⟨rfl, hZ, hh⟩ := hP
  have hx := Bd.exec
  have hby := Bd.bytes
  have hml : c.maxLocals = 1 := hml0
  have hown : s.vm.findClass "com/example/brokerwright/brokerwright/kafka/UserLookup" = some m.cls := findClass_of_methodNamed Bd.named
  have hnm := (name_of_methodNamed Bd.named Bd.method).1
  have X0 : Stand p l e ({ frames := 1, cells := 0, slots := 0, locals := 12 } : Room) s m #[(.ref u)] below meth c s₁ [] 0 0 := Stand.of_body Bd
  have e0 : s₁.heap = h0 := by rw [← hh, Bd.state]; rfl
  have N0 := Fr.nil n0
  refine own_start (ef_rmHU_2 m u) ?_
  intro F hF
  show own_Gl p.tables e below F (s₁.setTop (mkF m 0 #[.val (.ref u)] []))
  refine own_go (fun _ k => XS.aloadN X0.here hx rfl (hb hby d23_0) rfl rfl k) ?_
  show own_Gl p.tables e below F (s₁.setTop (mkF m 1 #[.val (.ref u)] [(.ref u)]))
  obtain ⟨T1, X1, e1, st1⟩ := getF X0 hx hZ hown (host := "") (Or.inl (hw _ (List.mem_of_getElem? (i := 126) rfl))) Via.refl e0 FM (g := (mkF m 1 #[.val (.ref u)] [(.ref u)])) rfl rfl (hb hby d23_1)
  refine own_go st1 ?_
  show own_Gl p.tables e below F (T1.setTop (mkF m 4 #[.val (.ref u)] [(.ref y)]))
  obtain ⟨cq2, kq2, q2a, q2b, q2c⟩ := isOf hZ e1 EY
  obtain ⟨_, _, ⟨T2, L2, k2, n2⟩, -, X2, ⟨Lc2, hQ2, l2, y2, z2⟩, st2⟩ := X1.interfaceBack hx (xi := (⟨"java/util/List", "isEmpty", "()Z"⟩ : MethodName)) (y := (⟨"java/util/ImmutableCollections$List12", "isEmpty", "()Z"⟩ : MethodName)) hown (mvT hZ (hw _ (List.mem_of_getElem? (i := 137) rfl))) (mvT hZ (hw _ (List.mem_of_getElem? (i := 138) rfl))) (mvT hZ (hw _ (List.mem_of_getElem? (i := 139) rfl))) (mvT hZ (hw _ (List.mem_of_getElem? (i := 260) rfl))) (mvT hZ (hw _ (List.mem_of_getElem? (i := 261) rfl))) (mvT hZ (hw _ (List.mem_of_getElem? (i := 262) rfl))) (mvT hZ (hw _ (List.mem_of_getElem? (i := 263) rfl))) (mvT hZ (hw _ (List.mem_of_getElem? (i := 264) rfl))) (by decide) (backOf (W := 0) (rm41 l Z a0 hw [] y  h0 n0 Z0 ) hZ (hw _ (List.mem_of_getElem? (i := 265) rfl)) (hw _ (List.mem_of_getElem? (i := 246) rfl)) (by decide) (by decide)) q2a q2b q2c (g := (mkF m 4 #[.val (.ref u)] [(.ref y)])) rfl (by rw [hml]; rfl) (Steps.refl _) (argsL := []) (rest := []) (lenOf pd_16 rfl) rfl (by show 2 * 0 + _ ≤ _; exact Nat.le_of_eq rfl) (hb hby d23_4) (fun _ _ => ⟨rfl, e1, (by first | decide | exact Nat.le_of_ble_eq_true rfl), (by first | decide | exact Nat.le_of_ble_eq_true rfl)⟩)
  dsimp only [Pt.U, Pt.locs, Pt.cells, Pt.slots] at X2 l2 y2 z2 st2 hQ2
  have X2 := own_sn X2 (k' := 0) (n' := 0) y2 z2
  obtain ⟨rfl, N2, e2⟩ := hQ2
  have NF2 := own_fr l2 N0 N2
  refine own_go (fun _ k => st2.trans k) ?_
  show own_Gl p.tables e below F (T2.setTop (mkF m 9 #[.val (.ref u)] [(.int (0 : Int32))]))
  refine own_go (fun _ k => XS.ifYes X2.here hx rfl (pc0 := 9) (pc' := 19) rfl (hb hby d23_9) rfl (XT.i0_eq_t rfl) (by decide) (by decide) k) ?_
  show own_Gl p.tables e below F (T2.setTop (mkF m 19 #[.val (.ref u)] []))
  refine own_go (fun _ k => XS.iconst X2.here hx rfl (hb hby d23_19) k) ?_
  show own_Gl p.tables e below F (T2.setTop (mkF m 20 #[.val (.ref u)] [(.int (1 : Int32))]))
  refine own_go (fun _ k => XS.goto X2.here hx rfl (pc0 := 20) (pc' := 24) rfl (hb hby d23_20) (by decide) (by decide) k) ?_
  show own_Gl p.tables e below F (T2.setTop (mkF m 24 #[.val (.ref u)] [(.int (1 : Int32))]))
  obtain ⟨fs, hr, hrun, hended, hW, hsame⟩ := X2.leave (v := some (.int (1 : Int32))) (fun h => by rw [Bd.returns] at h; cases h)
  subst hF
  refine own_fin ?_ ⟨hrun, hended, _, _, rfl, ?_, ⟨_, rfl⟩, hW, hsame.mono (by first | decide | exact Nat.le_of_ble_eq_true rfl) (by first | decide | exact Nat.le_of_ble_eq_true rfl)⟩
  · exact own_retN X2 hx (t := .boolean) Bd.returns (by simp) rfl (hb hby d23_24) hr
  · show Q_rmHU_2 Z _ _ _ h0 n0 _ T2.heap _
    rw [e2]
    exact ⟨rfl, NF2, rfl⟩
theorem ef_rmHU_3 (m : MethodId) (x0 : Addr) : entryFrame m #[(.ref x0)] 1 = mkF m 0 #[.val (.ref x0)] [] := by first | (simp [entryFrame, mkF, argsToLocals, Value.category]; done) | rfl
def Q_rmHU_3 (Z : State) (u y : Addr) (bb : Int32) (t : Addr) (kt : ClassId) (x0 x1 x2 : Addr) (h0 : Heap) (n0 : Nat) (v : Option Value) (h : Heap) (L : List Loc) : Prop := v = some (.int 1) ∧ Fr n0 L ∧ h = h0
set_option maxRecDepth 65536 in
set_option maxHeartbeats 40000000 in
theorem rmHU_3 (l : Launch) (Z : State) (a0 : Array Value) (hw : ∀ d ∈ tables_1, d.before a0 Z = true) (ws : List Jvm.Cond) (u y : Addr) (bb : Int32) (t : Addr) (kt : ClassId) (x0 x1 x2 : Addr) (h0 : Heap) (n0 : Nat) (Z0 : n0 ≤ h0.size) (FM : Fld Z h0 u "com/example/brokerwright/brokerwright/kafka/UserLookup" "mechanisms" "Ljava/util/List;" (.ref y)) (FB : Fld Z h0 u "com/example/brokerwright/brokerwright/kafka/UserLookup" "holdsBindings" "Z" (.int bb)) (EY : Exa Z h0 y "java/util/ImmutableCollections$ListN") (hb01 : bb = 0 ∨ bb = 1) (FE : Fld Z h0 y "java/util/ImmutableCollections$ListN" "elements" "[Ljava/lang/Object;" (.ref t)) (VT : Arv Z h0 t kt (.object "java/lang/Object") 3 [(.ref x0), (.ref x1), (.ref x2)] .null) :
    MetFree l (⟨"com/example/brokerwright/brokerwright/kafka/UserLookup", "holdsUser", "()Z"⟩ : MethodName) (head1 (Jvm.Cond.code (⟨"com/example/brokerwright/brokerwright/kafka/UserLookup", "holdsUser", "()Z"⟩ : MethodName) prog_22_method_2_code 1 (some .boolean) :: ws) ({ frames := 1, cells := 0, slots := 0, locals := 12 } : Room)) (fun ag U => ag = #[(.ref u)] ∧ Z.Warmed39 U.vm ∧ U.heap = h0) (fun _ _ _ _ _ => True) (fun _ U o U' => ∃ v L, o = .returned v ∧ Q_rmHU_3 Z u y bb t kt x0 x1 x2 h0 n0 v U'.heap L ∧ FrameEnd U o U' L ({ frames := 1, cells := 0, slots := 0, locals := 12 } : Room).cells ({ frames := 1, cells := 0, slots := 0, locals := 12 } : Room).slots) := by
  refine MetFree.of_bodySF (plainFor_of_name pn_15) hisR ?_
  intro p e s m args below meth c s₁ Bd hml0 hP hK
  obtain ⟨rfl, hZ, hh⟩ := hP
  have hx := Bd.exec
  have hby := Bd.bytes
  have hml : c.maxLocals = 1 := hml0
  have hown : s.vm.findClass "com/example/brokerwright/brokerwright/kafka/UserLookup" = some m.cls := findClass_of_methodNamed Bd.named
  have hnm := (name_of_methodNamed Bd.named Bd.method).1
  have X0 : Stand p l e ({ frames := 1, cells := 0, slots := 0, locals := 12 } : Room) s m #[(.ref u)] below meth c s₁ [] 0 0 := Stand.of_body Bd
  have e0 : s₁.heap = h0 := by rw [← hh, Bd.state]; rfl
  have N0 := Fr.nil n0
  refine own_start (ef_rmHU_3 m u) ?_
  intro F hF
  show own_Gl p.tables e below F (s₁.setTop (mkF m 0 #[.val (.ref u)] []))
  refine own_go (fun _ k => XS.aloadN X0.here hx rfl (hb hby d23_0) rfl rfl k) ?_
  show own_Gl p.tables e below F (s₁.setTop (mkF m 1 #[.val (.ref u)] [(.ref u)]))
  obtain ⟨T1, X1, e1, st1⟩ := getF X0 hx hZ hown (host := "") (Or.inl (hw _ (List.mem_of_getElem? (i := 126) rfl))) Via.refl e0 FM (g := (mkF m 1 #[.val (.ref u)] [(.ref u)])) rfl rfl (hb hby d23_1)
  refine own_go st1 ?_
  show own_Gl p.tables e below F (T1.setTop (mkF m 4 #[.val (.ref u)] [(.ref y)]))
  obtain ⟨cq2, kq2, q2a, q2b, q2c⟩ := isOf hZ e1 EY
  obtain ⟨_, _, ⟨T2, L2, k2, n2⟩, -, X2, ⟨Lc2, hQ2, l2, y2, z2⟩, st2⟩ := X1.interfaceBack hx (xi := (⟨"java/util/List", "isEmpty", "()Z"⟩ : MethodName)) (y := (⟨"java/util/ImmutableCollections$ListN", "isEmpty", "()Z"⟩ : MethodName)) hown (mvT hZ (hw _ (List.mem_of_getElem? (i := 137) rfl))) (mvT hZ (hw _ (List.mem_of_getElem? (i := 138) rfl))) (mvT hZ (hw _ (List.mem_of_getElem? (i := 139) rfl))) (mvT hZ (hw _ (List.mem_of_getElem? (i := 140) rfl))) (mvT hZ (hw _ (List.mem_of_getElem? (i := 141) rfl))) (mvT hZ (hw _ (List.mem_of_getElem? (i := 142) rfl))) (mvT hZ (hw _ (List.mem_of_getElem? (i := 143) rfl))) (mvT hZ (hw _ (List.mem_of_getElem? (i := 144) rfl))) (by decide) (backOf (W := 0) (rmNE_3 l Z a0 hw [] y t kt x0 x1 x2 h0 n0 Z0 FE VT) hZ (hw _ (List.mem_of_getElem? (i := 146) rfl)) (hw _ (List.mem_of_getElem? (i := 145) rfl)) (by decide) (by decide)) q2a q2b q2c (g := (mkF m 4 #[.val (.ref u)] [(.ref y)])) rfl (by rw [hml]; rfl) (Steps.refl _) (argsL := []) (rest := []) (lenOf pd_16 rfl) rfl (by show 2 * 0 + _ ≤ _; exact Nat.le_of_eq rfl) (hb hby d23_4) (fun _ _ => ⟨rfl, e1, (by first | decide | exact Nat.le_of_ble_eq_true rfl), (by first | decide | exact Nat.le_of_ble_eq_true rfl)⟩)
  dsimp only [Pt.U, Pt.locs, Pt.cells, Pt.slots] at X2 l2 y2 z2 st2 hQ2
  have X2 := own_sn X2 (k' := 0) (n' := 0) y2 z2
  obtain ⟨rfl, N2, e2⟩ := hQ2
  have NF2 := own_fr l2 N0 N2
  refine own_go (fun _ k => st2.trans k) ?_
  show own_Gl p.tables e below F (T2.setTop (mkF m 9 #[.val (.ref u)] [(.int (0 : Int32))]))
  refine own_go (fun _ k => XS.ifYes X2.here hx rfl (pc0 := 9) (pc' := 19) rfl (hb hby d23_9) rfl (XT.i0_eq_t rfl) (by decide) (by decide) k) ?_
  show own_Gl p.tables e below F (T2.setTop (mkF m 19 #[.val (.ref u)] []))
  refine own_go (fun _ k => XS.iconst X2.here hx rfl (hb hby d23_19) k) ?_
  show own_Gl p.tables e below F (T2.setTop (mkF m 20 #[.val (.ref u)] [(.int (1 : Int32))]))
  refine own_go (fun _ k => XS.goto X2.here hx rfl (pc0 := 20) (pc' := 24) rfl (hb hby d23_20) (by decide) (by decide) k) ?_
  show own_Gl p.tables e below F (T2.setTop (mkF m 24 #[.val (.ref u)] [(.int (1 : Int32))]))
  obtain ⟨fs, hr, hrun, hended, hW, hsame⟩ := X2.leave (v := some (.int (1 : Int32))) (fun h => by rw [Bd.returns] at h; cases h)
  subst hF
  refine own_fin ?_ ⟨hrun, hended, _, _, rfl, ?_, ⟨_, rfl⟩, hW, hsame.mono (by first | decide | exact Nat.le_of_ble_eq_true rfl) (by first | decide | exact Nat.le_of_ble_eq_true rfl)⟩
  · exact own_retN X2 hx (t := .boolean) Bd.returns (by simp) rfl (hb hby d23_24) hr
  · show Q_rmHU_3 Z _ _ _ _ _ _ _ _ h0 n0 _ T2.heap _
    rw [e2]
    exact ⟨rfl, NF2, rfl⟩
theorem ef_rm0 (m : MethodId) (x0 : Int32) (x1 : Int32) (x2 : Int32) (x3 : Int32) (x4 : Int32) : entryFrame m #[(.int x0), (.int x1), (.int x2), (.int x3), (.int x4)] maxLocals = mkF m 0 #[.val (.int x0), .val (.int x1), .val (.int x2), .val (.int x3), .val (.int x4), .unset, .unset, .unset, .unset, .unset, .unset, .unset, .unset, .unset, .unset] [] := by first | (simp [entryFrame, mkF, argsToLocals, Value.category, maxLocals]; done) | rfl
theorem pn_16 : plainName "com/example/brokerwright/brokerwright/kafka/UserLookupHoldsUserPinLaw" = true := by first | (simp [plainName, overriddenIn]; done) | decide +kernel
theorem pd_19 : parseMethodDescriptor "([C)V" = some ⟨[(.array .char)], none⟩ := by decide +kernel
theorem pd_20 : parseMethodDescriptor "(C)Ljava/lang/String;" = some ⟨[.char], some (.object "java/lang/String")⟩ := by decide +kernel
theorem pd_21 : parseMethodDescriptor "(Ljava/util/List;ZLjava/util/Optional;)V" = some ⟨[(.object "java/util/List"), .boolean, (.object "java/util/Optional")], none⟩ := by decide +kernel
theorem pd_22 : parseMethodDescriptor "()Ljava/util/Optional;" = some ⟨[], some (.object "java/util/Optional")⟩ := by decide +kernel
theorem pd_23 : parseMethodDescriptor "(Ljava/lang/Object;)Ljava/util/Optional;" = some ⟨[(.object "java/lang/Object")], some (.object "java/util/Optional")⟩ := by decide +kernel
theorem pd_24 : parseMethodDescriptor "(Ljava/lang/Object;)Z" = some ⟨[(.object "java/lang/Object")], some .boolean⟩ := by decide +kernel
def Q_rm0 (Z : State) (p1 p2 p3 p4 p5 zc : Int32) (dc : Addr) (kd : ClassId) (mi el em oe te : Addr) (ke : ClassId) (h0 : Heap) (n0 : Nat) (v : Option Value) (h : Heap) (L : List Loc) : Prop := v = some (.int 1) ∧ Fr n0 L
set_option maxRecDepth 65536 in
set_option maxHeartbeats 40000000 in
theorem rm0 (l : Launch) (Z : State) (a0 : Array Value) (hw : ∀ d ∈ tables_1, d.before a0 Z = true) (ws : List Jvm.Cond) (p1 p2 p3 p4 p5 zc : Int32) (dc : Addr) (kd : ClassId) (mi el em oe te : Addr) (ke : ClassId) (h0 : Heap) (n0 : Nat) (Z0 : n0 ≤ h0.size) (OO : Old Z n0 h0) (O2 : Sta Z Z.heap "java/lang/String" "COMPACT_STRINGS" "Z" (.int zc)) (P5 : ¬ zc = 0) (SD : Sta Z Z.heap "java/util/ArrayList" "DEFAULTCAPACITY_EMPTY_ELEMENTDATA" "[Ljava/lang/Object;" (.ref dc)) (VD : Arv Z Z.heap dc kd (.object "java/lang/Object") 0 [] .null) (MI : Mir Z "[Ljava/lang/Object;" mi) (SL : Sta Z Z.heap "java/util/ImmutableCollections" "EMPTY_LIST" "Ljava/util/ImmutableCollections$ListN;" (.ref el)) (SM : Sta Z Z.heap "java/util/ImmutableCollections" "EMPTY" "Ljava/lang/Object;" (.ref em)) (SE : Sta Z Z.heap "java/util/Optional" "EMPTY" "Ljava/util/Optional;" (.ref oe)) (XL : Exa Z Z.heap el "java/util/ImmutableCollections$ListN") (FL : Fld Z Z.heap el "java/util/ImmutableCollections$ListN" "elements" "[Ljava/lang/Object;" (.ref te)) (VL : Arv Z Z.heap te ke (.object "java/lang/Object") 0 [] .null) :
    MetFree l x (head1 (Jvm.Cond.code x code maxLocals ret :: ws) room_1) (fun ag U => ag = #[(.int p1), (.int p2), (.int p3), (.int p4), (.int p5)] ∧ Z.Warmed39 U.vm ∧ U.heap = h0 ∧ CHv Z own_EL U.vm h0) (fun _ _ _ _ _ => True) (fun _ U o U' => ∃ v L, o = .returned v ∧ Q_rm0 Z p1 p2 p3 p4 p5 zc dc kd mi el em oe te ke h0 n0 v U'.heap L ∧ CHr Z own_EL U.vm U.heap U'.vm U'.heap ∧ ReturnedEndW U o U' L room_1.cells room_1.slots) := by
  refine MetFree.of_bodySF (plainFor_of_name pn_16) hisR ?_
  intro p e s m args below meth c s₁ Bd hml0 hP hK
  obtain ⟨rfl, hZ, hh, hCH⟩ := hP
  have hx := Bd.exec
  have hby := Bd.bytes
  have hml : c.maxLocals = 15 := hml0
  have hown : s.vm.findClass "com/example/brokerwright/brokerwright/kafka/UserLookupHoldsUserPinLaw" = some m.cls := findClass_of_methodNamed Bd.named
  have hnm := (name_of_methodNamed Bd.named Bd.method).1
  have hZ0 : Z.Warmed39 (s.setVm s.vm).vm := hZ
  have hown0 : (s.setVm s.vm).vm.findClass "com/example/brokerwright/brokerwright/kafka/UserLookupHoldsUserPinLaw" = some m.cls := hown
  have hS0 : s.Since s.vm 0 := (State.WarmedH.refl s).since 0
  have hk0 : 0 ≤ h0.size := Nat.zero_le _
  have CR0 : CHr Z own_EL s.vm h0 s.vm h0 := CHr.refl hCH
  have hEL : EW Z a0 own_EL := own_hEL hw
  have wS := own_wS hw
  have X0 : Stand p l e room_1 (s.setVm s.vm) m #[(.int p1), (.int p2), (.int p3), (.int p4), (.int p5)] below meth c s₁ [] 0 0 := Stand.of_body Bd
  have e0 : s₁.heap = h0 := by rw [← hh, Bd.state]; rfl
  have N0 := Fr.nil n0
  refine own_start (ef_rm0 m p1 p2 p3 p4 p5) ?_
  intro F hF
  show own_Gl p.tables e below F (s₁.setTop (mkF m 0 #[.val (.int p1), .val (.int p2), .val (.int p3), .val (.int p4), .val (.int p5), .unset, .unset, .unset, .unset, .unset, .unset, .unset, .unset, .unset, .unset] []))
  have hws : ∀ d ∈ StrChars.Road.words, d.before a0 Z = true := fun d hd => hw d ((by decide +kernel : ∀ d ∈ StrChars.Road.words, d ∈ tables_1) d hd)
  refine own_go (fun _ k => XS.iloadN X0.here hx rfl (hb hby at_0) rfl k) ?_
  show own_Gl p.tables e below F (s₁.setTop (mkF m 1 #[.val (.int p1), .val (.int p2), .val (.int p3), .val (.int p4), .val (.int p5), .unset, .unset, .unset, .unset, .unset, .unset, .unset, .unset, .unset, .unset] [(.int p1)]))
  refine own_go (fun _ k => XS.iconst X0.here hx rfl (hb hby at_1) k) ?_
  show own_Gl p.tables e below F (s₁.setTop (mkF m 2 #[.val (.int p1), .val (.int p2), .val (.int p3), .val (.int p4), .val (.int p5), .unset, .unset, .unset, .unset, .unset, .unset, .unset, .unset, .unset, .unset] [(.int (3 : Int32)), (.int p1)]))
  refine own_go (fun _ k => XS.iand X0.here hx rfl (hb hby at_2) rfl k) ?_
  show own_Gl p.tables e below F (s₁.setTop (mkF m 3 #[.val (.int p1), .val (.int p2), .val (.int p3), .val (.int p4), .val (.int p5), .unset, .unset, .unset, .unset, .unset, .unset, .unset, .unset, .unset, .unset] [(.int (p1 &&& (3 : Int32)))]))
  have hm := own_m p1
  generalize (p1 &&& (3 : Int32)) = nn at hm ⊢
  show own_Gl p.tables e below F (s₁.setTop (mkF m 3 #[.val (.int p1), .val (.int p2), .val (.int p3), .val (.int p4), .val (.int p5), .unset, .unset, .unset, .unset, .unset, .unset, .unset, .unset, .unset, .unset] [(.int nn)]))
  refine own_go (fun _ k => XS.istore X0.here hx rfl (hb hby at_3) rfl (l' := #[.val (.int p1), .val (.int p2), .val (.int p3), .val (.int p4), .val (.int p5), .val (.int nn), .unset, .unset, .unset, .unset, .unset, .unset, .unset, .unset, .unset]) rfl k) ?_
  show own_Gl p.tables e below F (s₁.setTop (mkF m 5 #[.val (.int p1), .val (.int p2), .val (.int p3), .val (.int p4), .val (.int p5), .val (.int nn), .unset, .unset, .unset, .unset, .unset, .unset, .unset, .unset, .unset] []))
  refine own_go (fun _ k => XS.iloadN X0.here hx rfl (hb hby at_5) rfl k) ?_
  show own_Gl p.tables e below F (s₁.setTop (mkF m 6 #[.val (.int p1), .val (.int p2), .val (.int p3), .val (.int p4), .val (.int p5), .val (.int nn), .unset, .unset, .unset, .unset, .unset, .unset, .unset, .unset, .unset] [(.int p2)]))
  refine own_go (fun _ k => XS.iconst X0.here hx rfl (hb hby at_6) k) ?_
  show own_Gl p.tables e below F (s₁.setTop (mkF m 7 #[.val (.int p1), .val (.int p2), .val (.int p3), .val (.int p4), .val (.int p5), .val (.int nn), .unset, .unset, .unset, .unset, .unset, .unset, .unset, .unset, .unset] [(.int (1 : Int32)), (.int p2)]))
  refine own_go (fun _ k => XS.iand X0.here hx rfl (hb hby at_7) rfl k) ?_
  show own_Gl p.tables e below F (s₁.setTop (mkF m 8 #[.val (.int p1), .val (.int p2), .val (.int p3), .val (.int p4), .val (.int p5), .val (.int nn), .unset, .unset, .unset, .unset, .unset, .unset, .unset, .unset, .unset] [(.int (p2 &&& (1 : Int32)))]))
  refine own_go (st' := s₁.setTop (mkF m 16 #[.val (.int p1), .val (.int p2), .val (.int p3), .val (.int p4), .val (.int p5), .val (.int nn), .unset, .unset, .unset, .unset, .unset, .unset, .unset, .unset, .unset] [(.int (if (p2 &&& (1 : Int32)) = 0 then (0 : Int32) else (1 : Int32)))])) (fun t k => ?_) ?_
  · by_cases hc : (p2 &&& (1 : Int32)) = 0
    · simp only [if_pos hc] at k
      refine XS.ifYes X0.here hx rfl (pc0 := 8) (pc' := 15) rfl (hb hby at_8) rfl (XT.i0_eq_t hc) (by decide) (by decide) ?_
      show Steps p.tables e below (s₁.setTop (mkF m 15 #[.val (.int p1), .val (.int p2), .val (.int p3), .val (.int p4), .val (.int p5), .val (.int nn), .unset, .unset, .unset, .unset, .unset, .unset, .unset, .unset, .unset] [])) _
      refine XS.iconst X0.here hx rfl (hb hby at_15) ?_
      show Steps p.tables e below (s₁.setTop (mkF m 16 #[.val (.int p1), .val (.int p2), .val (.int p3), .val (.int p4), .val (.int p5), .val (.int nn), .unset, .unset, .unset, .unset, .unset, .unset, .unset, .unset, .unset] [(.int (0 : Int32))])) _
      first | exact k | (simp only [if_pos hc]; exact k)
    · simp only [if_neg hc] at k
      refine XS.ifNo X0.here hx rfl (hb hby at_8) rfl (XT.i0_eq_f hc) ?_
      show Steps p.tables e below (s₁.setTop (mkF m 11 #[.val (.int p1), .val (.int p2), .val (.int p3), .val (.int p4), .val (.int p5), .val (.int nn), .unset, .unset, .unset, .unset, .unset, .unset, .unset, .unset, .unset] [])) _
      refine XS.iconst X0.here hx rfl (hb hby at_11) ?_
      show Steps p.tables e below (s₁.setTop (mkF m 12 #[.val (.int p1), .val (.int p2), .val (.int p3), .val (.int p4), .val (.int p5), .val (.int nn), .unset, .unset, .unset, .unset, .unset, .unset, .unset, .unset, .unset] [(.int (1 : Int32))])) _
      refine XS.goto X0.here hx rfl (pc0 := 12) (pc' := 16) rfl (hb hby at_12) (by decide) (by decide) ?_
      show Steps p.tables e below (s₁.setTop (mkF m 16 #[.val (.int p1), .val (.int p2), .val (.int p3), .val (.int p4), .val (.int p5), .val (.int nn), .unset, .unset, .unset, .unset, .unset, .unset, .unset, .unset, .unset] [(.int (1 : Int32))])) _
      first | exact k | (simp only [if_neg hc]; exact k)
  show own_Gl p.tables e below F (s₁.setTop (mkF m 16 #[.val (.int p1), .val (.int p2), .val (.int p3), .val (.int p4), .val (.int p5), .val (.int nn), .unset, .unset, .unset, .unset, .unset, .unset, .unset, .unset, .unset] [(.int (if (p2 &&& (1 : Int32)) = 0 then (0 : Int32) else (1 : Int32)))]))
  have hbb := own_bit (q := (p2 &&& (1 : Int32)) = 0)
  have jbb := own_bit01 (q := (p2 &&& (1 : Int32)) = 0)
  generalize (if (p2 &&& (1 : Int32)) = 0 then (0 : Int32) else (1 : Int32)) = bb at hbb jbb ⊢
  show own_Gl p.tables e below F (s₁.setTop (mkF m 16 #[.val (.int p1), .val (.int p2), .val (.int p3), .val (.int p4), .val (.int p5), .val (.int nn), .unset, .unset, .unset, .unset, .unset, .unset, .unset, .unset, .unset] [(.int bb)]))
  refine own_go (fun _ k => XS.istore X0.here hx rfl (hb hby at_16) rfl (l' := #[.val (.int p1), .val (.int p2), .val (.int p3), .val (.int p4), .val (.int p5), .val (.int nn), .val (.int bb), .unset, .unset, .unset, .unset, .unset, .unset, .unset, .unset]) rfl k) ?_
  show own_Gl p.tables e below F (s₁.setTop (mkF m 18 #[.val (.int p1), .val (.int p2), .val (.int p3), .val (.int p4), .val (.int p5), .val (.int nn), .val (.int bb), .unset, .unset, .unset, .unset, .unset, .unset, .unset, .unset] []))
  refine own_go (fun _ k => XS.iloadN X0.here hx rfl (hb hby at_18) rfl k) ?_
  show own_Gl p.tables e below F (s₁.setTop (mkF m 19 #[.val (.int p1), .val (.int p2), .val (.int p3), .val (.int p4), .val (.int p5), .val (.int nn), .val (.int bb), .unset, .unset, .unset, .unset, .unset, .unset, .unset, .unset] [(.int p2)]))
  refine own_go (fun _ k => XS.iconst X0.here hx rfl (hb hby at_19) k) ?_
  show own_Gl p.tables e below F (s₁.setTop (mkF m 20 #[.val (.int p1), .val (.int p2), .val (.int p3), .val (.int p4), .val (.int p5), .val (.int nn), .val (.int bb), .unset, .unset, .unset, .unset, .unset, .unset, .unset, .unset] [(.int (2 : Int32)), (.int p2)]))
  refine own_go (fun _ k => XS.iand X0.here hx rfl (hb hby at_20) rfl k) ?_
  show own_Gl p.tables e below F (s₁.setTop (mkF m 21 #[.val (.int p1), .val (.int p2), .val (.int p3), .val (.int p4), .val (.int p5), .val (.int nn), .val (.int bb), .unset, .unset, .unset, .unset, .unset, .unset, .unset, .unset] [(.int (p2 &&& (2 : Int32)))]))
  refine own_go (st' := s₁.setTop (mkF m 29 #[.val (.int p1), .val (.int p2), .val (.int p3), .val (.int p4), .val (.int p5), .val (.int nn), .val (.int bb), .unset, .unset, .unset, .unset, .unset, .unset, .unset, .unset] [(.int (if (p2 &&& (2 : Int32)) = 0 then (0 : Int32) else (1 : Int32)))])) (fun t k => ?_) ?_
  · by_cases hc : (p2 &&& (2 : Int32)) = 0
    · simp only [if_pos hc] at k
      refine XS.ifYes X0.here hx rfl (pc0 := 21) (pc' := 28) rfl (hb hby at_21) rfl (XT.i0_eq_t hc) (by decide) (by decide) ?_
      show Steps p.tables e below (s₁.setTop (mkF m 28 #[.val (.int p1), .val (.int p2), .val (.int p3), .val (.int p4), .val (.int p5), .val (.int nn), .val (.int bb), .unset, .unset, .unset, .unset, .unset, .unset, .unset, .unset] [])) _
      refine XS.iconst X0.here hx rfl (hb hby at_28) ?_
      show Steps p.tables e below (s₁.setTop (mkF m 29 #[.val (.int p1), .val (.int p2), .val (.int p3), .val (.int p4), .val (.int p5), .val (.int nn), .val (.int bb), .unset, .unset, .unset, .unset, .unset, .unset, .unset, .unset] [(.int (0 : Int32))])) _
      first | exact k | (simp only [if_pos hc]; exact k)
    · simp only [if_neg hc] at k
      refine XS.ifNo X0.here hx rfl (hb hby at_21) rfl (XT.i0_eq_f hc) ?_
      show Steps p.tables e below (s₁.setTop (mkF m 24 #[.val (.int p1), .val (.int p2), .val (.int p3), .val (.int p4), .val (.int p5), .val (.int nn), .val (.int bb), .unset, .unset, .unset, .unset, .unset, .unset, .unset, .unset] [])) _
      refine XS.iconst X0.here hx rfl (hb hby at_24) ?_
      show Steps p.tables e below (s₁.setTop (mkF m 25 #[.val (.int p1), .val (.int p2), .val (.int p3), .val (.int p4), .val (.int p5), .val (.int nn), .val (.int bb), .unset, .unset, .unset, .unset, .unset, .unset, .unset, .unset] [(.int (1 : Int32))])) _
      refine XS.goto X0.here hx rfl (pc0 := 25) (pc' := 29) rfl (hb hby at_25) (by decide) (by decide) ?_
      show Steps p.tables e below (s₁.setTop (mkF m 29 #[.val (.int p1), .val (.int p2), .val (.int p3), .val (.int p4), .val (.int p5), .val (.int nn), .val (.int bb), .unset, .unset, .unset, .unset, .unset, .unset, .unset, .unset] [(.int (1 : Int32))])) _
      first | exact k | (simp only [if_neg hc]; exact k)
  show own_Gl p.tables e below F (s₁.setTop (mkF m 29 #[.val (.int p1), .val (.int p2), .val (.int p3), .val (.int p4), .val (.int p5), .val (.int nn), .val (.int bb), .unset, .unset, .unset, .unset, .unset, .unset, .unset, .unset] [(.int (if (p2 &&& (2 : Int32)) = 0 then (0 : Int32) else (1 : Int32)))]))
  have hrf := own_bit (q := (p2 &&& (2 : Int32)) = 0)
  have jrf := own_bit01 (q := (p2 &&& (2 : Int32)) = 0)
  generalize (if (p2 &&& (2 : Int32)) = 0 then (0 : Int32) else (1 : Int32)) = rf at hrf jrf ⊢
  show own_Gl p.tables e below F (s₁.setTop (mkF m 29 #[.val (.int p1), .val (.int p2), .val (.int p3), .val (.int p4), .val (.int p5), .val (.int nn), .val (.int bb), .unset, .unset, .unset, .unset, .unset, .unset, .unset, .unset] [(.int rf)]))
  refine own_go (fun _ k => XS.istore X0.here hx rfl (hb hby at_29) rfl (l' := #[.val (.int p1), .val (.int p2), .val (.int p3), .val (.int p4), .val (.int p5), .val (.int nn), .val (.int bb), .val (.int rf), .unset, .unset, .unset, .unset, .unset, .unset, .unset]) rfl k) ?_
  show own_Gl p.tables e below F (s₁.setTop (mkF m 31 #[.val (.int p1), .val (.int p2), .val (.int p3), .val (.int p4), .val (.int p5), .val (.int nn), .val (.int bb), .val (.int rf), .unset, .unset, .unset, .unset, .unset, .unset, .unset] []))
  obtain ⟨T1, h1, X1, e1, E1, A1, D1, -, st1⟩ := newO X0 hx hZ0 hown0 (hw _ (List.mem_of_getElem? (i := 0) rfl)) (hw _ (List.mem_of_getElem? (i := 1) rfl)) (hw _ (List.mem_of_getElem? (i := 2) rfl)) e0 (g := (mkF m 31 #[.val (.int p1), .val (.int p2), .val (.int p3), .val (.int p4), .val (.int p5), .val (.int nn), .val (.int bb), .val (.int rf), .unset, .unset, .unset, .unset, .unset, .unset, .unset] [])) rfl (hb hby at_31) (by first | decide | exact Nat.le_of_ble_eq_true rfl) (by first | decide | exact Nat.le_of_ble_eq_true rfl)
  obtain ⟨b1, g1⟩ : ∃ z, z = h0.size := ⟨_, rfl⟩
  rw [← g1] at A1 D1 st1
  have ge_b1 : n0 ≤ b1 := Nat.le_trans Z0 (Nat.le_of_eq g1.symm)
  have sz_b1 : h0.size ≤ b1 := Nat.le_trans ((Keep.refl h0 [])).1 (Nat.le_of_eq g1.symm)
  have sf_b1 := Safe.ext E1 CR0.1 (Safe.new (Z := Z) (EL := own_EL) (vm := s.vm) (Nat.le_of_eq g1.symm))
  have f1_0 := OO.ext E1
  have Z1 : n0 ≤ h1.size := Nat.le_trans Z0 E1.1
  have K1 := Keep.ext (Keep.refl h0 []) E1
  have CR1 := CR0.trans (CHr.ext E1 CR0.1)
  have hk1 : 0 ≤ h1.size := Nat.le_trans hk0 E1.1
  have F1_coder : Fld Z h1 b1 "java/lang/String" "coder" "B" (.int (0 : Int32)) := D1 (Or.inr (hw _ (List.mem_of_getElem? (i := 27) rfl))) (ty := .byte) (by decide)
  have F1_value : Fld Z h1 b1 "java/lang/String" "value" "[B" .null := D1 (Or.inr (hw _ (List.mem_of_getElem? (i := 29) rfl))) (ty := (.array .byte)) (by decide)
  have X1 : Stand _ _ _ _ _ _ _ _ _ _ _ _ 1 4 := X1
  refine own_go st1 ?_
  show own_Gl p.tables e below F (T1.setTop (mkF m 34 #[.val (.int p1), .val (.int p2), .val (.int p3), .val (.int p4), .val (.int p5), .val (.int nn), .val (.int bb), .val (.int rf), .unset, .unset, .unset, .unset, .unset, .unset, .unset] [(.ref b1)]))
  refine own_go (fun _ k => XS.dup X1.here hx rfl (hb hby at_34) rfl rfl k) ?_
  show own_Gl p.tables e below F (T1.setTop (mkF m 35 #[.val (.int p1), .val (.int p2), .val (.int p3), .val (.int p4), .val (.int p5), .val (.int nn), .val (.int bb), .val (.int rf), .unset, .unset, .unset, .unset, .unset, .unset, .unset] [(.ref b1), (.ref b1)]))
  refine own_go (fun _ k => XS.iconst X1.here hx rfl (hb hby at_35) k) ?_
  show own_Gl p.tables e below F (T1.setTop (mkF m 36 #[.val (.int p1), .val (.int p2), .val (.int p3), .val (.int p4), .val (.int p5), .val (.int nn), .val (.int bb), .val (.int rf), .unset, .unset, .unset, .unset, .unset, .unset, .unset] [(.int (2 : Int32)), (.ref b1), (.ref b1)]))
  obtain ⟨T2, h2, k2, X2, e2, E2, A2, st2⟩ := newP X1 hx hZ0 (hw _ (List.mem_of_getElem? (i := 3) rfl)) e1 (g := (mkF m 36 #[.val (.int p1), .val (.int p2), .val (.int p3), .val (.int p4), .val (.int p5), .val (.int nn), .val (.int bb), .val (.int rf), .unset, .unset, .unset, .unset, .unset, .unset, .unset] [(.int (2 : Int32)), (.ref b1), (.ref b1)])) rfl (hb hby at_36) rfl (by decide) (cap := 2) (by decide) (by decide) (by decide) (by decide)
  obtain ⟨b2, g2⟩ : ∃ z, z = h1.size := ⟨_, rfl⟩
  rw [← g2] at A2 st2
  have ne_b1_b2 : b1 ≠ b2 := Nat.ne_of_lt (Nat.lt_of_lt_of_le A1.lt (Nat.le_of_eq g2.symm))
  have ge_b2 : n0 ≤ b2 := Nat.le_trans Z1 (Nat.le_of_eq g2.symm)
  have sz_b2 : h0.size ≤ b2 := Nat.le_trans (K1).1 (Nat.le_of_eq g2.symm)
  have sf_b2 := Safe.ext E2 CR1.1 (Safe.new (Z := Z) (EL := own_EL) (vm := s.vm) (Nat.le_of_eq g2.symm))
  have f2_0 := f1_0.ext E2
  have f2_1 := A1.ext E2
  have f2_2 := F1_coder.ext E2
  have f2_3 := F1_value.ext E2
  have Z2 : n0 ≤ h2.size := Nat.le_trans Z1 E2.1
  have K2 := Keep.ext K1 E2
  have sf2_0 := Safe.ext E2 CR1.1 sf_b1
  have CR2 := CR1.trans (CHr.ext E2 CR1.1)
  have hk2 : 0 ≤ h2.size := Nat.le_trans hk1 E2.1
  have V2 : Arv Z h2 b2 k2 .char (2 : Int32) [(.int (0 : Int32)), (.int (0 : Int32))] (.int (0 : Int32)) := (Arv.new A2 (by decide)).pad (pad_rep [] (.int (0 : Int32)) 2)
  have X2 : Stand _ _ _ _ _ _ _ _ _ _ _ _ 2 6 := X2
  refine own_go st2 ?_
  show own_Gl p.tables e below F (T2.setTop (mkF m 38 #[.val (.int p1), .val (.int p2), .val (.int p3), .val (.int p4), .val (.int p5), .val (.int nn), .val (.int bb), .val (.int rf), .unset, .unset, .unset, .unset, .unset, .unset, .unset] [(.ref b2), (.ref b1), (.ref b1)]))
  refine own_go (fun _ k => XS.dup X2.here hx rfl (hb hby at_38) rfl rfl k) ?_
  show own_Gl p.tables e below F (T2.setTop (mkF m 39 #[.val (.int p1), .val (.int p2), .val (.int p3), .val (.int p4), .val (.int p5), .val (.int nn), .val (.int bb), .val (.int rf), .unset, .unset, .unset, .unset, .unset, .unset, .unset] [(.ref b2), (.ref b2), (.ref b1), (.ref b1)]))
  refine own_go (fun _ k => XS.iconst X2.here hx rfl (hb hby at_39) k) ?_
  show own_Gl p.tables e below F (T2.setTop (mkF m 40 #[.val (.int p1), .val (.int p2), .val (.int p3), .val (.int p4), .val (.int p5), .val (.int nn), .val (.int bb), .val (.int rf), .unset, .unset, .unset, .unset, .unset, .unset, .unset] [(.int (0 : Int32)), (.ref b2), (.ref b2), (.ref b1), (.ref b1)]))
  refine own_go (fun _ k => XS.iloadN X2.here hx rfl (hb hby at_40) rfl k) ?_
  show own_Gl p.tables e below F (T2.setTop (mkF m 41 #[.val (.int p1), .val (.int p2), .val (.int p3), .val (.int p4), .val (.int p5), .val (.int nn), .val (.int bb), .val (.int rf), .unset, .unset, .unset, .unset, .unset, .unset, .unset] [(.int p3), (.int (0 : Int32)), (.ref b2), (.ref b2), (.ref b1), (.ref b1)]))
  refine own_go (fun _ k => XS.sipush X2.here hx rfl (hb hby at_41) k) ?_
  show own_Gl p.tables e below F (T2.setTop (mkF m 44 #[.val (.int p1), .val (.int p2), .val (.int p3), .val (.int p4), .val (.int p5), .val (.int nn), .val (.int bb), .val (.int rf), .unset, .unset, .unset, .unset, .unset, .unset, .unset] [(.int (255 : Int32)), (.int p3), (.int (0 : Int32)), (.ref b2), (.ref b2), (.ref b1), (.ref b1)]))
  refine own_go (fun _ k => XS.iand X2.here hx rfl (hb hby at_44) rfl k) ?_
  show own_Gl p.tables e below F (T2.setTop (mkF m 45 #[.val (.int p1), .val (.int p2), .val (.int p3), .val (.int p4), .val (.int p5), .val (.int nn), .val (.int bb), .val (.int rf), .unset, .unset, .unset, .unset, .unset, .unset, .unset] [(.int (p3 &&& (255 : Int32))), (.int (0 : Int32)), (.ref b2), (.ref b2), (.ref b1), (.ref b1)]))
  refine own_go (fun _ k => XS.i2c X2.here hx rfl (hb hby at_45) rfl k) ?_
  show own_Gl p.tables e below F (T2.setTop (mkF m 46 #[.val (.int p1), .val (.int p2), .val (.int p3), .val (.int p4), .val (.int p5), .val (.int nn), .val (.int bb), .val (.int rf), .unset, .unset, .unset, .unset, .unset, .unset, .unset] [(.int ((p3 &&& (255 : Int32)).toUInt32.toUInt16.toUInt32.toInt32)), (.int (0 : Int32)), (.ref b2), (.ref b2), (.ref b1), (.ref b1)]))
  obtain ⟨cl3, Ar3, ak3, aS3, aN3, aH3, aG3⟩ := id V2
  have hin3 : ¬ ((0 : Int32) < 0 ∨ cl3.slots.size ≤ ((0 : Int32)).toNatClampNeg) := inb_of aS3 ⟨by decide, by decide⟩
  obtain ⟨T3, h3, X3, e3, W3, st3⟩ := stC X2 hx hZ0 e2 Ar3 (j := (0 : Int32)) hin3 (g := (mkF m 46 #[.val (.int p1), .val (.int p2), .val (.int p3), .val (.int p4), .val (.int p5), .val (.int nn), .val (.int bb), .val (.int rf), .unset, .unset, .unset, .unset, .unset, .unset, .unset] [(.int ((p3 &&& (255 : Int32)).toUInt32.toUInt16.toUInt32.toInt32)), (.int (0 : Int32)), (.ref b2), (.ref b2), (.ref b1), (.ref b1)])) rfl rfl (hb hby at_46)
  have V3 : Arv Z h3 b2 k2 .char (2 : Int32) [(.int (nar .char ((p3 &&& (255 : Int32)).toUInt32.toUInt16.toUInt32.toInt32))), (.int (0 : Int32))] (.int (0 : Int32)) := Arv.set Ar3 ak3 aS3 aN3 aH3 aG3 (fits_nar_char _) W3 0 rfl (by first | decide | exact Nat.le_of_ble_eq_true rfl | simp)
  have f3_1 := f2_0.wr W3 ge_b2
  have f3_2 := f2_1.wr W3
  have f3_3 := f2_2.other W3 (Or.inl ne_b1_b2)
  have f3_4 := f2_3.other W3 (Or.inl ne_b1_b2)
  have Z3 : n0 ≤ h3.size := by rw [W3.size]; exact Z2
  have K3 := Keep.wr K2 W3 (Or.inr sz_b2)
  have sf3_0 := Safe.wr W3 sf_b2 CR2.1 sf2_0
  have sf3_1 := Safe.wr W3 sf_b2 CR2.1 sf_b2
  have CR3 := CR2.trans (CHr.wr W3 sf_b2 CR2.1)
  have hk3 : 0 ≤ h3.size := by rw [W3.size]; exact hk2
  have N3 := Fr.snoc X3 N0 ge_b2
  refine own_go st3 ?_
  show own_Gl p.tables e below F (T3.setTop (mkF m 47 #[.val (.int p1), .val (.int p2), .val (.int p3), .val (.int p4), .val (.int p5), .val (.int nn), .val (.int bb), .val (.int rf), .unset, .unset, .unset, .unset, .unset, .unset, .unset] [(.ref b2), (.ref b1), (.ref b1)]))
  refine own_go (fun _ k => XS.dup X3.here hx rfl (hb hby at_47) rfl rfl k) ?_
  show own_Gl p.tables e below F (T3.setTop (mkF m 48 #[.val (.int p1), .val (.int p2), .val (.int p3), .val (.int p4), .val (.int p5), .val (.int nn), .val (.int bb), .val (.int rf), .unset, .unset, .unset, .unset, .unset, .unset, .unset] [(.ref b2), (.ref b2), (.ref b1), (.ref b1)]))
  refine own_go (fun _ k => XS.iconst X3.here hx rfl (hb hby at_48) k) ?_
  show own_Gl p.tables e below F (T3.setTop (mkF m 49 #[.val (.int p1), .val (.int p2), .val (.int p3), .val (.int p4), .val (.int p5), .val (.int nn), .val (.int bb), .val (.int rf), .unset, .unset, .unset, .unset, .unset, .unset, .unset] [(.int (1 : Int32)), (.ref b2), (.ref b2), (.ref b1), (.ref b1)]))
  refine own_go (fun _ k => XS.iloadN X3.here hx rfl (hb hby at_49) rfl k) ?_
  show own_Gl p.tables e below F (T3.setTop (mkF m 50 #[.val (.int p1), .val (.int p2), .val (.int p3), .val (.int p4), .val (.int p5), .val (.int nn), .val (.int bb), .val (.int rf), .unset, .unset, .unset, .unset, .unset, .unset, .unset] [(.int p4), (.int (1 : Int32)), (.ref b2), (.ref b2), (.ref b1), (.ref b1)]))
  refine own_go (fun _ k => XS.sipush X3.here hx rfl (hb hby at_50) k) ?_
  show own_Gl p.tables e below F (T3.setTop (mkF m 53 #[.val (.int p1), .val (.int p2), .val (.int p3), .val (.int p4), .val (.int p5), .val (.int nn), .val (.int bb), .val (.int rf), .unset, .unset, .unset, .unset, .unset, .unset, .unset] [(.int (255 : Int32)), (.int p4), (.int (1 : Int32)), (.ref b2), (.ref b2), (.ref b1), (.ref b1)]))
  refine own_go (fun _ k => XS.iand X3.here hx rfl (hb hby at_53) rfl k) ?_
  show own_Gl p.tables e below F (T3.setTop (mkF m 54 #[.val (.int p1), .val (.int p2), .val (.int p3), .val (.int p4), .val (.int p5), .val (.int nn), .val (.int bb), .val (.int rf), .unset, .unset, .unset, .unset, .unset, .unset, .unset] [(.int (p4 &&& (255 : Int32))), (.int (1 : Int32)), (.ref b2), (.ref b2), (.ref b1), (.ref b1)]))
  refine own_go (fun _ k => XS.i2c X3.here hx rfl (hb hby at_54) rfl k) ?_
  show own_Gl p.tables e below F (T3.setTop (mkF m 55 #[.val (.int p1), .val (.int p2), .val (.int p3), .val (.int p4), .val (.int p5), .val (.int nn), .val (.int bb), .val (.int rf), .unset, .unset, .unset, .unset, .unset, .unset, .unset] [(.int ((p4 &&& (255 : Int32)).toUInt32.toUInt16.toUInt32.toInt32)), (.int (1 : Int32)), (.ref b2), (.ref b2), (.ref b1), (.ref b1)]))
  obtain ⟨cl4, Ar4, ak4, aS4, aN4, aH4, aG4⟩ := id V3
  have hin4 : ¬ ((1 : Int32) < 0 ∨ cl4.slots.size ≤ ((1 : Int32)).toNatClampNeg) := inb_of aS4 ⟨by decide, by decide⟩
  obtain ⟨T4, h4, X4, e4, W4, st4⟩ := stC X3 hx hZ0 e3 Ar4 (j := (1 : Int32)) hin4 (g := (mkF m 55 #[.val (.int p1), .val (.int p2), .val (.int p3), .val (.int p4), .val (.int p5), .val (.int nn), .val (.int bb), .val (.int rf), .unset, .unset, .unset, .unset, .unset, .unset, .unset] [(.int ((p4 &&& (255 : Int32)).toUInt32.toUInt16.toUInt32.toInt32)), (.int (1 : Int32)), (.ref b2), (.ref b2), (.ref b1), (.ref b1)])) rfl rfl (hb hby at_55)
  have V4 : Arv Z h4 b2 k2 .char (2 : Int32) [(.int (nar .char ((p3 &&& (255 : Int32)).toUInt32.toUInt16.toUInt32.toInt32))), (.int (nar .char ((p4 &&& (255 : Int32)).toUInt32.toUInt16.toUInt32.toInt32)))] (.int (0 : Int32)) := Arv.set Ar4 ak4 aS4 aN4 aH4 aG4 (fits_nar_char _) W4 1 rfl (by first | decide | exact Nat.le_of_ble_eq_true rfl | simp)
  have f4_1 := f3_1.wr W4 ge_b2
  have f4_2 := f3_2.wr W4
  have f4_3 := f3_3.other W4 (Or.inl ne_b1_b2)
  have f4_4 := f3_4.other W4 (Or.inl ne_b1_b2)
  have Z4 : n0 ≤ h4.size := by rw [W4.size]; exact Z3
  have K4 := Keep.wr K3 W4 (Or.inr sz_b2)
  have sf4_0 := Safe.wr W4 sf3_1 CR3.1 sf3_0
  have sf4_1 := Safe.wr W4 sf3_1 CR3.1 sf3_1
  have CR4 := CR3.trans (CHr.wr W4 sf3_1 CR3.1)
  have hk4 : 0 ≤ h4.size := by rw [W4.size]; exact hk3
  have N4 := Fr.snoc X4 N3 ge_b2
  refine own_go st4 ?_
  show own_Gl p.tables e below F (T4.setTop (mkF m 56 #[.val (.int p1), .val (.int p2), .val (.int p3), .val (.int p4), .val (.int p5), .val (.int nn), .val (.int bb), .val (.int rf), .unset, .unset, .unset, .unset, .unset, .unset, .unset] [(.ref b2), (.ref b1), (.ref b1)]))
  have hpa : ∀ c ∈ ([(nar .char ((p3 &&& (255 : Int32)).toUInt32.toUInt16.toUInt32.toInt32)), (nar .char ((p4 &&& (255 : Int32)).toUInt32.toUInt16.toUInt32.toInt32))] : List Int32), ¬ c < 0 ∧ ¬ (255 : Int32) < c := by
    intro c hc
    simp only [List.mem_cons, List.not_mem_nil, or_false] at hc
    rcases hc with rfl | rfl
    · exact own_ch255 _
    · exact own_ch255 _
  obtain ⟨_, _, ⟨T5, L5, k5, n5⟩, -, X5, ⟨Lc5, hQ5, l5, y5, z5⟩, st5⟩ := X4.specialBack hx (y := (⟨"java/lang/String", "<init>", "([C)V"⟩ : MethodName)) rfl hown0 (mvT hZ0 (hw _ (List.mem_of_getElem? (i := 4) rfl))) (mvT hZ0 (hw _ (List.mem_of_getElem? (i := 5) rfl))) (mvT hZ0 (hw _ (List.mem_of_getElem? (i := 6) rfl))) (by decide) (StrChars.Road.backV (W := 1) hZ0 hws (kI := 4) (hw _ (List.mem_of_getElem? (i := 1) rfl)) (cs := ([(nar .char ((p3 &&& (255 : Int32)).toUInt32.toUInt16.toUInt32.toInt32)), (nar .char ((p4 &&& (255 : Int32)).toUInt32.toUInt16.toUInt32.toInt32))] : List Int32)) (bs := ([(nar .char ((p3 &&& (255 : Int32)).toUInt32.toUInt16.toUInt32.toInt32)), (nar .char ((p4 &&& (255 : Int32)).toUInt32.toUInt16.toUInt32.toInt32))] : List Int32).map (fun c => c.toInt8.toInt32)) (n := 2) ge_b1 Z4 f4_2 f4_4 f4_3 V4 (O2.ext f4_1.2) P5 rfl rfl (by decide) (by decide) hpa rfl (by decide) (by decide)) (g := (mkF m 56 #[.val (.int p1), .val (.int p2), .val (.int p3), .val (.int p4), .val (.int p5), .val (.int nn), .val (.int bb), .val (.int rf), .unset, .unset, .unset, .unset, .unset, .unset, .unset] [(.ref b2), (.ref b1), (.ref b1)])) rfl (by rw [hml]; rfl) (Steps.refl _) (a := b1) (argsL := [(.ref b2)]) (rest := [(.ref b1)]) (lenOf pd_19 rfl) rfl (by show 2 * 0 + _ ≤ _; exact Nat.le_of_eq rfl) (hb hby at_56) (fun _ _ => ⟨rfl, e4, (by first | decide | exact Nat.le_of_ble_eq_true rfl), (by first | decide | exact Nat.le_of_ble_eq_true rfl)⟩)
  dsimp only [Pt.U, Pt.locs, Pt.cells, Pt.slots] at X5 l5 y5 z5 st5 hQ5
  have X5 := own_sn X5 (k' := 3) (n' := 8) y5 z5
  obtain ⟨rfl, N5, K5, GE5, -, -⟩ := hQ5
  have NF5 := own_fr l5 N4 N5
  have sf5_0 := Safe.keep K5 (sfS sf4_0 sf0) CR4.1 sf4_0
  have sf5_1 := Safe.keep K5 (sfS sf4_0 sf0) CR4.1 sf4_1
  have CR5 := CR4.trans (CHr.keep K5 (sfS sf4_0 sf0) CR4.1)
  have hk5 : 0 ≤ T5.heap.size := Nat.le_trans hk4 K5.1
  have f5_1 := f4_1.keep K5 (allS ge_b1 (all0))
  have f5_2 := f4_2.keep K5
  have f5_5 := V4.keep K5 (ninS (Ne.symm ne_b1_b2) nin0)
  have Z5 : n0 ≤ T5.heap.size := Nat.le_trans Z4 K5.1
  have KK5 := Keep.trans K4 K5 (by intro z hz; simp at hz; rcases hz with rfl; all_goals first | (left; simp; done) | (right; assumption))
  refine own_go (fun _ k => st5.trans k) ?_
  show own_Gl p.tables e below F (T5.setTop (mkF m 59 #[.val (.int p1), .val (.int p2), .val (.int p3), .val (.int p4), .val (.int p5), .val (.int nn), .val (.int bb), .val (.int rf), .unset, .unset, .unset, .unset, .unset, .unset, .unset] [(.ref b1)]))
  refine own_go (fun _ k => XS.astore X5.here hx rfl (hb hby at_59) rfl rfl (l' := #[.val (.int p1), .val (.int p2), .val (.int p3), .val (.int p4), .val (.int p5), .val (.int nn), .val (.int bb), .val (.int rf), .val (.ref b1), .unset, .unset, .unset, .unset, .unset, .unset]) rfl k) ?_
  show own_Gl p.tables e below F (T5.setTop (mkF m 61 #[.val (.int p1), .val (.int p2), .val (.int p3), .val (.int p4), .val (.int p5), .val (.int nn), .val (.int bb), .val (.int rf), .val (.ref b1), .unset, .unset, .unset, .unset, .unset, .unset] []))
  refine own_go (fun _ k => XS.iloadN X5.here hx rfl (hb hby at_61) rfl k) ?_
  show own_Gl p.tables e below F (T5.setTop (mkF m 62 #[.val (.int p1), .val (.int p2), .val (.int p3), .val (.int p4), .val (.int p5), .val (.int nn), .val (.int bb), .val (.int rf), .val (.ref b1), .unset, .unset, .unset, .unset, .unset, .unset] [(.int p4)]))
  refine own_go (fun _ k => XS.sipush X5.here hx rfl (hb hby at_62) k) ?_
  show own_Gl p.tables e below F (T5.setTop (mkF m 65 #[.val (.int p1), .val (.int p2), .val (.int p3), .val (.int p4), .val (.int p5), .val (.int nn), .val (.int bb), .val (.int rf), .val (.ref b1), .unset, .unset, .unset, .unset, .unset, .unset] [(.int (255 : Int32)), (.int p4)]))
  refine own_go (fun _ k => XS.iand X5.here hx rfl (hb hby at_65) rfl k) ?_
  show own_Gl p.tables e below F (T5.setTop (mkF m 66 #[.val (.int p1), .val (.int p2), .val (.int p3), .val (.int p4), .val (.int p5), .val (.int nn), .val (.int bb), .val (.int rf), .val (.ref b1), .unset, .unset, .unset, .unset, .unset, .unset] [(.int (p4 &&& (255 : Int32)))]))
  refine own_go (fun _ k => XS.i2c X5.here hx rfl (hb hby at_66) rfl k) ?_
  show own_Gl p.tables e below F (T5.setTop (mkF m 67 #[.val (.int p1), .val (.int p2), .val (.int p3), .val (.int p4), .val (.int p5), .val (.int nn), .val (.int bb), .val (.int rf), .val (.ref b1), .unset, .unset, .unset, .unset, .unset, .unset] [(.int ((p4 &&& (255 : Int32)).toUInt32.toUInt16.toUInt32.toInt32))]))
  obtain ⟨_, _, ⟨T6, L6, k6, n6⟩, -, X6, ⟨Lc6, hQ6, l6, y6, z6⟩, st6⟩ := Jvm.LawKit.callS X5 hx (y := (⟨"java/lang/String", "valueOf", "(C)Ljava/lang/String;"⟩ : MethodName)) hown0 (mvT hZ0 (hw _ (List.mem_of_getElem? (i := 30) rfl))) (mvT hZ0 (hw _ (List.mem_of_getElem? (i := 31) rfl))) (mvT hZ0 (hw _ (List.mem_of_getElem? (i := 2) rfl))) (mvT hZ0 (hw _ (List.mem_of_getElem? (i := 32) rfl))) (by decide) (backOf (W := 0) (rm7 l Z a0 hw [] ((p4 &&& (255 : Int32)).toUInt32.toUInt16.toUInt32.toInt32) zc T5.heap n0 Z5 f5_1 O2 P5 (own_b255 p4)) hZ0 (hw _ (List.mem_of_getElem? (i := 32) rfl)) (hw _ (List.mem_of_getElem? (i := 2) rfl)) (by decide) (by decide)) (g := (mkF m 67 #[.val (.int p1), .val (.int p2), .val (.int p3), .val (.int p4), .val (.int p5), .val (.int nn), .val (.int bb), .val (.int rf), .val (.ref b1), .unset, .unset, .unset, .unset, .unset, .unset] [(.int ((p4 &&& (255 : Int32)).toUInt32.toUInt16.toUInt32.toInt32))])) rfl (by rw [hml]; rfl) (argsL := [(.int ((p4 &&& (255 : Int32)).toUInt32.toUInt16.toUInt32.toInt32))]) (rest := []) (lenOf pd_20 rfl) rfl (by show 2 * 0 + _ ≤ _; exact Nat.le_of_eq rfl) (hb hby at_67) (fun _ _ => ⟨rfl, rfl, (by first | decide | exact Nat.le_of_ble_eq_true rfl), (by first | decide | exact Nat.le_of_ble_eq_true rfl)⟩)
  dsimp only [Pt.U, Pt.locs, Pt.cells, Pt.slots] at X6 l6 y6 z6 st6 hQ6
  have X6 := own_sn X6 (k' := 5) (n' := 13) y6 z6
  obtain ⟨x6, rfl, N6, K6, hx6, EX6x⟩ := hQ6
  have NF6 := own_fr l6 NF5 N6
  have CR6 := CR5.trans (CHr.keep K6 sf0 CR5.1)
  have hk6 : 0 ≤ T6.heap.size := Nat.le_trans hk5 K6.1
  have f6_1 := f5_1.keep K6 (all0)
  have f6_2 := f5_2.keep K6
  have Z6 : n0 ≤ T6.heap.size := Nat.le_trans Z5 K6.1
  have KK6 := Keep.trans KK5 K6 (fun _ q => nomatch q)
  refine own_go st6 ?_
  show own_Gl p.tables e below F (T6.setTop (mkF m 70 #[.val (.int p1), .val (.int p2), .val (.int p3), .val (.int p4), .val (.int p5), .val (.int nn), .val (.int bb), .val (.int rf), .val (.ref b1), .unset, .unset, .unset, .unset, .unset, .unset] [(.ref x6)]))
  refine own_go (fun _ k => XS.astore X6.here hx rfl (hb hby at_70) rfl rfl (l' := #[.val (.int p1), .val (.int p2), .val (.int p3), .val (.int p4), .val (.int p5), .val (.int nn), .val (.int bb), .val (.int rf), .val (.ref b1), .val (.ref x6), .unset, .unset, .unset, .unset, .unset]) rfl k) ?_
  show own_Gl p.tables e below F (T6.setTop (mkF m 72 #[.val (.int p1), .val (.int p2), .val (.int p3), .val (.int p4), .val (.int p5), .val (.int nn), .val (.int bb), .val (.int rf), .val (.ref b1), .val (.ref x6), .unset, .unset, .unset, .unset, .unset] []))
  refine own_go (fun _ k => XS.iloadN X6.here hx rfl (hb hby at_72) rfl k) ?_
  show own_Gl p.tables e below F (T6.setTop (mkF m 73 #[.val (.int p1), .val (.int p2), .val (.int p3), .val (.int p4), .val (.int p5), .val (.int nn), .val (.int bb), .val (.int rf), .val (.ref b1), .val (.ref x6), .unset, .unset, .unset, .unset, .unset] [(.int p2)]))
  refine own_go (fun _ k => XS.iconst X6.here hx rfl (hb hby at_73) k) ?_
  show own_Gl p.tables e below F (T6.setTop (mkF m 74 #[.val (.int p1), .val (.int p2), .val (.int p3), .val (.int p4), .val (.int p5), .val (.int nn), .val (.int bb), .val (.int rf), .val (.ref b1), .val (.ref x6), .unset, .unset, .unset, .unset, .unset] [(.int (4 : Int32)), (.int p2)]))
  refine own_go (fun _ k => XS.iand X6.here hx rfl (hb hby at_74) rfl k) ?_
  show own_Gl p.tables e below F (T6.setTop (mkF m 75 #[.val (.int p1), .val (.int p2), .val (.int p3), .val (.int p4), .val (.int p5), .val (.int nn), .val (.int bb), .val (.int rf), .val (.ref b1), .val (.ref x6), .unset, .unset, .unset, .unset, .unset] [(.int (p2 &&& (4 : Int32)))]))
  have JS : ∀ (TJS : State) (lJS : List Loc) (hJS : Heap) (vJS : Vm) (kJS : Nat) (x : Addr) (XJS : Stand p l e room_1 (s.setVm vJS) m #[(.int p1), (.int p2), (.int p3), (.int p4), (.int p5)] below meth c TJS lJS 16 60) (eJS : TJS.heap = hJS) (NJS : Fr n0 lJS) (ZJS : n0 ≤ hJS.size) (KJS : Keep h0 hJS []) (hZJS : Z.Warmed39 (s.setVm vJS).vm) (hoJS : (s.setVm vJS).vm.findClass "com/example/brokerwright/brokerwright/kafka/UserLookupHoldsUserPinLaw" = some m.cls) (hSJS : s.Since vJS kJS) (hkJS : kJS ≤ hJS.size) (CRJS : CHr Z own_EL s.vm h0 vJS hJS)  (fJS_0 : Old Z n0 hJS) (fJS_1 : Exa Z hJS b1 "java/lang/String") (fJS_2 : Exa Z hJS x6 "java/lang/String") (EXx : Exa Z hJS x "java/lang/String") , own_Gl p.tables e below F (TJS.setTop (mkF m 101 #[.val (.int p1), .val (.int p2), .val (.int p3), .val (.int p4), .val (.int p5), .val (.int nn), .val (.int bb), .val (.int rf), .val (.ref b1), .val (.ref x6), .unset, .unset, .unset, .unset, .unset] [(.ref x)])) := by
    intro TJS lJS hJS vJS kJS x XJS eJS NJS ZJS KJS hZJS hoJS hSJS hkJS CRJS fJS_0 fJS_1 fJS_2 EXx
    show own_Gl p.tables e below F (TJS.setTop (mkF m 101 #[.val (.int p1), .val (.int p2), .val (.int p3), .val (.int p4), .val (.int p5), .val (.int nn), .val (.int bb), .val (.int rf), .val (.ref b1), .val (.ref x6), .unset, .unset, .unset, .unset, .unset] [(.ref x)]))
    refine own_go (fun _ k => XS.astore XJS.here hx rfl (hb hby at_101) rfl rfl (l' := #[.val (.int p1), .val (.int p2), .val (.int p3), .val (.int p4), .val (.int p5), .val (.int nn), .val (.int bb), .val (.int rf), .val (.ref b1), .val (.ref x6), .val (.ref x), .unset, .unset, .unset, .unset]) rfl k) ?_
    show own_Gl p.tables e below F (TJS.setTop (mkF m 103 #[.val (.int p1), .val (.int p2), .val (.int p3), .val (.int p4), .val (.int p5), .val (.int nn), .val (.int bb), .val (.int rf), .val (.ref b1), .val (.ref x6), .val (.ref x), .unset, .unset, .unset, .unset] []))
    obtain ⟨T7, h7, X7, e7, E7, A7, D7, -, st7⟩ := newO XJS hx hZJS hoJS (hw _ (List.mem_of_getElem? (i := 44) rfl)) (hw _ (List.mem_of_getElem? (i := 45) rfl)) (hw _ (List.mem_of_getElem? (i := 46) rfl)) eJS (g := (mkF m 103 #[.val (.int p1), .val (.int p2), .val (.int p3), .val (.int p4), .val (.int p5), .val (.int nn), .val (.int bb), .val (.int rf), .val (.ref b1), .val (.ref x6), .val (.ref x), .unset, .unset, .unset, .unset] [])) rfl (hb hby at_103) (by first | decide | exact Nat.le_of_ble_eq_true rfl) (by first | decide | exact Nat.le_of_ble_eq_true rfl)
    obtain ⟨b7, g7⟩ : ∃ z, z = hJS.size := ⟨_, rfl⟩
    rw [← g7] at A7 D7 st7
    have ne_b1_b7 : b1 ≠ b7 := Nat.ne_of_lt (Nat.lt_of_lt_of_le fJS_1.lt (Nat.le_of_eq g7.symm))
    have ne_x6_b7 : x6 ≠ b7 := Nat.ne_of_lt (Nat.lt_of_lt_of_le fJS_2.lt (Nat.le_of_eq g7.symm))
    have ne_x_b7 : x ≠ b7 := Nat.ne_of_lt (Nat.lt_of_lt_of_le EXx.lt (Nat.le_of_eq g7.symm))
    have ge_b7 : n0 ≤ b7 := Nat.le_trans ZJS (Nat.le_of_eq g7.symm)
    have sz_b7 : h0.size ≤ b7 := Nat.le_trans (KJS).1 (Nat.le_of_eq g7.symm)
    have sf_b7 := Safe.ext E7 CRJS.1 (Safe.new (Z := Z) (EL := own_EL) (vm := vJS) (Nat.le_of_eq g7.symm))
    have f7_0 := fJS_0.ext E7
    have f7_1 := fJS_1.ext E7
    have f7_2 := fJS_2.ext E7
    have f7_3 := EXx.ext E7
    have Z7 : n0 ≤ h7.size := Nat.le_trans ZJS E7.1
    have K7 := Keep.ext KJS E7
    have CR7 := CRJS.trans (CHr.ext E7 CRJS.1)
    have hk7 : kJS ≤ h7.size := Nat.le_trans hkJS E7.1
    have F7_modCount : Fld Z h7 b7 "java/util/AbstractList" "modCount" "I" (.int (0 : Int32)) := D7 (Or.inl (hw _ (List.mem_of_getElem? (i := 64) rfl))) (ty := .int) (by decide)
    have F7_elementData : Fld Z h7 b7 "java/util/ArrayList" "elementData" "[Ljava/lang/Object;" .null := D7 (Or.inl (hw _ (List.mem_of_getElem? (i := 67) rfl))) (ty := (.array (.object "java/lang/Object"))) (by decide)
    have F7_size : Fld Z h7 b7 "java/util/ArrayList" "size" "I" (.int (0 : Int32)) := D7 (Or.inl (hw _ (List.mem_of_getElem? (i := 121) rfl))) (ty := .int) (by decide)
    have X7 : Stand _ _ _ _ _ _ _ _ _ _ _ _ 17 63 := X7
    refine own_go st7 ?_
    show own_Gl p.tables e below F (T7.setTop (mkF m 106 #[.val (.int p1), .val (.int p2), .val (.int p3), .val (.int p4), .val (.int p5), .val (.int nn), .val (.int bb), .val (.int rf), .val (.ref b1), .val (.ref x6), .val (.ref x), .unset, .unset, .unset, .unset] [(.ref b7)]))
    refine own_go (fun _ k => XS.dup X7.here hx rfl (hb hby at_106) rfl rfl k) ?_
    show own_Gl p.tables e below F (T7.setTop (mkF m 107 #[.val (.int p1), .val (.int p2), .val (.int p3), .val (.int p4), .val (.int p5), .val (.int nn), .val (.int bb), .val (.int rf), .val (.ref b1), .val (.ref x6), .val (.ref x), .unset, .unset, .unset, .unset] [(.ref b7), (.ref b7)]))
    obtain ⟨_, _, ⟨T8, L8, k8, n8⟩, -, X8, ⟨Lc8, hQ8, l8, y8, z8⟩, st8⟩ := X7.specialBack hx (y := (⟨"java/util/ArrayList", "<init>", "()V"⟩ : MethodName)) rfl hoJS (mvT hZJS (hw _ (List.mem_of_getElem? (i := 47) rfl))) (mvT hZJS (hw _ (List.mem_of_getElem? (i := 48) rfl))) (mvT hZJS (hw _ (List.mem_of_getElem? (i := 49) rfl))) (by decide) (backOf (W := 1) (rm11 l Z a0 hw [] b7 dc kd h7 n0 Z7 A7 F7_modCount F7_elementData F7_size ge_b7 f7_0 SD VD) hZJS (hw _ (List.mem_of_getElem? (i := 49) rfl)) (hw _ (List.mem_of_getElem? (i := 46) rfl)) (by decide) (by decide)) (g := (mkF m 107 #[.val (.int p1), .val (.int p2), .val (.int p3), .val (.int p4), .val (.int p5), .val (.int nn), .val (.int bb), .val (.int rf), .val (.ref b1), .val (.ref x6), .val (.ref x), .unset, .unset, .unset, .unset] [(.ref b7), (.ref b7)])) rfl (by rw [hml]; rfl) (Steps.refl _) (a := b7) (argsL := []) (rest := [(.ref b7)]) (lenOf pd_1 rfl) rfl (by show 2 * 0 + _ ≤ _; exact Nat.le_of_eq rfl) (hb hby at_107) (fun _ _ => ⟨rfl, e7, (by first | decide | exact Nat.le_of_ble_eq_true rfl), (by first | decide | exact Nat.le_of_ble_eq_true rfl)⟩)
    dsimp only [Pt.U, Pt.locs, Pt.cells, Pt.slots] at X8 l8 y8 z8 st8 hQ8
    have X8 := own_sn X8 (k' := 17) (n' := 63) y8 z8
    obtain ⟨rfl, N8, K8, GE8, GM8, GD8, GS8⟩ := hQ8
    have NF8 := own_fr l8 NJS N8
    have sf8_0 := Safe.keep K8 (sfS sf_b7 sf0) CR7.1 sf_b7
    have CR8 := CR7.trans (CHr.keep K8 (sfS sf_b7 sf0) CR7.1)
    have hk8 : kJS ≤ T8.heap.size := Nat.le_trans hk7 K8.1
    have f8_1 := f7_0.keep K8 (allS ge_b7 (all0))
    have f8_2 := f7_1.keep K8
    have f8_3 := f7_2.keep K8
    have f8_4 := f7_3.keep K8
    have f8_5 := A7.keep K8
    have Z8 : n0 ≤ T8.heap.size := Nat.le_trans Z7 K8.1
    have KK8 := Keep.trans K7 K8 (by intro z hz; simp at hz; rcases hz with rfl; all_goals first | (left; simp; done) | (right; assumption))
    refine own_go (fun _ k => st8.trans k) ?_
    show own_Gl p.tables e below F (T8.setTop (mkF m 110 #[.val (.int p1), .val (.int p2), .val (.int p3), .val (.int p4), .val (.int p5), .val (.int nn), .val (.int bb), .val (.int rf), .val (.ref b1), .val (.ref x6), .val (.ref x), .unset, .unset, .unset, .unset] [(.ref b7)]))
    refine own_go (fun _ k => XS.astore X8.here hx rfl (hb hby at_110) rfl rfl (l' := #[.val (.int p1), .val (.int p2), .val (.int p3), .val (.int p4), .val (.int p5), .val (.int nn), .val (.int bb), .val (.int rf), .val (.ref b1), .val (.ref x6), .val (.ref x), .val (.ref b7), .unset, .unset, .unset]) rfl k) ?_
    show own_Gl p.tables e below F (T8.setTop (mkF m 112 #[.val (.int p1), .val (.int p2), .val (.int p3), .val (.int p4), .val (.int p5), .val (.int nn), .val (.int bb), .val (.int rf), .val (.ref b1), .val (.ref x6), .val (.ref x), .val (.ref b7), .unset, .unset, .unset] []))
    rcases hm with rfl | rfl | rfl | rfl
    · show own_Gl p.tables e below F (T8.setTop (mkF m 112 #[.val (.int p1), .val (.int p2), .val (.int p3), .val (.int p4), .val (.int p5), .val (.int (0 : Int32)), .val (.int bb), .val (.int rf), .val (.ref b1), .val (.ref x6), .val (.ref x), .val (.ref b7), .unset, .unset, .unset] []))
      refine own_go (fun _ k => XS.iload X8.here hx rfl (hb hby at_112) rfl k) ?_
      show own_Gl p.tables e below F (T8.setTop (mkF m 114 #[.val (.int p1), .val (.int p2), .val (.int p3), .val (.int p4), .val (.int p5), .val (.int (0 : Int32)), .val (.int bb), .val (.int rf), .val (.ref b1), .val (.ref x6), .val (.ref x), .val (.ref b7), .unset, .unset, .unset] [(.int (0 : Int32))]))
      refine own_go (fun _ k => XS.iconst X8.here hx rfl (hb hby at_114) k) ?_
      show own_Gl p.tables e below F (T8.setTop (mkF m 115 #[.val (.int p1), .val (.int p2), .val (.int p3), .val (.int p4), .val (.int p5), .val (.int (0 : Int32)), .val (.int bb), .val (.int rf), .val (.ref b1), .val (.ref x6), .val (.ref x), .val (.ref b7), .unset, .unset, .unset] [(.int (1 : Int32)), (.int (0 : Int32))]))
      refine own_go (fun _ k => XS.icmpYes X8.here hx rfl (pc0 := 115) (pc' := 126) rfl (hb hby at_115) rfl (XT.ii_lt_t (by decide)) (by decide) (by decide) k) ?_
      show own_Gl p.tables e below F (T8.setTop (mkF m 126 #[.val (.int p1), .val (.int p2), .val (.int p3), .val (.int p4), .val (.int p5), .val (.int (0 : Int32)), .val (.int bb), .val (.int rf), .val (.ref b1), .val (.ref x6), .val (.ref x), .val (.ref b7), .unset, .unset, .unset] []))
      refine own_go (fun _ k => XS.iload X8.here hx rfl (hb hby at_126) rfl k) ?_
      show own_Gl p.tables e below F (T8.setTop (mkF m 128 #[.val (.int p1), .val (.int p2), .val (.int p3), .val (.int p4), .val (.int p5), .val (.int (0 : Int32)), .val (.int bb), .val (.int rf), .val (.ref b1), .val (.ref x6), .val (.ref x), .val (.ref b7), .unset, .unset, .unset] [(.int (0 : Int32))]))
      refine own_go (fun _ k => XS.iconst X8.here hx rfl (hb hby at_128) k) ?_
      show own_Gl p.tables e below F (T8.setTop (mkF m 129 #[.val (.int p1), .val (.int p2), .val (.int p3), .val (.int p4), .val (.int p5), .val (.int (0 : Int32)), .val (.int bb), .val (.int rf), .val (.ref b1), .val (.ref x6), .val (.ref x), .val (.ref b7), .unset, .unset, .unset] [(.int (2 : Int32)), (.int (0 : Int32))]))
      refine own_go (fun _ k => XS.icmpYes X8.here hx rfl (pc0 := 129) (pc' := 140) rfl (hb hby at_129) rfl (XT.ii_lt_t (by decide)) (by decide) (by decide) k) ?_
      show own_Gl p.tables e below F (T8.setTop (mkF m 140 #[.val (.int p1), .val (.int p2), .val (.int p3), .val (.int p4), .val (.int p5), .val (.int (0 : Int32)), .val (.int bb), .val (.int rf), .val (.ref b1), .val (.ref x6), .val (.ref x), .val (.ref b7), .unset, .unset, .unset] []))
      refine own_go (fun _ k => XS.iload X8.here hx rfl (hb hby at_140) rfl k) ?_
      show own_Gl p.tables e below F (T8.setTop (mkF m 142 #[.val (.int p1), .val (.int p2), .val (.int p3), .val (.int p4), .val (.int p5), .val (.int (0 : Int32)), .val (.int bb), .val (.int rf), .val (.ref b1), .val (.ref x6), .val (.ref x), .val (.ref b7), .unset, .unset, .unset] [(.int (0 : Int32))]))
      refine own_go (fun _ k => XS.iconst X8.here hx rfl (hb hby at_142) k) ?_
      show own_Gl p.tables e below F (T8.setTop (mkF m 143 #[.val (.int p1), .val (.int p2), .val (.int p3), .val (.int p4), .val (.int p5), .val (.int (0 : Int32)), .val (.int bb), .val (.int rf), .val (.ref b1), .val (.ref x6), .val (.ref x), .val (.ref b7), .unset, .unset, .unset] [(.int (3 : Int32)), (.int (0 : Int32))]))
      refine own_go (fun _ k => XS.icmpYes X8.here hx rfl (pc0 := 143) (pc' := 154) rfl (hb hby at_143) rfl (XT.ii_lt_t (by decide)) (by decide) (by decide) k) ?_
      show own_Gl p.tables e below F (T8.setTop (mkF m 154 #[.val (.int p1), .val (.int p2), .val (.int p3), .val (.int p4), .val (.int p5), .val (.int (0 : Int32)), .val (.int bb), .val (.int rf), .val (.ref b1), .val (.ref x6), .val (.ref x), .val (.ref b7), .unset, .unset, .unset] []))
      refine own_go (fun _ k => XS.iload X8.here hx rfl (hb hby at_154) rfl k) ?_
      show own_Gl p.tables e below F (T8.setTop (mkF m 156 #[.val (.int p1), .val (.int p2), .val (.int p3), .val (.int p4), .val (.int p5), .val (.int (0 : Int32)), .val (.int bb), .val (.int rf), .val (.ref b1), .val (.ref x6), .val (.ref x), .val (.ref b7), .unset, .unset, .unset] [(.int rf)]))
      have JR0 : ∀ (TJR0 : State) (lJR0 : List Loc) (hJR0 : Heap) (vJR0 : Vm) (kJR0 : Nat) (ro : Addr) (XJR0 : Stand p l e room_1 (s.setVm vJR0) m #[(.int p1), (.int p2), (.int p3), (.int p4), (.int p5)] below meth c TJR0 lJR0 33 150) (eJR0 : TJR0.heap = hJR0) (NJR0 : Fr n0 lJR0) (ZJR0 : n0 ≤ hJR0.size) (KJR0 : Keep h0 hJR0 []) (hZJR0 : Z.Warmed39 (s.setVm vJR0).vm) (hoJR0 : (s.setVm vJR0).vm.findClass "com/example/brokerwright/brokerwright/kafka/UserLookupHoldsUserPinLaw" = some m.cls) (hSJR0 : s.Since vJR0 kJR0) (hkJR0 : kJR0 ≤ hJR0.size) (CRJR0 : CHr Z own_EL s.vm h0 vJR0 hJR0) (sJR0_b7 : Safe Z own_EL vJR0 hJR0 b7) (fJR0_0 : Old Z n0 hJR0) (fJR0_1 : Exa Z hJR0 b1 "java/lang/String") (fJR0_2 : Exa Z hJR0 x6 "java/lang/String") (fJR0_3 : Exa Z hJR0 x "java/lang/String") (fJR0_4 : Exa Z hJR0 b7 "java/util/ArrayList") (fJR0_5 : Fld Z hJR0 b7 "java/util/AbstractList" "modCount" "I" (.int (0 : Int32))) (fJR0_6 : Fld Z hJR0 b7 "java/util/ArrayList" "elementData" "[Ljava/lang/Object;" (.ref dc)) (fJR0_7 : Fld Z hJR0 b7 "java/util/ArrayList" "size" "I" (.int (0 : Int32))) , own_Gl p.tables e below F (TJR0.setTop (mkF m 170 #[.val (.int p1), .val (.int p2), .val (.int p3), .val (.int p4), .val (.int p5), .val (.int (0 : Int32)), .val (.int bb), .val (.int rf), .val (.ref b1), .val (.ref x6), .val (.ref x), .val (.ref b7), .unset, .unset, .unset] [(.ref ro)])) := by
        intro TJR0 lJR0 hJR0 vJR0 kJR0 ro XJR0 eJR0 NJR0 ZJR0 KJR0 hZJR0 hoJR0 hSJR0 hkJR0 CRJR0 sJR0_b7 fJR0_0 fJR0_1 fJR0_2 fJR0_3 fJR0_4 fJR0_5 fJR0_6 fJR0_7
        show own_Gl p.tables e below F (TJR0.setTop (mkF m 170 #[.val (.int p1), .val (.int p2), .val (.int p3), .val (.int p4), .val (.int p5), .val (.int (0 : Int32)), .val (.int bb), .val (.int rf), .val (.ref b1), .val (.ref x6), .val (.ref x), .val (.ref b7), .unset, .unset, .unset] [(.ref ro)]))
        refine own_go (fun _ k => XS.astore XJR0.here hx rfl (hb hby at_170) rfl rfl (l' := #[.val (.int p1), .val (.int p2), .val (.int p3), .val (.int p4), .val (.int p5), .val (.int (0 : Int32)), .val (.int bb), .val (.int rf), .val (.ref b1), .val (.ref x6), .val (.ref x), .val (.ref b7), .val (.ref ro), .unset, .unset]) rfl k) ?_
        show own_Gl p.tables e below F (TJR0.setTop (mkF m 172 #[.val (.int p1), .val (.int p2), .val (.int p3), .val (.int p4), .val (.int p5), .val (.int (0 : Int32)), .val (.int bb), .val (.int rf), .val (.ref b1), .val (.ref x6), .val (.ref x), .val (.ref b7), .val (.ref ro), .unset, .unset] []))
        obtain ⟨T9, h9, X9, e9, E9, A9, D9, -, st9⟩ := newO XJR0 hx hZJR0 hoJR0 (hw _ (List.mem_of_getElem? (i := 85) rfl)) (hw _ (List.mem_of_getElem? (i := 86) rfl)) (hw _ (List.mem_of_getElem? (i := 87) rfl)) eJR0 (g := (mkF m 172 #[.val (.int p1), .val (.int p2), .val (.int p3), .val (.int p4), .val (.int p5), .val (.int (0 : Int32)), .val (.int bb), .val (.int rf), .val (.ref b1), .val (.ref x6), .val (.ref x), .val (.ref b7), .val (.ref ro), .unset, .unset] [])) rfl (hb hby at_172) (by first | decide | exact Nat.le_of_ble_eq_true rfl) (by first | decide | exact Nat.le_of_ble_eq_true rfl)
        obtain ⟨b9, g9⟩ : ∃ z, z = hJR0.size := ⟨_, rfl⟩
        rw [← g9] at A9 D9 st9
        have ne_b1_b9 : b1 ≠ b9 := Nat.ne_of_lt (Nat.lt_of_lt_of_le fJR0_1.lt (Nat.le_of_eq g9.symm))
        have ne_x6_b9 : x6 ≠ b9 := Nat.ne_of_lt (Nat.lt_of_lt_of_le fJR0_2.lt (Nat.le_of_eq g9.symm))
        have ne_x_b9 : x ≠ b9 := Nat.ne_of_lt (Nat.lt_of_lt_of_le fJR0_3.lt (Nat.le_of_eq g9.symm))
        have ne_b7_b9 : b7 ≠ b9 := Nat.ne_of_lt (Nat.lt_of_lt_of_le fJR0_4.lt (Nat.le_of_eq g9.symm))
        have ge_b9 : n0 ≤ b9 := Nat.le_trans ZJR0 (Nat.le_of_eq g9.symm)
        have sz_b9 : h0.size ≤ b9 := Nat.le_trans (KJR0).1 (Nat.le_of_eq g9.symm)
        have sf_b9 := Safe.ext E9 CRJR0.1 (Safe.new (Z := Z) (EL := own_EL) (vm := vJR0) (Nat.le_of_eq g9.symm))
        have f9_0 := fJR0_0.ext E9
        have f9_1 := fJR0_1.ext E9
        have f9_2 := fJR0_2.ext E9
        have f9_3 := fJR0_3.ext E9
        have f9_4 := fJR0_4.ext E9
        have f9_5 := fJR0_5.ext E9
        have f9_6 := fJR0_6.ext E9
        have f9_7 := fJR0_7.ext E9
        have Z9 : n0 ≤ h9.size := Nat.le_trans ZJR0 E9.1
        have K9 := Keep.ext KJR0 E9
        have sf9_0 := Safe.ext E9 CRJR0.1 sJR0_b7
        have CR9 := CRJR0.trans (CHr.ext E9 CRJR0.1)
        have hk9 : kJR0 ≤ h9.size := Nat.le_trans hkJR0 E9.1
        have F9_mechanisms : Fld Z h9 b9 "com/example/brokerwright/brokerwright/kafka/UserLookup" "mechanisms" "Ljava/util/List;" .null := D9 (Or.inr (hw _ (List.mem_of_getElem? (i := 127) rfl))) (ty := (.object "java/util/List")) (by decide)
        have F9_holdsBindings : Fld Z h9 b9 "com/example/brokerwright/brokerwright/kafka/UserLookup" "holdsBindings" "Z" (.int (0 : Int32)) := D9 (Or.inr (hw _ (List.mem_of_getElem? (i := 129) rfl))) (ty := .boolean) (by decide)
        have F9_refusal : Fld Z h9 b9 "com/example/brokerwright/brokerwright/kafka/UserLookup" "refusal" "Ljava/util/Optional;" .null := D9 (Or.inr (hw _ (List.mem_of_getElem? (i := 131) rfl))) (ty := (.object "java/util/Optional")) (by decide)
        have X9 : Stand _ _ _ _ _ _ _ _ _ _ _ _ 34 153 := X9
        refine own_go st9 ?_
        show own_Gl p.tables e below F (T9.setTop (mkF m 175 #[.val (.int p1), .val (.int p2), .val (.int p3), .val (.int p4), .val (.int p5), .val (.int (0 : Int32)), .val (.int bb), .val (.int rf), .val (.ref b1), .val (.ref x6), .val (.ref x), .val (.ref b7), .val (.ref ro), .unset, .unset] [(.ref b9)]))
        refine own_go (fun _ k => XS.dup X9.here hx rfl (hb hby at_175) rfl rfl k) ?_
        show own_Gl p.tables e below F (T9.setTop (mkF m 176 #[.val (.int p1), .val (.int p2), .val (.int p3), .val (.int p4), .val (.int p5), .val (.int (0 : Int32)), .val (.int bb), .val (.int rf), .val (.ref b1), .val (.ref x6), .val (.ref x), .val (.ref b7), .val (.ref ro), .unset, .unset] [(.ref b9), (.ref b9)]))
        refine own_go (fun _ k => XS.aload X9.here hx rfl (hb hby at_176) rfl rfl k) ?_
        show own_Gl p.tables e below F (T9.setTop (mkF m 178 #[.val (.int p1), .val (.int p2), .val (.int p3), .val (.int p4), .val (.int p5), .val (.int (0 : Int32)), .val (.int bb), .val (.int rf), .val (.ref b1), .val (.ref x6), .val (.ref x), .val (.ref b7), .val (.ref ro), .unset, .unset] [(.ref b7), (.ref b9), (.ref b9)]))
        refine own_go (fun _ k => XS.iload X9.here hx rfl (hb hby at_178) rfl k) ?_
        show own_Gl p.tables e below F (T9.setTop (mkF m 180 #[.val (.int p1), .val (.int p2), .val (.int p3), .val (.int p4), .val (.int p5), .val (.int (0 : Int32)), .val (.int bb), .val (.int rf), .val (.ref b1), .val (.ref x6), .val (.ref x), .val (.ref b7), .val (.ref ro), .unset, .unset] [(.int bb), (.ref b7), (.ref b9), (.ref b9)]))
        refine own_go (fun _ k => XS.aload X9.here hx rfl (hb hby at_180) rfl rfl k) ?_
        show own_Gl p.tables e below F (T9.setTop (mkF m 182 #[.val (.int p1), .val (.int p2), .val (.int p3), .val (.int p4), .val (.int p5), .val (.int (0 : Int32)), .val (.int bb), .val (.int rf), .val (.ref b1), .val (.ref x6), .val (.ref x), .val (.ref b7), .val (.ref ro), .unset, .unset] [(.ref ro), (.int bb), (.ref b7), (.ref b9), (.ref b9)]))
        obtain ⟨_, _, ⟨T10, L10, k10, n10⟩, -, X10, ⟨Lc10, hQ10, l10, y10, z10⟩, st10⟩ := X9.specialBack hx (y := (⟨"com/example/brokerwright/brokerwright/kafka/UserLookup", "<init>", "(Ljava/util/List;ZLjava/util/Optional;)V"⟩ : MethodName)) rfl hoJR0 (mvT hZJR0 (hw _ (List.mem_of_getElem? (i := 88) rfl))) (mvT hZJR0 (hw _ (List.mem_of_getElem? (i := 89) rfl))) (mvT hZJR0 (hw _ (List.mem_of_getElem? (i := 90) rfl))) (by decide) (backOf (W := 1) (rmUI_0 l Z a0 hw [] b9 b7 bb ro dc el h9 n0 Z9 A9 F9_mechanisms F9_holdsBindings F9_refusal ge_b9 f9_4 f9_6 f9_7 f9_0 SL) hZJR0 (hw _ (List.mem_of_getElem? (i := 90) rfl)) (hw _ (List.mem_of_getElem? (i := 87) rfl)) (by decide) (by decide)) (g := (mkF m 182 #[.val (.int p1), .val (.int p2), .val (.int p3), .val (.int p4), .val (.int p5), .val (.int (0 : Int32)), .val (.int bb), .val (.int rf), .val (.ref b1), .val (.ref x6), .val (.ref x), .val (.ref b7), .val (.ref ro), .unset, .unset] [(.ref ro), (.int bb), (.ref b7), (.ref b9), (.ref b9)])) rfl (by rw [hml]; rfl) (Steps.refl _) (a := b9) (argsL := [(.ref b7), (.int bb), (.ref ro)]) (rest := [(.ref b9)]) (lenOf pd_21 rfl) rfl (by show 2 * 0 + _ ≤ _; exact Nat.le_of_eq rfl) (hb hby at_182) (fun _ _ => ⟨rfl, e9, (by first | decide | exact Nat.le_of_ble_eq_true rfl), (by first | decide | exact Nat.le_of_ble_eq_true rfl)⟩)
        dsimp only [Pt.U, Pt.locs, Pt.cells, Pt.slots] at X10 l10 y10 z10 st10 hQ10
        have X10 := own_sn X10 (k' := 37) (n' := 161) y10 z10
        obtain ⟨rfl, N10, K10, GE10, GB10, GM10⟩ := hQ10
        have NF10 := own_fr l10 NJR0 N10
        have sf10_0 := Safe.keep K10 (sfS sf_b9 sf0) CR9.1 sf9_0
        have sf10_1 := Safe.keep K10 (sfS sf_b9 sf0) CR9.1 sf_b9
        have CR10 := CR9.trans (CHr.keep K10 (sfS sf_b9 sf0) CR9.1)
        have hk10 : kJR0 ≤ T10.heap.size := Nat.le_trans hk9 K10.1
        have f10_1 := f9_0.keep K10 (allS ge_b9 (all0))
        have f10_2 := f9_1.keep K10
        have f10_3 := f9_2.keep K10
        have f10_4 := f9_3.keep K10
        have f10_5 := f9_4.keep K10
        have f10_6 := f9_5.keep K10 (ninS ne_b7_b9 nin0)
        have f10_7 := f9_6.keep K10 (ninS ne_b7_b9 nin0)
        have f10_8 := f9_7.keep K10 (ninS ne_b7_b9 nin0)
        have f10_9 := A9.keep K10
        have Z10 : n0 ≤ T10.heap.size := Nat.le_trans Z9 K10.1
        have KK10 := Keep.trans K9 K10 (by intro z hz; simp at hz; rcases hz with rfl; all_goals first | (left; simp; done) | (right; assumption))
        refine own_go (fun _ k => st10.trans k) ?_
        show own_Gl p.tables e below F (T10.setTop (mkF m 185 #[.val (.int p1), .val (.int p2), .val (.int p3), .val (.int p4), .val (.int p5), .val (.int (0 : Int32)), .val (.int bb), .val (.int rf), .val (.ref b1), .val (.ref x6), .val (.ref x), .val (.ref b7), .val (.ref ro), .unset, .unset] [(.ref b9)]))
        rw [hbb] at GB10
        refine own_go (fun _ k => XS.astore X10.here hx rfl (hb hby at_185) rfl rfl (l' := #[.val (.int p1), .val (.int p2), .val (.int p3), .val (.int p4), .val (.int p5), .val (.int (0 : Int32)), .val (.int bb), .val (.int rf), .val (.ref b1), .val (.ref x6), .val (.ref x), .val (.ref b7), .val (.ref ro), .val (.ref b9), .unset]) rfl k) ?_
        show own_Gl p.tables e below F (T10.setTop (mkF m 187 #[.val (.int p1), .val (.int p2), .val (.int p3), .val (.int p4), .val (.int p5), .val (.int (0 : Int32)), .val (.int bb), .val (.int rf), .val (.ref b1), .val (.ref x6), .val (.ref x), .val (.ref b7), .val (.ref ro), .val (.ref b9), .unset] []))
        refine own_go (fun _ k => XS.iload X10.here hx rfl (hb hby at_187) rfl k) ?_
        show own_Gl p.tables e below F (T10.setTop (mkF m 189 #[.val (.int p1), .val (.int p2), .val (.int p3), .val (.int p4), .val (.int p5), .val (.int (0 : Int32)), .val (.int bb), .val (.int rf), .val (.ref b1), .val (.ref x6), .val (.ref x), .val (.ref b7), .val (.ref ro), .val (.ref b9), .unset] [(.int (0 : Int32))]))
        refine own_go (fun _ k => XS.ifYes X10.here hx rfl (pc0 := 189) (pc' := 198) rfl (hb hby at_189) rfl (XT.i0_le_t (by decide)) (by decide) (by decide) k) ?_
        show own_Gl p.tables e below F (T10.setTop (mkF m 198 #[.val (.int p1), .val (.int p2), .val (.int p3), .val (.int p4), .val (.int p5), .val (.int (0 : Int32)), .val (.int bb), .val (.int rf), .val (.ref b1), .val (.ref x6), .val (.ref x), .val (.ref b7), .val (.ref ro), .val (.ref b9), .unset] []))
        refine own_go (fun _ k => XS.iload X10.here hx rfl (hb hby at_198) rfl k) ?_
        show own_Gl p.tables e below F (T10.setTop (mkF m 200 #[.val (.int p1), .val (.int p2), .val (.int p3), .val (.int p4), .val (.int p5), .val (.int (0 : Int32)), .val (.int bb), .val (.int rf), .val (.ref b1), .val (.ref x6), .val (.ref x), .val (.ref b7), .val (.ref ro), .val (.ref b9), .unset] [(.int bb)]))
        refine own_go (fun _ k => XS.istore X10.here hx rfl (hb hby at_200) rfl (l' := #[.val (.int p1), .val (.int p2), .val (.int p3), .val (.int p4), .val (.int p5), .val (.int (0 : Int32)), .val (.int bb), .val (.int rf), .val (.ref b1), .val (.ref x6), .val (.ref x), .val (.ref b7), .val (.ref ro), .val (.ref b9), .val (.int bb)]) rfl k) ?_
        show own_Gl p.tables e below F (T10.setTop (mkF m 202 #[.val (.int p1), .val (.int p2), .val (.int p3), .val (.int p4), .val (.int p5), .val (.int (0 : Int32)), .val (.int bb), .val (.int rf), .val (.ref b1), .val (.ref x6), .val (.ref x), .val (.ref b7), .val (.ref ro), .val (.ref b9), .val (.int bb)] []))
        refine own_go (fun _ k => XS.aload X10.here hx rfl (hb hby at_202) rfl rfl k) ?_
        show own_Gl p.tables e below F (T10.setTop (mkF m 204 #[.val (.int p1), .val (.int p2), .val (.int p3), .val (.int p4), .val (.int p5), .val (.int (0 : Int32)), .val (.int bb), .val (.int rf), .val (.ref b1), .val (.ref x6), .val (.ref x), .val (.ref b7), .val (.ref ro), .val (.ref b9), .val (.int bb)] [(.ref b9)]))
        obtain ⟨cq11, kq11, q11a, q11b, q11c⟩ := isOf hZJR0 rfl GE10
        obtain ⟨_, _, ⟨T11, L11, k11, n11⟩, -, X11, ⟨Lc11, hQ11, l11, y11, z11⟩, st11⟩ := X10.virtualBack hx (y := (⟨"com/example/brokerwright/brokerwright/kafka/UserLookup", "holdsUser", "()Z"⟩ : MethodName)) (z := (⟨"com/example/brokerwright/brokerwright/kafka/UserLookup", "holdsUser", "()Z"⟩ : MethodName)) hoJR0 (mvT hZJR0 (hw _ (List.mem_of_getElem? (i := 132) rfl))) (mvT hZJR0 (hw _ (List.mem_of_getElem? (i := 133) rfl))) (notFace_of_selects (args := #[]) (mvT hZJR0 (hw _ (List.mem_of_getElem? (i := 135) rfl)))) (mvT hZJR0 (hw _ (List.mem_of_getElem? (i := 135) rfl))) (mvT hZJR0 (hw _ (List.mem_of_getElem? (i := 134) rfl))) (by decide) (backOf (W := 0) (rmHU_0 l Z a0 hw [] b9 el bb te ke T10.heap n0 Z10 GM10 GB10 (XL.ext f10_1.2) jbb (FL.ext f10_1.2) (VL.ext f10_1.2)) hZJR0 (hw _ (List.mem_of_getElem? (i := 136) rfl)) (hw _ (List.mem_of_getElem? (i := 87) rfl)) (by decide) (by decide)) q11a q11c (g := (mkF m 204 #[.val (.int p1), .val (.int p2), .val (.int p3), .val (.int p4), .val (.int p5), .val (.int (0 : Int32)), .val (.int bb), .val (.int rf), .val (.ref b1), .val (.ref x6), .val (.ref x), .val (.ref b7), .val (.ref ro), .val (.ref b9), .val (.int bb)] [(.ref b9)])) rfl (by rw [hml]; rfl) (Steps.refl _) (argsL := []) (rest := []) (lenOf pd_16 rfl) rfl (by show 2 * 0 + _ ≤ _; exact Nat.le_of_eq rfl) (hb hby at_204) (fun _ _ => ⟨rfl, rfl, (by first | decide | exact Nat.le_of_ble_eq_true rfl), (by first | decide | exact Nat.le_of_ble_eq_true rfl)⟩)
        dsimp only [Pt.U, Pt.locs, Pt.cells, Pt.slots] at X11 l11 y11 z11 st11 hQ11
        have X11 := own_sn X11 (k' := 37) (n' := 161) y11 z11
        obtain ⟨rfl, N11, e11⟩ := hQ11
        have NF11 := own_fr l11 NF10 N11
        refine own_go (fun _ k => st11.trans k) ?_
        show own_Gl p.tables e below F (T11.setTop (mkF m 207 #[.val (.int p1), .val (.int p2), .val (.int p3), .val (.int p4), .val (.int p5), .val (.int (0 : Int32)), .val (.int bb), .val (.int rf), .val (.ref b1), .val (.ref x6), .val (.ref x), .val (.ref b7), .val (.ref ro), .val (.ref b9), .val (.int bb)] [(.int bb)]))
        refine own_go (fun _ k => XS.iload X11.here hx rfl (hb hby at_207) rfl k) ?_
        show own_Gl p.tables e below F (T11.setTop (mkF m 209 #[.val (.int p1), .val (.int p2), .val (.int p3), .val (.int p4), .val (.int p5), .val (.int (0 : Int32)), .val (.int bb), .val (.int rf), .val (.ref b1), .val (.ref x6), .val (.ref x), .val (.ref b7), .val (.ref ro), .val (.ref b9), .val (.int bb)] [(.int bb), (.int bb)]))
        refine own_go (fun _ k => XS.icmpNo X11.here hx rfl (hb hby at_209) rfl (XT.ii_ne_f rfl) k) ?_
        show own_Gl p.tables e below F (T11.setTop (mkF m 212 #[.val (.int p1), .val (.int p2), .val (.int p3), .val (.int p4), .val (.int p5), .val (.int (0 : Int32)), .val (.int bb), .val (.int rf), .val (.ref b1), .val (.ref x6), .val (.ref x), .val (.ref b7), .val (.ref ro), .val (.ref b9), .val (.int bb)] []))
        refine own_go (fun _ k => XS.iconst X11.here hx rfl (hb hby at_212) k) ?_
        show own_Gl p.tables e below F (T11.setTop (mkF m 213 #[.val (.int p1), .val (.int p2), .val (.int p3), .val (.int p4), .val (.int p5), .val (.int (0 : Int32)), .val (.int bb), .val (.int rf), .val (.ref b1), .val (.ref x6), .val (.ref x), .val (.ref b7), .val (.ref ro), .val (.ref b9), .val (.int bb)] [(.int (1 : Int32))]))
        refine own_go (fun _ k => XS.goto X11.here hx rfl (pc0 := 213) (pc' := 217) rfl (hb hby at_213) (by decide) (by decide) k) ?_
        show own_Gl p.tables e below F (T11.setTop (mkF m 217 #[.val (.int p1), .val (.int p2), .val (.int p3), .val (.int p4), .val (.int p5), .val (.int (0 : Int32)), .val (.int bb), .val (.int rf), .val (.ref b1), .val (.ref x6), .val (.ref x), .val (.ref b7), .val (.ref ro), .val (.ref b9), .val (.int bb)] [(.int (1 : Int32))]))
        obtain ⟨fs, hr, hrun, hended, hRW⟩ := Jvm.Stand.leaveW X11 hSJR0 (by rw [e11]; exact hk10) (v := some (.int (1 : Int32))) (fun h => by rw [Bd.returns] at h; cases h)
        have CE : CHr Z own_EL s.vm s.heap T11.vm T11.heap := by rw [hh, e11]; exact CR10.trans (CHv.at X11 hZJR0 hEL CR10.1)
        subst hF
        refine own_fin ?_ ⟨hrun, hended, _, _, rfl, ?_, CE, hRW.1, hRW.2.1, hRW.2.2.1, hRW.2.2.2.mono (by first | decide | exact Nat.le_of_ble_eq_true rfl) (by first | decide | exact Nat.le_of_ble_eq_true rfl)⟩
        · exact own_retN X11 hx (t := .boolean) Bd.returns (by simp) rfl (hb hby at_217) hr
        · show Q_rm0 Z _ _ _ _ _ _ _ _ _ _ _ _ _ _ h0 n0 _ T11.heap _
          rw [e11]
          exact ⟨rfl, NF11⟩
      show own_Gl p.tables e below F (T8.setTop (mkF m 156 #[.val (.int p1), .val (.int p2), .val (.int p3), .val (.int p4), .val (.int p5), .val (.int (0 : Int32)), .val (.int bb), .val (.int rf), .val (.ref b1), .val (.ref x6), .val (.ref x), .val (.ref b7), .unset, .unset, .unset] [(.int rf)]))
      by_cases hrf : rf = 0
      · refine own_go (fun _ k => XS.ifYes X8.here hx rfl (pc0 := 156) (pc' := 167) rfl (hb hby at_156) rfl (XT.i0_eq_t hrf) (by decide) (by decide) k) ?_
        show own_Gl p.tables e below F (T8.setTop (mkF m 167 #[.val (.int p1), .val (.int p2), .val (.int p3), .val (.int p4), .val (.int p5), .val (.int (0 : Int32)), .val (.int bb), .val (.int rf), .val (.ref b1), .val (.ref x6), .val (.ref x), .val (.ref b7), .unset, .unset, .unset] []))
        obtain ⟨_, _, ⟨T12, L12, k12, n12⟩, -, X12, ⟨Lc12, hQ12, l12, y12, z12⟩, st12⟩ := Jvm.LawKit.callS X8 hx (y := (⟨"java/util/Optional", "empty", "()Ljava/util/Optional;"⟩ : MethodName)) hoJS (mvT hZJS (hw _ (List.mem_of_getElem? (i := 181) rfl))) (mvT hZJS (hw _ (List.mem_of_getElem? (i := 182) rfl))) (mvT hZJS (hw _ (List.mem_of_getElem? (i := 70) rfl))) (mvT hZJS (hw _ (List.mem_of_getElem? (i := 183) rfl))) (by decide) (backOf (W := 0) (rm30 l Z a0 hw []  oe T8.heap n0 Z8 f8_1 SE) hZJS (hw _ (List.mem_of_getElem? (i := 183) rfl)) (hw _ (List.mem_of_getElem? (i := 70) rfl)) (by decide) (by decide)) (g := (mkF m 167 #[.val (.int p1), .val (.int p2), .val (.int p3), .val (.int p4), .val (.int p5), .val (.int (0 : Int32)), .val (.int bb), .val (.int rf), .val (.ref b1), .val (.ref x6), .val (.ref x), .val (.ref b7), .unset, .unset, .unset] [])) rfl (by rw [hml]; rfl) (argsL := []) (rest := []) (lenOf pd_22 rfl) rfl (by show 2 * 0 + _ ≤ _; exact Nat.le_of_eq rfl) (hb hby at_167) (fun _ _ => ⟨rfl, rfl, (by first | decide | exact Nat.le_of_ble_eq_true rfl), (by first | decide | exact Nat.le_of_ble_eq_true rfl)⟩)
        dsimp only [Pt.U, Pt.locs, Pt.cells, Pt.slots] at X12 l12 y12 z12 st12 hQ12
        have X12 := own_sn X12 (k' := 17) (n' := 63) y12 z12
        obtain ⟨rfl, N12, e12⟩ := hQ12
        have NF12 := own_fr l12 NF8 N12
        refine own_go st12 ?_
        show own_Gl p.tables e below F (T12.setTop (mkF m 170 #[.val (.int p1), .val (.int p2), .val (.int p3), .val (.int p4), .val (.int p5), .val (.int (0 : Int32)), .val (.int bb), .val (.int rf), .val (.ref b1), .val (.ref x6), .val (.ref x), .val (.ref b7), .unset, .unset, .unset] [(.ref oe)]))
        exact JR0 _ _ _ _ _ oe (X12.mono (by decide) (by decide)) e12 NF12 Z8 KK8 hZJS hoJS hSJS hk8 CR8 sf8_0 f8_1 f8_2 f8_3 f8_4 GE8 GM8 GD8 GS8
      · refine own_go (fun _ k => XS.ifNo X8.here hx rfl (hb hby at_156) rfl (XT.i0_eq_f hrf) k) ?_
        show own_Gl p.tables e below F (T8.setTop (mkF m 159 #[.val (.int p1), .val (.int p2), .val (.int p3), .val (.int p4), .val (.int p5), .val (.int (0 : Int32)), .val (.int bb), .val (.int rf), .val (.ref b1), .val (.ref x6), .val (.ref x), .val (.ref b7), .unset, .unset, .unset] []))
        refine own_go (fun _ k => XS.aload X8.here hx rfl (hb hby at_159) rfl rfl k) ?_
        show own_Gl p.tables e below F (T8.setTop (mkF m 161 #[.val (.int p1), .val (.int p2), .val (.int p3), .val (.int p4), .val (.int p5), .val (.int (0 : Int32)), .val (.int bb), .val (.int rf), .val (.ref b1), .val (.ref x6), .val (.ref x), .val (.ref b7), .unset, .unset, .unset] [(.ref x6)]))
        obtain ⟨_, _, ⟨T13, L13, k13, n13⟩, -, X13, ⟨Lc13, hQ13, l13, y13, z13⟩, st13⟩ := Jvm.LawKit.callS X8 hx (y := (⟨"java/util/Optional", "of", "(Ljava/lang/Object;)Ljava/util/Optional;"⟩ : MethodName)) hoJS (mvT hZJS (hw _ (List.mem_of_getElem? (i := 68) rfl))) (mvT hZJS (hw _ (List.mem_of_getElem? (i := 69) rfl))) (mvT hZJS (hw _ (List.mem_of_getElem? (i := 70) rfl))) (mvT hZJS (hw _ (List.mem_of_getElem? (i := 71) rfl))) (by decide) (backOf (W := 0) (rm14 l Z a0 hw [] x6  T8.heap n0 Z8 ) hZJS (hw _ (List.mem_of_getElem? (i := 71) rfl)) (hw _ (List.mem_of_getElem? (i := 70) rfl)) (by decide) (by decide)) (g := (mkF m 161 #[.val (.int p1), .val (.int p2), .val (.int p3), .val (.int p4), .val (.int p5), .val (.int (0 : Int32)), .val (.int bb), .val (.int rf), .val (.ref b1), .val (.ref x6), .val (.ref x), .val (.ref b7), .unset, .unset, .unset] [(.ref x6)])) rfl (by rw [hml]; rfl) (argsL := [(.ref x6)]) (rest := []) (lenOf pd_23 rfl) rfl (by show 2 * 0 + _ ≤ _; exact Nat.le_of_eq rfl) (hb hby at_161) (fun _ _ => ⟨rfl, rfl, (by first | decide | exact Nat.le_of_ble_eq_true rfl), (by first | decide | exact Nat.le_of_ble_eq_true rfl)⟩)
        dsimp only [Pt.U, Pt.locs, Pt.cells, Pt.slots] at X13 l13 y13 z13 st13 hQ13
        have X13 := own_sn X13 (k' := 18) (n' := 64) y13 z13
        obtain ⟨x13, rfl, N13, K13⟩ := hQ13
        have NF13 := own_fr l13 NF8 N13
        have sf13_0 := Safe.keep K13 sf0 CR8.1 sf8_0
        have CR13 := CR8.trans (CHr.keep K13 sf0 CR8.1)
        have hk13 : kJS ≤ T13.heap.size := Nat.le_trans hk8 K13.1
        have f13_1 := f8_1.keep K13 (all0)
        have f13_2 := f8_2.keep K13
        have f13_3 := f8_3.keep K13
        have f13_4 := f8_4.keep K13
        have f13_5 := GE8.keep K13
        have f13_6 := GM8.keep K13 nin0
        have f13_7 := GD8.keep K13 nin0
        have f13_8 := GS8.keep K13 nin0
        have Z13 : n0 ≤ T13.heap.size := Nat.le_trans Z8 K13.1
        have KK13 := Keep.trans KK8 K13 (fun _ q => nomatch q)
        refine own_go st13 ?_
        show own_Gl p.tables e below F (T13.setTop (mkF m 164 #[.val (.int p1), .val (.int p2), .val (.int p3), .val (.int p4), .val (.int p5), .val (.int (0 : Int32)), .val (.int bb), .val (.int rf), .val (.ref b1), .val (.ref x6), .val (.ref x), .val (.ref b7), .unset, .unset, .unset] [(.ref x13)]))
        refine own_go (fun _ k => XS.goto X13.here hx rfl (pc0 := 164) (pc' := 170) rfl (hb hby at_164) (by decide) (by decide) k) ?_
        show own_Gl p.tables e below F (T13.setTop (mkF m 170 #[.val (.int p1), .val (.int p2), .val (.int p3), .val (.int p4), .val (.int p5), .val (.int (0 : Int32)), .val (.int bb), .val (.int rf), .val (.ref b1), .val (.ref x6), .val (.ref x), .val (.ref b7), .unset, .unset, .unset] [(.ref x13)]))
        exact JR0 _ _ _ _ _ x13 (X13.mono (by decide) (by decide)) rfl NF13 Z13 KK13 hZJS hoJS hSJS hk13 CR13 sf13_0 f13_1 f13_2 f13_3 f13_4 f13_5 f13_6 f13_7 f13_8
    · show own_Gl p.tables e below F (T8.setTop (mkF m 112 #[.val (.int p1), .val (.int p2), .val (.int p3), .val (.int p4), .val (.int p5), .val (.int (1 : Int32)), .val (.int bb), .val (.int rf), .val (.ref b1), .val (.ref x6), .val (.ref x), .val (.ref b7), .unset, .unset, .unset] []))
      refine own_go (fun _ k => XS.iload X8.here hx rfl (hb hby at_112) rfl k) ?_
      show own_Gl p.tables e below F (T8.setTop (mkF m 114 #[.val (.int p1), .val (.int p2), .val (.int p3), .val (.int p4), .val (.int p5), .val (.int (1 : Int32)), .val (.int bb), .val (.int rf), .val (.ref b1), .val (.ref x6), .val (.ref x), .val (.ref b7), .unset, .unset, .unset] [(.int (1 : Int32))]))
      refine own_go (fun _ k => XS.iconst X8.here hx rfl (hb hby at_114) k) ?_
      show own_Gl p.tables e below F (T8.setTop (mkF m 115 #[.val (.int p1), .val (.int p2), .val (.int p3), .val (.int p4), .val (.int p5), .val (.int (1 : Int32)), .val (.int bb), .val (.int rf), .val (.ref b1), .val (.ref x6), .val (.ref x), .val (.ref b7), .unset, .unset, .unset] [(.int (1 : Int32)), (.int (1 : Int32))]))
      refine own_go (fun _ k => XS.icmpNo X8.here hx rfl (hb hby at_115) rfl (XT.ii_lt_f (by decide)) k) ?_
      show own_Gl p.tables e below F (T8.setTop (mkF m 118 #[.val (.int p1), .val (.int p2), .val (.int p3), .val (.int p4), .val (.int p5), .val (.int (1 : Int32)), .val (.int bb), .val (.int rf), .val (.ref b1), .val (.ref x6), .val (.ref x), .val (.ref b7), .unset, .unset, .unset] []))
      refine own_go (fun _ k => XS.aload X8.here hx rfl (hb hby at_118) rfl rfl k) ?_
      show own_Gl p.tables e below F (T8.setTop (mkF m 120 #[.val (.int p1), .val (.int p2), .val (.int p3), .val (.int p4), .val (.int p5), .val (.int (1 : Int32)), .val (.int bb), .val (.int rf), .val (.ref b1), .val (.ref x6), .val (.ref x), .val (.ref b7), .unset, .unset, .unset] [(.ref b7)]))
      refine own_go (fun _ k => XS.aload X8.here hx rfl (hb hby at_120) rfl rfl k) ?_
      show own_Gl p.tables e below F (T8.setTop (mkF m 122 #[.val (.int p1), .val (.int p2), .val (.int p3), .val (.int p4), .val (.int p5), .val (.int (1 : Int32)), .val (.int bb), .val (.int rf), .val (.ref b1), .val (.ref x6), .val (.ref x), .val (.ref b7), .unset, .unset, .unset] [(.ref b1), (.ref b7)]))
      obtain ⟨cq14, kq14, q14a, q14b, q14c⟩ := isOf hZJS rfl GE8
      obtain ⟨_, _, ⟨T14, L14, k14, n14⟩, -, X14, ⟨Lc14, hQ14, l14, y14, z14⟩, st14⟩ := X8.virtualBack hx (y := (⟨"java/util/ArrayList", "add", "(Ljava/lang/Object;)Z"⟩ : MethodName)) (z := (⟨"java/util/ArrayList", "add", "(Ljava/lang/Object;)Z"⟩ : MethodName)) hoJS (mvT hZJS (hw _ (List.mem_of_getElem? (i := 152) rfl))) (mvT hZJS (hw _ (List.mem_of_getElem? (i := 153) rfl))) (notFace_of_selects (args := #[]) (mvT hZJS (hw _ (List.mem_of_getElem? (i := 155) rfl)))) (mvT hZJS (hw _ (List.mem_of_getElem? (i := 155) rfl))) (mvT hZJS (hw _ (List.mem_of_getElem? (i := 154) rfl))) (by decide) (backOf (W := 0) (rm1f l Z a0 hw [] b7 b1 dc kd T8.heap n0 Z8 GE8 GM8 GD8 GS8 ge_b7 f8_1 SD VD f8_2) hZJS (hw _ (List.mem_of_getElem? (i := 156) rfl)) (hw _ (List.mem_of_getElem? (i := 46) rfl)) (by decide) (by decide)) q14a q14c (g := (mkF m 122 #[.val (.int p1), .val (.int p2), .val (.int p3), .val (.int p4), .val (.int p5), .val (.int (1 : Int32)), .val (.int bb), .val (.int rf), .val (.ref b1), .val (.ref x6), .val (.ref x), .val (.ref b7), .unset, .unset, .unset] [(.ref b1), (.ref b7)])) rfl (by rw [hml]; rfl) (Steps.refl _) (argsL := [(.ref b1)]) (rest := []) (lenOf pd_24 rfl) rfl (by show 2 * 0 + _ ≤ _; exact Nat.le_of_eq rfl) (hb hby at_122) (fun _ _ => ⟨rfl, rfl, (by first | decide | exact Nat.le_of_ble_eq_true rfl), (by first | decide | exact Nat.le_of_ble_eq_true rfl)⟩)
      dsimp only [Pt.U, Pt.locs, Pt.cells, Pt.slots] at X14 l14 y14 z14 st14 hQ14
      have X14 := own_sn X14 (k' := 18) (n' := 73) y14 z14
      obtain ⟨b14, kb14, rfl, N14, K14, GE14, GM14, GD14, GS14, hb14, VB14, OB14, EB14⟩ := hQ14
      have NF14 := own_fr l14 NF8 N14
      have sf14_0 := Safe.keep K14 (sfS sf8_0 sf0) CR8.1 sf8_0
      have CR14 := CR8.trans (CHr.keep K14 (sfS sf8_0 sf0) CR8.1)
      have hk14 : kJS ≤ T14.heap.size := Nat.le_trans hk8 K14.1
      have f14_1 := f8_1.keep K14 (allS ge_b7 (all0))
      have f14_2 := f8_2.keep K14
      have f14_3 := f8_3.keep K14
      have f14_4 := f8_4.keep K14
      have f14_5 := GE8.keep K14
      have Z14 : n0 ≤ T14.heap.size := Nat.le_trans Z8 K14.1
      have KK14 := Keep.trans KK8 K14 (by intro z hz; simp at hz; rcases hz with rfl; all_goals first | (left; simp; done) | (right; assumption))
      refine own_go (fun _ k => st14.trans k) ?_
      show own_Gl p.tables e below F (T14.setTop (mkF m 125 #[.val (.int p1), .val (.int p2), .val (.int p3), .val (.int p4), .val (.int p5), .val (.int (1 : Int32)), .val (.int bb), .val (.int rf), .val (.ref b1), .val (.ref x6), .val (.ref x), .val (.ref b7), .unset, .unset, .unset] [(.int (1 : Int32))]))
      have szb14 : h0.size ≤ b14 := Nat.le_trans (KK8).1 hb14
      have SFB := Safe.exa (EL := own_EL) hZJS.alike EB14 (by decide) (by decide)
      refine own_go (fun _ k => XS.pop X14.here hx rfl (hb hby at_125) rfl rfl k) ?_
      show own_Gl p.tables e below F (T14.setTop (mkF m 126 #[.val (.int p1), .val (.int p2), .val (.int p3), .val (.int p4), .val (.int p5), .val (.int (1 : Int32)), .val (.int bb), .val (.int rf), .val (.ref b1), .val (.ref x6), .val (.ref x), .val (.ref b7), .unset, .unset, .unset] []))
      refine own_go (fun _ k => XS.iload X14.here hx rfl (hb hby at_126) rfl k) ?_
      show own_Gl p.tables e below F (T14.setTop (mkF m 128 #[.val (.int p1), .val (.int p2), .val (.int p3), .val (.int p4), .val (.int p5), .val (.int (1 : Int32)), .val (.int bb), .val (.int rf), .val (.ref b1), .val (.ref x6), .val (.ref x), .val (.ref b7), .unset, .unset, .unset] [(.int (1 : Int32))]))
      refine own_go (fun _ k => XS.iconst X14.here hx rfl (hb hby at_128) k) ?_
      show own_Gl p.tables e below F (T14.setTop (mkF m 129 #[.val (.int p1), .val (.int p2), .val (.int p3), .val (.int p4), .val (.int p5), .val (.int (1 : Int32)), .val (.int bb), .val (.int rf), .val (.ref b1), .val (.ref x6), .val (.ref x), .val (.ref b7), .unset, .unset, .unset] [(.int (2 : Int32)), (.int (1 : Int32))]))
      refine own_go (fun _ k => XS.icmpYes X14.here hx rfl (pc0 := 129) (pc' := 140) rfl (hb hby at_129) rfl (XT.ii_lt_t (by decide)) (by decide) (by decide) k) ?_
      show own_Gl p.tables e below F (T14.setTop (mkF m 140 #[.val (.int p1), .val (.int p2), .val (.int p3), .val (.int p4), .val (.int p5), .val (.int (1 : Int32)), .val (.int bb), .val (.int rf), .val (.ref b1), .val (.ref x6), .val (.ref x), .val (.ref b7), .unset, .unset, .unset] []))
      refine own_go (fun _ k => XS.iload X14.here hx rfl (hb hby at_140) rfl k) ?_
      show own_Gl p.tables e below F (T14.setTop (mkF m 142 #[.val (.int p1), .val (.int p2), .val (.int p3), .val (.int p4), .val (.int p5), .val (.int (1 : Int32)), .val (.int bb), .val (.int rf), .val (.ref b1), .val (.ref x6), .val (.ref x), .val (.ref b7), .unset, .unset, .unset] [(.int (1 : Int32))]))
      refine own_go (fun _ k => XS.iconst X14.here hx rfl (hb hby at_142) k) ?_
      show own_Gl p.tables e below F (T14.setTop (mkF m 143 #[.val (.int p1), .val (.int p2), .val (.int p3), .val (.int p4), .val (.int p5), .val (.int (1 : Int32)), .val (.int bb), .val (.int rf), .val (.ref b1), .val (.ref x6), .val (.ref x), .val (.ref b7), .unset, .unset, .unset] [(.int (3 : Int32)), (.int (1 : Int32))]))
      refine own_go (fun _ k => XS.icmpYes X14.here hx rfl (pc0 := 143) (pc' := 154) rfl (hb hby at_143) rfl (XT.ii_lt_t (by decide)) (by decide) (by decide) k) ?_
      show own_Gl p.tables e below F (T14.setTop (mkF m 154 #[.val (.int p1), .val (.int p2), .val (.int p3), .val (.int p4), .val (.int p5), .val (.int (1 : Int32)), .val (.int bb), .val (.int rf), .val (.ref b1), .val (.ref x6), .val (.ref x), .val (.ref b7), .unset, .unset, .unset] []))
      refine own_go (fun _ k => XS.iload X14.here hx rfl (hb hby at_154) rfl k) ?_
      show own_Gl p.tables e below F (T14.setTop (mkF m 156 #[.val (.int p1), .val (.int p2), .val (.int p3), .val (.int p4), .val (.int p5), .val (.int (1 : Int32)), .val (.int bb), .val (.int rf), .val (.ref b1), .val (.ref x6), .val (.ref x), .val (.ref b7), .unset, .unset, .unset] [(.int rf)]))
      have JR1 : ∀ (TJR1 : State) (lJR1 : List Loc) (hJR1 : Heap) (vJR1 : Vm) (kJR1 : Nat) (ro : Addr) (XJR1 : Stand p l e room_1 (s.setVm vJR1) m #[(.int p1), (.int p2), (.int p3), (.int p4), (.int p5)] below meth c TJR1 lJR1 33 150) (eJR1 : TJR1.heap = hJR1) (NJR1 : Fr n0 lJR1) (ZJR1 : n0 ≤ hJR1.size) (KJR1 : Keep h0 hJR1 []) (hZJR1 : Z.Warmed39 (s.setVm vJR1).vm) (hoJR1 : (s.setVm vJR1).vm.findClass "com/example/brokerwright/brokerwright/kafka/UserLookupHoldsUserPinLaw" = some m.cls) (hSJR1 : s.Since vJR1 kJR1) (hkJR1 : kJR1 ≤ hJR1.size) (CRJR1 : CHr Z own_EL s.vm h0 vJR1 hJR1) (sJR1_b7 : Safe Z own_EL vJR1 hJR1 b7) (sJR1_b14 : Safe Z own_EL vJR1 hJR1 b14) (fJR1_0 : Old Z n0 hJR1) (fJR1_1 : Exa Z hJR1 b1 "java/lang/String") (fJR1_2 : Exa Z hJR1 x6 "java/lang/String") (fJR1_3 : Exa Z hJR1 x "java/lang/String") (fJR1_4 : Exa Z hJR1 b7 "java/util/ArrayList") (fJR1_5 : Fld Z hJR1 b7 "java/util/AbstractList" "modCount" "I" (.int (1 : Int32))) (fJR1_6 : Fld Z hJR1 b7 "java/util/ArrayList" "elementData" "[Ljava/lang/Object;" (.ref b14)) (fJR1_7 : Fld Z hJR1 b7 "java/util/ArrayList" "size" "I" (.int (1 : Int32))) (fJR1_8 : Arv Z hJR1 b14 kb14 (.object "java/lang/Object") (10 : Int32) [(.ref b1), .null, .null, .null, .null, .null, .null, .null, .null, .null] .null) (fJR1_9 : Exa Z hJR1 b14 "[Ljava/lang/Object;") , own_Gl p.tables e below F (TJR1.setTop (mkF m 170 #[.val (.int p1), .val (.int p2), .val (.int p3), .val (.int p4), .val (.int p5), .val (.int (1 : Int32)), .val (.int bb), .val (.int rf), .val (.ref b1), .val (.ref x6), .val (.ref x), .val (.ref b7), .unset, .unset, .unset] [(.ref ro)])) := by
        intro TJR1 lJR1 hJR1 vJR1 kJR1 ro XJR1 eJR1 NJR1 ZJR1 KJR1 hZJR1 hoJR1 hSJR1 hkJR1 CRJR1 sJR1_b7 sJR1_b14 fJR1_0 fJR1_1 fJR1_2 fJR1_3 fJR1_4 fJR1_5 fJR1_6 fJR1_7 fJR1_8 fJR1_9
        show own_Gl p.tables e below F (TJR1.setTop (mkF m 170 #[.val (.int p1), .val (.int p2), .val (.int p3), .val (.int p4), .val (.int p5), .val (.int (1 : Int32)), .val (.int bb), .val (.int rf), .val (.ref b1), .val (.ref x6), .val (.ref x), .val (.ref b7), .unset, .unset, .unset] [(.ref ro)]))
        refine own_go (fun _ k => XS.astore XJR1.here hx rfl (hb hby at_170) rfl rfl (l' := #[.val (.int p1), .val (.int p2), .val (.int p3), .val (.int p4), .val (.int p5), .val (.int (1 : Int32)), .val (.int bb), .val (.int rf), .val (.ref b1), .val (.ref x6), .val (.ref x), .val (.ref b7), .val (.ref ro), .unset, .unset]) rfl k) ?_
        show own_Gl p.tables e below F (TJR1.setTop (mkF m 172 #[.val (.int p1), .val (.int p2), .val (.int p3), .val (.int p4), .val (.int p5), .val (.int (1 : Int32)), .val (.int bb), .val (.int rf), .val (.ref b1), .val (.ref x6), .val (.ref x), .val (.ref b7), .val (.ref ro), .unset, .unset] []))
        obtain ⟨T15, h15, X15, e15, E15, A15, D15, -, st15⟩ := newO XJR1 hx hZJR1 hoJR1 (hw _ (List.mem_of_getElem? (i := 85) rfl)) (hw _ (List.mem_of_getElem? (i := 86) rfl)) (hw _ (List.mem_of_getElem? (i := 87) rfl)) eJR1 (g := (mkF m 172 #[.val (.int p1), .val (.int p2), .val (.int p3), .val (.int p4), .val (.int p5), .val (.int (1 : Int32)), .val (.int bb), .val (.int rf), .val (.ref b1), .val (.ref x6), .val (.ref x), .val (.ref b7), .val (.ref ro), .unset, .unset] [])) rfl (hb hby at_172) (by first | decide | exact Nat.le_of_ble_eq_true rfl) (by first | decide | exact Nat.le_of_ble_eq_true rfl)
        obtain ⟨b15, g15⟩ : ∃ z, z = hJR1.size := ⟨_, rfl⟩
        rw [← g15] at A15 D15 st15
        have ne_b1_b15 : b1 ≠ b15 := Nat.ne_of_lt (Nat.lt_of_lt_of_le fJR1_1.lt (Nat.le_of_eq g15.symm))
        have ne_x6_b15 : x6 ≠ b15 := Nat.ne_of_lt (Nat.lt_of_lt_of_le fJR1_2.lt (Nat.le_of_eq g15.symm))
        have ne_x_b15 : x ≠ b15 := Nat.ne_of_lt (Nat.lt_of_lt_of_le fJR1_3.lt (Nat.le_of_eq g15.symm))
        have ne_b7_b15 : b7 ≠ b15 := Nat.ne_of_lt (Nat.lt_of_lt_of_le fJR1_4.lt (Nat.le_of_eq g15.symm))
        have ne_b14_b15 : b14 ≠ b15 := Nat.ne_of_lt (Nat.lt_of_lt_of_le fJR1_8.lt (Nat.le_of_eq g15.symm))
        have ge_b15 : n0 ≤ b15 := Nat.le_trans ZJR1 (Nat.le_of_eq g15.symm)
        have sz_b15 : h0.size ≤ b15 := Nat.le_trans (KJR1).1 (Nat.le_of_eq g15.symm)
        have sf_b15 := Safe.ext E15 CRJR1.1 (Safe.new (Z := Z) (EL := own_EL) (vm := vJR1) (Nat.le_of_eq g15.symm))
        have f15_0 := fJR1_0.ext E15
        have f15_1 := fJR1_1.ext E15
        have f15_2 := fJR1_2.ext E15
        have f15_3 := fJR1_3.ext E15
        have f15_4 := fJR1_4.ext E15
        have f15_5 := fJR1_5.ext E15
        have f15_6 := fJR1_6.ext E15
        have f15_7 := fJR1_7.ext E15
        have f15_8 := fJR1_8.ext E15
        have f15_9 := fJR1_9.ext E15
        have Z15 : n0 ≤ h15.size := Nat.le_trans ZJR1 E15.1
        have K15 := Keep.ext KJR1 E15
        have sf15_0 := Safe.ext E15 CRJR1.1 sJR1_b7
        have sf15_1 := Safe.ext E15 CRJR1.1 sJR1_b14
        have CR15 := CRJR1.trans (CHr.ext E15 CRJR1.1)
        have hk15 : kJR1 ≤ h15.size := Nat.le_trans hkJR1 E15.1
        have F15_mechanisms : Fld Z h15 b15 "com/example/brokerwright/brokerwright/kafka/UserLookup" "mechanisms" "Ljava/util/List;" .null := D15 (Or.inr (hw _ (List.mem_of_getElem? (i := 127) rfl))) (ty := (.object "java/util/List")) (by decide)
        have F15_holdsBindings : Fld Z h15 b15 "com/example/brokerwright/brokerwright/kafka/UserLookup" "holdsBindings" "Z" (.int (0 : Int32)) := D15 (Or.inr (hw _ (List.mem_of_getElem? (i := 129) rfl))) (ty := .boolean) (by decide)
        have F15_refusal : Fld Z h15 b15 "com/example/brokerwright/brokerwright/kafka/UserLookup" "refusal" "Ljava/util/Optional;" .null := D15 (Or.inr (hw _ (List.mem_of_getElem? (i := 131) rfl))) (ty := (.object "java/util/Optional")) (by decide)
        have X15 : Stand _ _ _ _ _ _ _ _ _ _ _ _ 34 153 := X15
        refine own_go st15 ?_
        show own_Gl p.tables e below F (T15.setTop (mkF m 175 #[.val (.int p1), .val (.int p2), .val (.int p3), .val (.int p4), .val (.int p5), .val (.int (1 : Int32)), .val (.int bb), .val (.int rf), .val (.ref b1), .val (.ref x6), .val (.ref x), .val (.ref b7), .val (.ref ro), .unset, .unset] [(.ref b15)]))
        refine own_go (fun _ k => XS.dup X15.here hx rfl (hb hby at_175) rfl rfl k) ?_
        show own_Gl p.tables e below F (T15.setTop (mkF m 176 #[.val (.int p1), .val (.int p2), .val (.int p3), .val (.int p4), .val (.int p5), .val (.int (1 : Int32)), .val (.int bb), .val (.int rf), .val (.ref b1), .val (.ref x6), .val (.ref x), .val (.ref b7), .val (.ref ro), .unset, .unset] [(.ref b15), (.ref b15)]))
        refine own_go (fun _ k => XS.aload X15.here hx rfl (hb hby at_176) rfl rfl k) ?_
        show own_Gl p.tables e below F (T15.setTop (mkF m 178 #[.val (.int p1), .val (.int p2), .val (.int p3), .val (.int p4), .val (.int p5), .val (.int (1 : Int32)), .val (.int bb), .val (.int rf), .val (.ref b1), .val (.ref x6), .val (.ref x), .val (.ref b7), .val (.ref ro), .unset, .unset] [(.ref b7), (.ref b15), (.ref b15)]))
        refine own_go (fun _ k => XS.iload X15.here hx rfl (hb hby at_178) rfl k) ?_
        show own_Gl p.tables e below F (T15.setTop (mkF m 180 #[.val (.int p1), .val (.int p2), .val (.int p3), .val (.int p4), .val (.int p5), .val (.int (1 : Int32)), .val (.int bb), .val (.int rf), .val (.ref b1), .val (.ref x6), .val (.ref x), .val (.ref b7), .val (.ref ro), .unset, .unset] [(.int bb), (.ref b7), (.ref b15), (.ref b15)]))
        refine own_go (fun _ k => XS.aload X15.here hx rfl (hb hby at_180) rfl rfl k) ?_
        show own_Gl p.tables e below F (T15.setTop (mkF m 182 #[.val (.int p1), .val (.int p2), .val (.int p3), .val (.int p4), .val (.int p5), .val (.int (1 : Int32)), .val (.int bb), .val (.int rf), .val (.ref b1), .val (.ref x6), .val (.ref x), .val (.ref b7), .val (.ref ro), .unset, .unset] [(.ref ro), (.int bb), (.ref b7), (.ref b15), (.ref b15)]))
        obtain ⟨_, _, ⟨T16, L16, k16, n16⟩, -, X16, ⟨Lc16, hQ16, l16, y16, z16⟩, st16⟩ := X15.specialBack hx (y := (⟨"com/example/brokerwright/brokerwright/kafka/UserLookup", "<init>", "(Ljava/util/List;ZLjava/util/Optional;)V"⟩ : MethodName)) rfl hoJR1 (mvT hZJR1 (hw _ (List.mem_of_getElem? (i := 88) rfl))) (mvT hZJR1 (hw _ (List.mem_of_getElem? (i := 89) rfl))) (mvT hZJR1 (hw _ (List.mem_of_getElem? (i := 90) rfl))) (by decide) (backOf (W := 1) (rmUI_1 l Z a0 hw [] b15 b7 bb ro b14 kb14 mi b1 em h15 n0 Z15 A15 F15_mechanisms F15_holdsBindings F15_refusal ge_b15 f15_4 f15_6 f15_7 f15_8 f15_9 MI f15_1 f15_0 SM) hZJR1 (hw _ (List.mem_of_getElem? (i := 90) rfl)) (hw _ (List.mem_of_getElem? (i := 87) rfl)) (by decide) (by decide)) (g := (mkF m 182 #[.val (.int p1), .val (.int p2), .val (.int p3), .val (.int p4), .val (.int p5), .val (.int (1 : Int32)), .val (.int bb), .val (.int rf), .val (.ref b1), .val (.ref x6), .val (.ref x), .val (.ref b7), .val (.ref ro), .unset, .unset] [(.ref ro), (.int bb), (.ref b7), (.ref b15), (.ref b15)])) rfl (by rw [hml]; rfl) (Steps.refl _) (a := b15) (argsL := [(.ref b7), (.int bb), (.ref ro)]) (rest := [(.ref b15)]) (lenOf pd_21 rfl) rfl (by show 2 * 0 + _ ≤ _; exact Nat.le_of_eq rfl) (hb hby at_182) (fun _ _ => ⟨rfl, e15, (by first | decide | exact Nat.le_of_ble_eq_true rfl), (by first | decide | exact Nat.le_of_ble_eq_true rfl)⟩)
        dsimp only [Pt.U, Pt.locs, Pt.cells, Pt.slots] at X16 l16 y16 z16 st16 hQ16
        have X16 := own_sn X16 (k' := 37) (n' := 161) y16 z16
        obtain ⟨rfl, N16, K16, GE16, GB16, y16, GM16, EY16⟩ := hQ16
        have NF16 := own_fr l16 NJR1 N16
        have sf16_0 := Safe.keep K16 (sfS sf_b15 sf0) CR15.1 sf15_0
        have sf16_1 := Safe.keep K16 (sfS sf_b15 sf0) CR15.1 sf15_1
        have sf16_2 := Safe.keep K16 (sfS sf_b15 sf0) CR15.1 sf_b15
        have CR16 := CR15.trans (CHr.keep K16 (sfS sf_b15 sf0) CR15.1)
        have hk16 : kJR1 ≤ T16.heap.size := Nat.le_trans hk15 K16.1
        have f16_1 := f15_0.keep K16 (allS ge_b15 (all0))
        have f16_2 := f15_1.keep K16
        have f16_3 := f15_2.keep K16
        have f16_4 := f15_3.keep K16
        have f16_5 := f15_4.keep K16
        have f16_6 := f15_5.keep K16 (ninS ne_b7_b15 nin0)
        have f16_7 := f15_6.keep K16 (ninS ne_b7_b15 nin0)
        have f16_8 := f15_7.keep K16 (ninS ne_b7_b15 nin0)
        have f16_9 := f15_8.keep K16 (ninS ne_b14_b15 nin0)
        have f16_10 := f15_9.keep K16
        have f16_11 := A15.keep K16
        have Z16 : n0 ≤ T16.heap.size := Nat.le_trans Z15 K16.1
        have KK16 := Keep.trans K15 K16 (by intro z hz; simp at hz; rcases hz with rfl; all_goals first | (left; simp; done) | (right; assumption))
        refine own_go (fun _ k => st16.trans k) ?_
        show own_Gl p.tables e below F (T16.setTop (mkF m 185 #[.val (.int p1), .val (.int p2), .val (.int p3), .val (.int p4), .val (.int p5), .val (.int (1 : Int32)), .val (.int bb), .val (.int rf), .val (.ref b1), .val (.ref x6), .val (.ref x), .val (.ref b7), .val (.ref ro), .unset, .unset] [(.ref b15)]))
        rw [hbb] at GB16
        refine own_go (fun _ k => XS.astore X16.here hx rfl (hb hby at_185) rfl rfl (l' := #[.val (.int p1), .val (.int p2), .val (.int p3), .val (.int p4), .val (.int p5), .val (.int (1 : Int32)), .val (.int bb), .val (.int rf), .val (.ref b1), .val (.ref x6), .val (.ref x), .val (.ref b7), .val (.ref ro), .val (.ref b15), .unset]) rfl k) ?_
        show own_Gl p.tables e below F (T16.setTop (mkF m 187 #[.val (.int p1), .val (.int p2), .val (.int p3), .val (.int p4), .val (.int p5), .val (.int (1 : Int32)), .val (.int bb), .val (.int rf), .val (.ref b1), .val (.ref x6), .val (.ref x), .val (.ref b7), .val (.ref ro), .val (.ref b15), .unset] []))
        refine own_go (fun _ k => XS.iload X16.here hx rfl (hb hby at_187) rfl k) ?_
        show own_Gl p.tables e below F (T16.setTop (mkF m 189 #[.val (.int p1), .val (.int p2), .val (.int p3), .val (.int p4), .val (.int p5), .val (.int (1 : Int32)), .val (.int bb), .val (.int rf), .val (.ref b1), .val (.ref x6), .val (.ref x), .val (.ref b7), .val (.ref ro), .val (.ref b15), .unset] [(.int (1 : Int32))]))
        refine own_go (fun _ k => XS.ifNo X16.here hx rfl (hb hby at_189) rfl (XT.i0_le_f (by decide)) k) ?_
        show own_Gl p.tables e below F (T16.setTop (mkF m 192 #[.val (.int p1), .val (.int p2), .val (.int p3), .val (.int p4), .val (.int p5), .val (.int (1 : Int32)), .val (.int bb), .val (.int rf), .val (.ref b1), .val (.ref x6), .val (.ref x), .val (.ref b7), .val (.ref ro), .val (.ref b15), .unset] []))
        refine own_go (fun _ k => XS.iconst X16.here hx rfl (hb hby at_192) k) ?_
        show own_Gl p.tables e below F (T16.setTop (mkF m 193 #[.val (.int p1), .val (.int p2), .val (.int p3), .val (.int p4), .val (.int p5), .val (.int (1 : Int32)), .val (.int bb), .val (.int rf), .val (.ref b1), .val (.ref x6), .val (.ref x), .val (.ref b7), .val (.ref ro), .val (.ref b15), .unset] [(.int (1 : Int32))]))
        refine own_go (fun _ k => XS.istore X16.here hx rfl (hb hby at_193) rfl (l' := #[.val (.int p1), .val (.int p2), .val (.int p3), .val (.int p4), .val (.int p5), .val (.int (1 : Int32)), .val (.int bb), .val (.int rf), .val (.ref b1), .val (.ref x6), .val (.ref x), .val (.ref b7), .val (.ref ro), .val (.ref b15), .val (.int (1 : Int32))]) rfl k) ?_
        show own_Gl p.tables e below F (T16.setTop (mkF m 195 #[.val (.int p1), .val (.int p2), .val (.int p3), .val (.int p4), .val (.int p5), .val (.int (1 : Int32)), .val (.int bb), .val (.int rf), .val (.ref b1), .val (.ref x6), .val (.ref x), .val (.ref b7), .val (.ref ro), .val (.ref b15), .val (.int (1 : Int32))] []))
        refine own_go (fun _ k => XS.goto X16.here hx rfl (pc0 := 195) (pc' := 202) rfl (hb hby at_195) (by decide) (by decide) k) ?_
        show own_Gl p.tables e below F (T16.setTop (mkF m 202 #[.val (.int p1), .val (.int p2), .val (.int p3), .val (.int p4), .val (.int p5), .val (.int (1 : Int32)), .val (.int bb), .val (.int rf), .val (.ref b1), .val (.ref x6), .val (.ref x), .val (.ref b7), .val (.ref ro), .val (.ref b15), .val (.int (1 : Int32))] []))
        refine own_go (fun _ k => XS.aload X16.here hx rfl (hb hby at_202) rfl rfl k) ?_
        show own_Gl p.tables e below F (T16.setTop (mkF m 204 #[.val (.int p1), .val (.int p2), .val (.int p3), .val (.int p4), .val (.int p5), .val (.int (1 : Int32)), .val (.int bb), .val (.int rf), .val (.ref b1), .val (.ref x6), .val (.ref x), .val (.ref b7), .val (.ref ro), .val (.ref b15), .val (.int (1 : Int32))] [(.ref b15)]))
        obtain ⟨cq17, kq17, q17a, q17b, q17c⟩ := isOf hZJR1 rfl GE16
        obtain ⟨_, _, ⟨T17, L17, k17, n17⟩, -, X17, ⟨Lc17, hQ17, l17, y17, z17⟩, st17⟩ := X16.virtualBack hx (y := (⟨"com/example/brokerwright/brokerwright/kafka/UserLookup", "holdsUser", "()Z"⟩ : MethodName)) (z := (⟨"com/example/brokerwright/brokerwright/kafka/UserLookup", "holdsUser", "()Z"⟩ : MethodName)) hoJR1 (mvT hZJR1 (hw _ (List.mem_of_getElem? (i := 132) rfl))) (mvT hZJR1 (hw _ (List.mem_of_getElem? (i := 133) rfl))) (notFace_of_selects (args := #[]) (mvT hZJR1 (hw _ (List.mem_of_getElem? (i := 135) rfl)))) (mvT hZJR1 (hw _ (List.mem_of_getElem? (i := 135) rfl))) (mvT hZJR1 (hw _ (List.mem_of_getElem? (i := 134) rfl))) (by decide) (backOf (W := 0) (rmHU_1 l Z a0 hw [] b15 y16 bb T16.heap n0 Z16 GM16 GB16 EY16 jbb) hZJR1 (hw _ (List.mem_of_getElem? (i := 136) rfl)) (hw _ (List.mem_of_getElem? (i := 87) rfl)) (by decide) (by decide)) q17a q17c (g := (mkF m 204 #[.val (.int p1), .val (.int p2), .val (.int p3), .val (.int p4), .val (.int p5), .val (.int (1 : Int32)), .val (.int bb), .val (.int rf), .val (.ref b1), .val (.ref x6), .val (.ref x), .val (.ref b7), .val (.ref ro), .val (.ref b15), .val (.int (1 : Int32))] [(.ref b15)])) rfl (by rw [hml]; rfl) (Steps.refl _) (argsL := []) (rest := []) (lenOf pd_16 rfl) rfl (by show 2 * 0 + _ ≤ _; exact Nat.le_of_eq rfl) (hb hby at_204) (fun _ _ => ⟨rfl, rfl, (by first | decide | exact Nat.le_of_ble_eq_true rfl), (by first | decide | exact Nat.le_of_ble_eq_true rfl)⟩)
        dsimp only [Pt.U, Pt.locs, Pt.cells, Pt.slots] at X17 l17 y17 z17 st17 hQ17
        have X17 := own_sn X17 (k' := 37) (n' := 161) y17 z17
        obtain ⟨rfl, N17, e17⟩ := hQ17
        have NF17 := own_fr l17 NF16 N17
        refine own_go (fun _ k => st17.trans k) ?_
        show own_Gl p.tables e below F (T17.setTop (mkF m 207 #[.val (.int p1), .val (.int p2), .val (.int p3), .val (.int p4), .val (.int p5), .val (.int (1 : Int32)), .val (.int bb), .val (.int rf), .val (.ref b1), .val (.ref x6), .val (.ref x), .val (.ref b7), .val (.ref ro), .val (.ref b15), .val (.int (1 : Int32))] [(.int (1 : Int32))]))
        refine own_go (fun _ k => XS.iload X17.here hx rfl (hb hby at_207) rfl k) ?_
        show own_Gl p.tables e below F (T17.setTop (mkF m 209 #[.val (.int p1), .val (.int p2), .val (.int p3), .val (.int p4), .val (.int p5), .val (.int (1 : Int32)), .val (.int bb), .val (.int rf), .val (.ref b1), .val (.ref x6), .val (.ref x), .val (.ref b7), .val (.ref ro), .val (.ref b15), .val (.int (1 : Int32))] [(.int (1 : Int32)), (.int (1 : Int32))]))
        refine own_go (fun _ k => XS.icmpNo X17.here hx rfl (hb hby at_209) rfl (XT.ii_ne_f rfl) k) ?_
        show own_Gl p.tables e below F (T17.setTop (mkF m 212 #[.val (.int p1), .val (.int p2), .val (.int p3), .val (.int p4), .val (.int p5), .val (.int (1 : Int32)), .val (.int bb), .val (.int rf), .val (.ref b1), .val (.ref x6), .val (.ref x), .val (.ref b7), .val (.ref ro), .val (.ref b15), .val (.int (1 : Int32))] []))
        refine own_go (fun _ k => XS.iconst X17.here hx rfl (hb hby at_212) k) ?_
        show own_Gl p.tables e below F (T17.setTop (mkF m 213 #[.val (.int p1), .val (.int p2), .val (.int p3), .val (.int p4), .val (.int p5), .val (.int (1 : Int32)), .val (.int bb), .val (.int rf), .val (.ref b1), .val (.ref x6), .val (.ref x), .val (.ref b7), .val (.ref ro), .val (.ref b15), .val (.int (1 : Int32))] [(.int (1 : Int32))]))
        refine own_go (fun _ k => XS.goto X17.here hx rfl (pc0 := 213) (pc' := 217) rfl (hb hby at_213) (by decide) (by decide) k) ?_
        show own_Gl p.tables e below F (T17.setTop (mkF m 217 #[.val (.int p1), .val (.int p2), .val (.int p3), .val (.int p4), .val (.int p5), .val (.int (1 : Int32)), .val (.int bb), .val (.int rf), .val (.ref b1), .val (.ref x6), .val (.ref x), .val (.ref b7), .val (.ref ro), .val (.ref b15), .val (.int (1 : Int32))] [(.int (1 : Int32))]))
        obtain ⟨fs, hr, hrun, hended, hRW⟩ := Jvm.Stand.leaveW X17 hSJR1 (by rw [e17]; exact hk16) (v := some (.int (1 : Int32))) (fun h => by rw [Bd.returns] at h; cases h)
        have CE : CHr Z own_EL s.vm s.heap T17.vm T17.heap := by rw [hh, e17]; exact CR16.trans (CHv.at X17 hZJR1 hEL CR16.1)
        subst hF
        refine own_fin ?_ ⟨hrun, hended, _, _, rfl, ?_, CE, hRW.1, hRW.2.1, hRW.2.2.1, hRW.2.2.2.mono (by first | decide | exact Nat.le_of_ble_eq_true rfl) (by first | decide | exact Nat.le_of_ble_eq_true rfl)⟩
        · exact own_retN X17 hx (t := .boolean) Bd.returns (by simp) rfl (hb hby at_217) hr
        · show Q_rm0 Z _ _ _ _ _ _ _ _ _ _ _ _ _ _ h0 n0 _ T17.heap _
          rw [e17]
          exact ⟨rfl, NF17⟩
      show own_Gl p.tables e below F (T14.setTop (mkF m 156 #[.val (.int p1), .val (.int p2), .val (.int p3), .val (.int p4), .val (.int p5), .val (.int (1 : Int32)), .val (.int bb), .val (.int rf), .val (.ref b1), .val (.ref x6), .val (.ref x), .val (.ref b7), .unset, .unset, .unset] [(.int rf)]))
      by_cases hrf : rf = 0
      · refine own_go (fun _ k => XS.ifYes X14.here hx rfl (pc0 := 156) (pc' := 167) rfl (hb hby at_156) rfl (XT.i0_eq_t hrf) (by decide) (by decide) k) ?_
        show own_Gl p.tables e below F (T14.setTop (mkF m 167 #[.val (.int p1), .val (.int p2), .val (.int p3), .val (.int p4), .val (.int p5), .val (.int (1 : Int32)), .val (.int bb), .val (.int rf), .val (.ref b1), .val (.ref x6), .val (.ref x), .val (.ref b7), .unset, .unset, .unset] []))
        obtain ⟨_, _, ⟨T18, L18, k18, n18⟩, -, X18, ⟨Lc18, hQ18, l18, y18, z18⟩, st18⟩ := Jvm.LawKit.callS X14 hx (y := (⟨"java/util/Optional", "empty", "()Ljava/util/Optional;"⟩ : MethodName)) hoJS (mvT hZJS (hw _ (List.mem_of_getElem? (i := 181) rfl))) (mvT hZJS (hw _ (List.mem_of_getElem? (i := 182) rfl))) (mvT hZJS (hw _ (List.mem_of_getElem? (i := 70) rfl))) (mvT hZJS (hw _ (List.mem_of_getElem? (i := 183) rfl))) (by decide) (backOf (W := 0) (rm30 l Z a0 hw []  oe T14.heap n0 Z14 f14_1 SE) hZJS (hw _ (List.mem_of_getElem? (i := 183) rfl)) (hw _ (List.mem_of_getElem? (i := 70) rfl)) (by decide) (by decide)) (g := (mkF m 167 #[.val (.int p1), .val (.int p2), .val (.int p3), .val (.int p4), .val (.int p5), .val (.int (1 : Int32)), .val (.int bb), .val (.int rf), .val (.ref b1), .val (.ref x6), .val (.ref x), .val (.ref b7), .unset, .unset, .unset] [])) rfl (by rw [hml]; rfl) (argsL := []) (rest := []) (lenOf pd_22 rfl) rfl (by show 2 * 0 + _ ≤ _; exact Nat.le_of_eq rfl) (hb hby at_167) (fun _ _ => ⟨rfl, rfl, (by first | decide | exact Nat.le_of_ble_eq_true rfl), (by first | decide | exact Nat.le_of_ble_eq_true rfl)⟩)
        dsimp only [Pt.U, Pt.locs, Pt.cells, Pt.slots] at X18 l18 y18 z18 st18 hQ18
        have X18 := own_sn X18 (k' := 18) (n' := 73) y18 z18
        obtain ⟨rfl, N18, e18⟩ := hQ18
        have NF18 := own_fr l18 NF14 N18
        refine own_go st18 ?_
        show own_Gl p.tables e below F (T18.setTop (mkF m 170 #[.val (.int p1), .val (.int p2), .val (.int p3), .val (.int p4), .val (.int p5), .val (.int (1 : Int32)), .val (.int bb), .val (.int rf), .val (.ref b1), .val (.ref x6), .val (.ref x), .val (.ref b7), .unset, .unset, .unset] [(.ref oe)]))
        exact JR1 _ _ _ _ _ oe (X18.mono (by decide) (by decide)) e18 NF18 Z14 KK14 hZJS hoJS hSJS hk14 CR14 sf14_0 SFB f14_1 f14_2 f14_3 f14_4 GE14 GM14 GD14 GS14 VB14 EB14
      · refine own_go (fun _ k => XS.ifNo X14.here hx rfl (hb hby at_156) rfl (XT.i0_eq_f hrf) k) ?_
        show own_Gl p.tables e below F (T14.setTop (mkF m 159 #[.val (.int p1), .val (.int p2), .val (.int p3), .val (.int p4), .val (.int p5), .val (.int (1 : Int32)), .val (.int bb), .val (.int rf), .val (.ref b1), .val (.ref x6), .val (.ref x), .val (.ref b7), .unset, .unset, .unset] []))
        refine own_go (fun _ k => XS.aload X14.here hx rfl (hb hby at_159) rfl rfl k) ?_
        show own_Gl p.tables e below F (T14.setTop (mkF m 161 #[.val (.int p1), .val (.int p2), .val (.int p3), .val (.int p4), .val (.int p5), .val (.int (1 : Int32)), .val (.int bb), .val (.int rf), .val (.ref b1), .val (.ref x6), .val (.ref x), .val (.ref b7), .unset, .unset, .unset] [(.ref x6)]))
        obtain ⟨_, _, ⟨T19, L19, k19, n19⟩, -, X19, ⟨Lc19, hQ19, l19, y19, z19⟩, st19⟩ := Jvm.LawKit.callS X14 hx (y := (⟨"java/util/Optional", "of", "(Ljava/lang/Object;)Ljava/util/Optional;"⟩ : MethodName)) hoJS (mvT hZJS (hw _ (List.mem_of_getElem? (i := 68) rfl))) (mvT hZJS (hw _ (List.mem_of_getElem? (i := 69) rfl))) (mvT hZJS (hw _ (List.mem_of_getElem? (i := 70) rfl))) (mvT hZJS (hw _ (List.mem_of_getElem? (i := 71) rfl))) (by decide) (backOf (W := 0) (rm14 l Z a0 hw [] x6  T14.heap n0 Z14 ) hZJS (hw _ (List.mem_of_getElem? (i := 71) rfl)) (hw _ (List.mem_of_getElem? (i := 70) rfl)) (by decide) (by decide)) (g := (mkF m 161 #[.val (.int p1), .val (.int p2), .val (.int p3), .val (.int p4), .val (.int p5), .val (.int (1 : Int32)), .val (.int bb), .val (.int rf), .val (.ref b1), .val (.ref x6), .val (.ref x), .val (.ref b7), .unset, .unset, .unset] [(.ref x6)])) rfl (by rw [hml]; rfl) (argsL := [(.ref x6)]) (rest := []) (lenOf pd_23 rfl) rfl (by show 2 * 0 + _ ≤ _; exact Nat.le_of_eq rfl) (hb hby at_161) (fun _ _ => ⟨rfl, rfl, (by first | decide | exact Nat.le_of_ble_eq_true rfl), (by first | decide | exact Nat.le_of_ble_eq_true rfl)⟩)
        dsimp only [Pt.U, Pt.locs, Pt.cells, Pt.slots] at X19 l19 y19 z19 st19 hQ19
        have X19 := own_sn X19 (k' := 19) (n' := 74) y19 z19
        obtain ⟨x19, rfl, N19, K19⟩ := hQ19
        have NF19 := own_fr l19 NF14 N19
        have sf19_0 := Safe.keep K19 sf0 CR14.1 sf14_0
        have sf19_1 := Safe.keep K19 sf0 CR14.1 SFB
        have CR19 := CR14.trans (CHr.keep K19 sf0 CR14.1)
        have hk19 : kJS ≤ T19.heap.size := Nat.le_trans hk14 K19.1
        have f19_1 := f14_1.keep K19 (all0)
        have f19_2 := f14_2.keep K19
        have f19_3 := f14_3.keep K19
        have f19_4 := f14_4.keep K19
        have f19_5 := GE14.keep K19
        have f19_6 := GM14.keep K19 nin0
        have f19_7 := GD14.keep K19 nin0
        have f19_8 := GS14.keep K19 nin0
        have f19_9 := VB14.keep K19 nin0
        have f19_10 := EB14.keep K19
        have Z19 : n0 ≤ T19.heap.size := Nat.le_trans Z14 K19.1
        have KK19 := Keep.trans KK14 K19 (fun _ q => nomatch q)
        refine own_go st19 ?_
        show own_Gl p.tables e below F (T19.setTop (mkF m 164 #[.val (.int p1), .val (.int p2), .val (.int p3), .val (.int p4), .val (.int p5), .val (.int (1 : Int32)), .val (.int bb), .val (.int rf), .val (.ref b1), .val (.ref x6), .val (.ref x), .val (.ref b7), .unset, .unset, .unset] [(.ref x19)]))
        refine own_go (fun _ k => XS.goto X19.here hx rfl (pc0 := 164) (pc' := 170) rfl (hb hby at_164) (by decide) (by decide) k) ?_
        show own_Gl p.tables e below F (T19.setTop (mkF m 170 #[.val (.int p1), .val (.int p2), .val (.int p3), .val (.int p4), .val (.int p5), .val (.int (1 : Int32)), .val (.int bb), .val (.int rf), .val (.ref b1), .val (.ref x6), .val (.ref x), .val (.ref b7), .unset, .unset, .unset] [(.ref x19)]))
        exact JR1 _ _ _ _ _ x19 (X19.mono (by decide) (by decide)) rfl NF19 Z19 KK19 hZJS hoJS hSJS hk19 CR19 sf19_0 sf19_1 f19_1 f19_2 f19_3 f19_4 f19_5 f19_6 f19_7 f19_8 f19_9 f19_10
    · show own_Gl p.tables e below F (T8.setTop (mkF m 112 #[.val (.int p1), .val (.int p2), .val (.int p3), .val (.int p4), .val (.int p5), .val (.int (2 : Int32)), .val (.int bb), .val (.int rf), .val (.ref b1), .val (.ref x6), .val (.ref x), .val (.ref b7), .unset, .unset, .unset] []))
      refine own_go (fun _ k => XS.iload X8.here hx rfl (hb hby at_112) rfl k) ?_
      show own_Gl p.tables e below F (T8.setTop (mkF m 114 #[.val (.int p1), .val (.int p2), .val (.int p3), .val (.int p4), .val (.int p5), .val (.int (2 : Int32)), .val (.int bb), .val (.int rf), .val (.ref b1), .val (.ref x6), .val (.ref x), .val (.ref b7), .unset, .unset, .unset] [(.int (2 : Int32))]))
      refine own_go (fun _ k => XS.iconst X8.here hx rfl (hb hby at_114) k) ?_
      show own_Gl p.tables e below F (T8.setTop (mkF m 115 #[.val (.int p1), .val (.int p2), .val (.int p3), .val (.int p4), .val (.int p5), .val (.int (2 : Int32)), .val (.int bb), .val (.int rf), .val (.ref b1), .val (.ref x6), .val (.ref x), .val (.ref b7), .unset, .unset, .unset] [(.int (1 : Int32)), (.int (2 : Int32))]))
      refine own_go (fun _ k => XS.icmpNo X8.here hx rfl (hb hby at_115) rfl (XT.ii_lt_f (by decide)) k) ?_
      show own_Gl p.tables e below F (T8.setTop (mkF m 118 #[.val (.int p1), .val (.int p2), .val (.int p3), .val (.int p4), .val (.int p5), .val (.int (2 : Int32)), .val (.int bb), .val (.int rf), .val (.ref b1), .val (.ref x6), .val (.ref x), .val (.ref b7), .unset, .unset, .unset] []))
      refine own_go (fun _ k => XS.aload X8.here hx rfl (hb hby at_118) rfl rfl k) ?_
      show own_Gl p.tables e below F (T8.setTop (mkF m 120 #[.val (.int p1), .val (.int p2), .val (.int p3), .val (.int p4), .val (.int p5), .val (.int (2 : Int32)), .val (.int bb), .val (.int rf), .val (.ref b1), .val (.ref x6), .val (.ref x), .val (.ref b7), .unset, .unset, .unset] [(.ref b7)]))
      refine own_go (fun _ k => XS.aload X8.here hx rfl (hb hby at_120) rfl rfl k) ?_
      show own_Gl p.tables e below F (T8.setTop (mkF m 122 #[.val (.int p1), .val (.int p2), .val (.int p3), .val (.int p4), .val (.int p5), .val (.int (2 : Int32)), .val (.int bb), .val (.int rf), .val (.ref b1), .val (.ref x6), .val (.ref x), .val (.ref b7), .unset, .unset, .unset] [(.ref b1), (.ref b7)]))
      obtain ⟨cq20, kq20, q20a, q20b, q20c⟩ := isOf hZJS rfl GE8
      obtain ⟨_, _, ⟨T20, L20, k20, n20⟩, -, X20, ⟨Lc20, hQ20, l20, y20, z20⟩, st20⟩ := X8.virtualBack hx (y := (⟨"java/util/ArrayList", "add", "(Ljava/lang/Object;)Z"⟩ : MethodName)) (z := (⟨"java/util/ArrayList", "add", "(Ljava/lang/Object;)Z"⟩ : MethodName)) hoJS (mvT hZJS (hw _ (List.mem_of_getElem? (i := 152) rfl))) (mvT hZJS (hw _ (List.mem_of_getElem? (i := 153) rfl))) (notFace_of_selects (args := #[]) (mvT hZJS (hw _ (List.mem_of_getElem? (i := 155) rfl)))) (mvT hZJS (hw _ (List.mem_of_getElem? (i := 155) rfl))) (mvT hZJS (hw _ (List.mem_of_getElem? (i := 154) rfl))) (by decide) (backOf (W := 0) (rm1f l Z a0 hw [] b7 b1 dc kd T8.heap n0 Z8 GE8 GM8 GD8 GS8 ge_b7 f8_1 SD VD f8_2) hZJS (hw _ (List.mem_of_getElem? (i := 156) rfl)) (hw _ (List.mem_of_getElem? (i := 46) rfl)) (by decide) (by decide)) q20a q20c (g := (mkF m 122 #[.val (.int p1), .val (.int p2), .val (.int p3), .val (.int p4), .val (.int p5), .val (.int (2 : Int32)), .val (.int bb), .val (.int rf), .val (.ref b1), .val (.ref x6), .val (.ref x), .val (.ref b7), .unset, .unset, .unset] [(.ref b1), (.ref b7)])) rfl (by rw [hml]; rfl) (Steps.refl _) (argsL := [(.ref b1)]) (rest := []) (lenOf pd_24 rfl) rfl (by show 2 * 0 + _ ≤ _; exact Nat.le_of_eq rfl) (hb hby at_122) (fun _ _ => ⟨rfl, rfl, (by first | decide | exact Nat.le_of_ble_eq_true rfl), (by first | decide | exact Nat.le_of_ble_eq_true rfl)⟩)
      dsimp only [Pt.U, Pt.locs, Pt.cells, Pt.slots] at X20 l20 y20 z20 st20 hQ20
      have X20 := own_sn X20 (k' := 18) (n' := 73) y20 z20
      obtain ⟨b20, kb20, rfl, N20, K20, GE20, GM20, GD20, GS20, hb20, VB20, OB20, EB20⟩ := hQ20
      have NF20 := own_fr l20 NF8 N20
      have sf20_0 := Safe.keep K20 (sfS sf8_0 sf0) CR8.1 sf8_0
      have CR20 := CR8.trans (CHr.keep K20 (sfS sf8_0 sf0) CR8.1)
      have hk20 : kJS ≤ T20.heap.size := Nat.le_trans hk8 K20.1
      have f20_1 := f8_1.keep K20 (allS ge_b7 (all0))
      have f20_2 := f8_2.keep K20
      have f20_3 := f8_3.keep K20
      have f20_4 := f8_4.keep K20
      have f20_5 := GE8.keep K20
      have Z20 : n0 ≤ T20.heap.size := Nat.le_trans Z8 K20.1
      have KK20 := Keep.trans KK8 K20 (by intro z hz; simp at hz; rcases hz with rfl; all_goals first | (left; simp; done) | (right; assumption))
      refine own_go (fun _ k => st20.trans k) ?_
      show own_Gl p.tables e below F (T20.setTop (mkF m 125 #[.val (.int p1), .val (.int p2), .val (.int p3), .val (.int p4), .val (.int p5), .val (.int (2 : Int32)), .val (.int bb), .val (.int rf), .val (.ref b1), .val (.ref x6), .val (.ref x), .val (.ref b7), .unset, .unset, .unset] [(.int (1 : Int32))]))
      have szb20 : h0.size ≤ b20 := Nat.le_trans (KK8).1 hb20
      have SFB := Safe.exa (EL := own_EL) hZJS.alike EB20 (by decide) (by decide)
      refine own_go (fun _ k => XS.pop X20.here hx rfl (hb hby at_125) rfl rfl k) ?_
      show own_Gl p.tables e below F (T20.setTop (mkF m 126 #[.val (.int p1), .val (.int p2), .val (.int p3), .val (.int p4), .val (.int p5), .val (.int (2 : Int32)), .val (.int bb), .val (.int rf), .val (.ref b1), .val (.ref x6), .val (.ref x), .val (.ref b7), .unset, .unset, .unset] []))
      refine own_go (fun _ k => XS.iload X20.here hx rfl (hb hby at_126) rfl k) ?_
      show own_Gl p.tables e below F (T20.setTop (mkF m 128 #[.val (.int p1), .val (.int p2), .val (.int p3), .val (.int p4), .val (.int p5), .val (.int (2 : Int32)), .val (.int bb), .val (.int rf), .val (.ref b1), .val (.ref x6), .val (.ref x), .val (.ref b7), .unset, .unset, .unset] [(.int (2 : Int32))]))
      refine own_go (fun _ k => XS.iconst X20.here hx rfl (hb hby at_128) k) ?_
      show own_Gl p.tables e below F (T20.setTop (mkF m 129 #[.val (.int p1), .val (.int p2), .val (.int p3), .val (.int p4), .val (.int p5), .val (.int (2 : Int32)), .val (.int bb), .val (.int rf), .val (.ref b1), .val (.ref x6), .val (.ref x), .val (.ref b7), .unset, .unset, .unset] [(.int (2 : Int32)), (.int (2 : Int32))]))
      refine own_go (fun _ k => XS.icmpNo X20.here hx rfl (hb hby at_129) rfl (XT.ii_lt_f (by decide)) k) ?_
      show own_Gl p.tables e below F (T20.setTop (mkF m 132 #[.val (.int p1), .val (.int p2), .val (.int p3), .val (.int p4), .val (.int p5), .val (.int (2 : Int32)), .val (.int bb), .val (.int rf), .val (.ref b1), .val (.ref x6), .val (.ref x), .val (.ref b7), .unset, .unset, .unset] []))
      refine own_go (fun _ k => XS.aload X20.here hx rfl (hb hby at_132) rfl rfl k) ?_
      show own_Gl p.tables e below F (T20.setTop (mkF m 134 #[.val (.int p1), .val (.int p2), .val (.int p3), .val (.int p4), .val (.int p5), .val (.int (2 : Int32)), .val (.int bb), .val (.int rf), .val (.ref b1), .val (.ref x6), .val (.ref x), .val (.ref b7), .unset, .unset, .unset] [(.ref b7)]))
      refine own_go (fun _ k => XS.aload X20.here hx rfl (hb hby at_134) rfl rfl k) ?_
      show own_Gl p.tables e below F (T20.setTop (mkF m 136 #[.val (.int p1), .val (.int p2), .val (.int p3), .val (.int p4), .val (.int p5), .val (.int (2 : Int32)), .val (.int bb), .val (.int rf), .val (.ref b1), .val (.ref x6), .val (.ref x), .val (.ref b7), .unset, .unset, .unset] [(.ref x6), (.ref b7)]))
      obtain ⟨cq21, kq21, q21a, q21b, q21c⟩ := isOf hZJS rfl GE20
      obtain ⟨_, _, ⟨T21, L21, k21, n21⟩, -, X21, ⟨Lc21, hQ21, l21, y21, z21⟩, st21⟩ := X20.virtualBack hx (y := (⟨"java/util/ArrayList", "add", "(Ljava/lang/Object;)Z"⟩ : MethodName)) (z := (⟨"java/util/ArrayList", "add", "(Ljava/lang/Object;)Z"⟩ : MethodName)) hoJS (mvT hZJS (hw _ (List.mem_of_getElem? (i := 152) rfl))) (mvT hZJS (hw _ (List.mem_of_getElem? (i := 153) rfl))) (notFace_of_selects (args := #[]) (mvT hZJS (hw _ (List.mem_of_getElem? (i := 155) rfl)))) (mvT hZJS (hw _ (List.mem_of_getElem? (i := 155) rfl))) (mvT hZJS (hw _ (List.mem_of_getElem? (i := 154) rfl))) (by decide) (backOf (W := 0) (rm1_1 l Z a0 hw [] b7 x6 b20 kb20 b1 T20.heap n0 Z20 GE20 GM20 GD20 GS20 ge_b7 VB20 OB20 EB20 (Nat.le_trans Z8 hb20) f20_3) hZJS (hw _ (List.mem_of_getElem? (i := 156) rfl)) (hw _ (List.mem_of_getElem? (i := 46) rfl)) (by decide) (by decide)) q21a q21c (g := (mkF m 136 #[.val (.int p1), .val (.int p2), .val (.int p3), .val (.int p4), .val (.int p5), .val (.int (2 : Int32)), .val (.int bb), .val (.int rf), .val (.ref b1), .val (.ref x6), .val (.ref x), .val (.ref b7), .unset, .unset, .unset] [(.ref x6), (.ref b7)])) rfl (by rw [hml]; rfl) (Steps.refl _) (argsL := [(.ref x6)]) (rest := []) (lenOf pd_24 rfl) rfl (by show 2 * 0 + _ ≤ _; exact Nat.le_of_eq rfl) (hb hby at_136) (fun _ _ => ⟨rfl, rfl, (by first | decide | exact Nat.le_of_ble_eq_true rfl), (by first | decide | exact Nat.le_of_ble_eq_true rfl)⟩)
      dsimp only [Pt.U, Pt.locs, Pt.cells, Pt.slots] at X21 l21 y21 z21 st21 hQ21
      have X21 := own_sn X21 (k' := 19) (n' := 83) y21 z21
      obtain ⟨rfl, N21, K21, GE21, GM21, GD21, GS21, VB21, EB21⟩ := hQ21
      have NF21 := own_fr l21 NF20 N21
      have sf21_0 := Safe.keep K21 (sfS sf20_0 (sfS SFB sf0)) CR20.1 sf20_0
      have sf21_1 := Safe.keep K21 (sfS sf20_0 (sfS SFB sf0)) CR20.1 SFB
      have CR21 := CR20.trans (CHr.keep K21 (sfS sf20_0 (sfS SFB sf0)) CR20.1)
      have hk21 : kJS ≤ T21.heap.size := Nat.le_trans hk20 K21.1
      have f21_1 := f20_1.keep K21 (allS ge_b7 (allS (Nat.le_trans Z8 hb20) (all0)))
      have f21_2 := f20_2.keep K21
      have f21_3 := f20_3.keep K21
      have f21_4 := f20_4.keep K21
      have f21_5 := GE20.keep K21
      have f21_10 := EB20.keep K21
      have Z21 : n0 ≤ T21.heap.size := Nat.le_trans Z20 K21.1
      have KK21 := Keep.trans KK20 K21 (by intro z hz; simp at hz; rcases hz with rfl | rfl; all_goals first | (left; simp; done) | (right; assumption))
      refine own_go (fun _ k => st21.trans k) ?_
      show own_Gl p.tables e below F (T21.setTop (mkF m 139 #[.val (.int p1), .val (.int p2), .val (.int p3), .val (.int p4), .val (.int p5), .val (.int (2 : Int32)), .val (.int bb), .val (.int rf), .val (.ref b1), .val (.ref x6), .val (.ref x), .val (.ref b7), .unset, .unset, .unset] [(.int (1 : Int32))]))
      refine own_go (fun _ k => XS.pop X21.here hx rfl (hb hby at_139) rfl rfl k) ?_
      show own_Gl p.tables e below F (T21.setTop (mkF m 140 #[.val (.int p1), .val (.int p2), .val (.int p3), .val (.int p4), .val (.int p5), .val (.int (2 : Int32)), .val (.int bb), .val (.int rf), .val (.ref b1), .val (.ref x6), .val (.ref x), .val (.ref b7), .unset, .unset, .unset] []))
      refine own_go (fun _ k => XS.iload X21.here hx rfl (hb hby at_140) rfl k) ?_
      show own_Gl p.tables e below F (T21.setTop (mkF m 142 #[.val (.int p1), .val (.int p2), .val (.int p3), .val (.int p4), .val (.int p5), .val (.int (2 : Int32)), .val (.int bb), .val (.int rf), .val (.ref b1), .val (.ref x6), .val (.ref x), .val (.ref b7), .unset, .unset, .unset] [(.int (2 : Int32))]))
      refine own_go (fun _ k => XS.iconst X21.here hx rfl (hb hby at_142) k) ?_
      show own_Gl p.tables e below F (T21.setTop (mkF m 143 #[.val (.int p1), .val (.int p2), .val (.int p3), .val (.int p4), .val (.int p5), .val (.int (2 : Int32)), .val (.int bb), .val (.int rf), .val (.ref b1), .val (.ref x6), .val (.ref x), .val (.ref b7), .unset, .unset, .unset] [(.int (3 : Int32)), (.int (2 : Int32))]))
      refine own_go (fun _ k => XS.icmpYes X21.here hx rfl (pc0 := 143) (pc' := 154) rfl (hb hby at_143) rfl (XT.ii_lt_t (by decide)) (by decide) (by decide) k) ?_
      show own_Gl p.tables e below F (T21.setTop (mkF m 154 #[.val (.int p1), .val (.int p2), .val (.int p3), .val (.int p4), .val (.int p5), .val (.int (2 : Int32)), .val (.int bb), .val (.int rf), .val (.ref b1), .val (.ref x6), .val (.ref x), .val (.ref b7), .unset, .unset, .unset] []))
      refine own_go (fun _ k => XS.iload X21.here hx rfl (hb hby at_154) rfl k) ?_
      show own_Gl p.tables e below F (T21.setTop (mkF m 156 #[.val (.int p1), .val (.int p2), .val (.int p3), .val (.int p4), .val (.int p5), .val (.int (2 : Int32)), .val (.int bb), .val (.int rf), .val (.ref b1), .val (.ref x6), .val (.ref x), .val (.ref b7), .unset, .unset, .unset] [(.int rf)]))
      have JR2 : ∀ (TJR2 : State) (lJR2 : List Loc) (hJR2 : Heap) (vJR2 : Vm) (kJR2 : Nat) (ro : Addr) (XJR2 : Stand p l e room_1 (s.setVm vJR2) m #[(.int p1), (.int p2), (.int p3), (.int p4), (.int p5)] below meth c TJR2 lJR2 33 150) (eJR2 : TJR2.heap = hJR2) (NJR2 : Fr n0 lJR2) (ZJR2 : n0 ≤ hJR2.size) (KJR2 : Keep h0 hJR2 []) (hZJR2 : Z.Warmed39 (s.setVm vJR2).vm) (hoJR2 : (s.setVm vJR2).vm.findClass "com/example/brokerwright/brokerwright/kafka/UserLookupHoldsUserPinLaw" = some m.cls) (hSJR2 : s.Since vJR2 kJR2) (hkJR2 : kJR2 ≤ hJR2.size) (CRJR2 : CHr Z own_EL s.vm h0 vJR2 hJR2) (sJR2_b7 : Safe Z own_EL vJR2 hJR2 b7) (sJR2_b20 : Safe Z own_EL vJR2 hJR2 b20) (fJR2_0 : Old Z n0 hJR2) (fJR2_1 : Exa Z hJR2 b1 "java/lang/String") (fJR2_2 : Exa Z hJR2 x6 "java/lang/String") (fJR2_3 : Exa Z hJR2 x "java/lang/String") (fJR2_4 : Exa Z hJR2 b7 "java/util/ArrayList") (fJR2_5 : Exa Z hJR2 b20 "[Ljava/lang/Object;") (fJR2_6 : Fld Z hJR2 b7 "java/util/AbstractList" "modCount" "I" (.int (2 : Int32))) (fJR2_7 : Fld Z hJR2 b7 "java/util/ArrayList" "elementData" "[Ljava/lang/Object;" (.ref b20)) (fJR2_8 : Fld Z hJR2 b7 "java/util/ArrayList" "size" "I" (.int (2 : Int32))) (fJR2_9 : Arv Z hJR2 b20 kb20 (.object "java/lang/Object") (10 : Int32) [(.ref b1), (.ref x6), .null, .null, .null, .null, .null, .null, .null, .null] .null) , own_Gl p.tables e below F (TJR2.setTop (mkF m 170 #[.val (.int p1), .val (.int p2), .val (.int p3), .val (.int p4), .val (.int p5), .val (.int (2 : Int32)), .val (.int bb), .val (.int rf), .val (.ref b1), .val (.ref x6), .val (.ref x), .val (.ref b7), .unset, .unset, .unset] [(.ref ro)])) := by
        intro TJR2 lJR2 hJR2 vJR2 kJR2 ro XJR2 eJR2 NJR2 ZJR2 KJR2 hZJR2 hoJR2 hSJR2 hkJR2 CRJR2 sJR2_b7 sJR2_b20 fJR2_0 fJR2_1 fJR2_2 fJR2_3 fJR2_4 fJR2_5 fJR2_6 fJR2_7 fJR2_8 fJR2_9
        show own_Gl p.tables e below F (TJR2.setTop (mkF m 170 #[.val (.int p1), .val (.int p2), .val (.int p3), .val (.int p4), .val (.int p5), .val (.int (2 : Int32)), .val (.int bb), .val (.int rf), .val (.ref b1), .val (.ref x6), .val (.ref x), .val (.ref b7), .unset, .unset, .unset] [(.ref ro)]))
        refine own_go (fun _ k => XS.astore XJR2.here hx rfl (hb hby at_170) rfl rfl (l' := #[.val (.int p1), .val (.int p2), .val (.int p3), .val (.int p4), .val (.int p5), .val (.int (2 : Int32)), .val (.int bb), .val (.int rf), .val (.ref b1), .val (.ref x6), .val (.ref x), .val (.ref b7), .val (.ref ro), .unset, .unset]) rfl k) ?_
        show own_Gl p.tables e below F (TJR2.setTop (mkF m 172 #[.val (.int p1), .val (.int p2), .val (.int p3), .val (.int p4), .val (.int p5), .val (.int (2 : Int32)), .val (.int bb), .val (.int rf), .val (.ref b1), .val (.ref x6), .val (.ref x), .val (.ref b7), .val (.ref ro), .unset, .unset] []))
        obtain ⟨T22, h22, X22, e22, E22, A22, D22, -, st22⟩ := newO XJR2 hx hZJR2 hoJR2 (hw _ (List.mem_of_getElem? (i := 85) rfl)) (hw _ (List.mem_of_getElem? (i := 86) rfl)) (hw _ (List.mem_of_getElem? (i := 87) rfl)) eJR2 (g := (mkF m 172 #[.val (.int p1), .val (.int p2), .val (.int p3), .val (.int p4), .val (.int p5), .val (.int (2 : Int32)), .val (.int bb), .val (.int rf), .val (.ref b1), .val (.ref x6), .val (.ref x), .val (.ref b7), .val (.ref ro), .unset, .unset] [])) rfl (hb hby at_172) (by first | decide | exact Nat.le_of_ble_eq_true rfl) (by first | decide | exact Nat.le_of_ble_eq_true rfl)
        obtain ⟨b22, g22⟩ : ∃ z, z = hJR2.size := ⟨_, rfl⟩
        rw [← g22] at A22 D22 st22
        have ne_b1_b22 : b1 ≠ b22 := Nat.ne_of_lt (Nat.lt_of_lt_of_le fJR2_1.lt (Nat.le_of_eq g22.symm))
        have ne_x6_b22 : x6 ≠ b22 := Nat.ne_of_lt (Nat.lt_of_lt_of_le fJR2_2.lt (Nat.le_of_eq g22.symm))
        have ne_x_b22 : x ≠ b22 := Nat.ne_of_lt (Nat.lt_of_lt_of_le fJR2_3.lt (Nat.le_of_eq g22.symm))
        have ne_b7_b22 : b7 ≠ b22 := Nat.ne_of_lt (Nat.lt_of_lt_of_le fJR2_4.lt (Nat.le_of_eq g22.symm))
        have ne_b20_b22 : b20 ≠ b22 := Nat.ne_of_lt (Nat.lt_of_lt_of_le fJR2_5.lt (Nat.le_of_eq g22.symm))
        have ge_b22 : n0 ≤ b22 := Nat.le_trans ZJR2 (Nat.le_of_eq g22.symm)
        have sz_b22 : h0.size ≤ b22 := Nat.le_trans (KJR2).1 (Nat.le_of_eq g22.symm)
        have sf_b22 := Safe.ext E22 CRJR2.1 (Safe.new (Z := Z) (EL := own_EL) (vm := vJR2) (Nat.le_of_eq g22.symm))
        have f22_0 := fJR2_0.ext E22
        have f22_1 := fJR2_1.ext E22
        have f22_2 := fJR2_2.ext E22
        have f22_3 := fJR2_3.ext E22
        have f22_4 := fJR2_4.ext E22
        have f22_5 := fJR2_5.ext E22
        have f22_6 := fJR2_6.ext E22
        have f22_7 := fJR2_7.ext E22
        have f22_8 := fJR2_8.ext E22
        have f22_9 := fJR2_9.ext E22
        have Z22 : n0 ≤ h22.size := Nat.le_trans ZJR2 E22.1
        have K22 := Keep.ext KJR2 E22
        have sf22_0 := Safe.ext E22 CRJR2.1 sJR2_b7
        have sf22_1 := Safe.ext E22 CRJR2.1 sJR2_b20
        have CR22 := CRJR2.trans (CHr.ext E22 CRJR2.1)
        have hk22 : kJR2 ≤ h22.size := Nat.le_trans hkJR2 E22.1
        have F22_mechanisms : Fld Z h22 b22 "com/example/brokerwright/brokerwright/kafka/UserLookup" "mechanisms" "Ljava/util/List;" .null := D22 (Or.inr (hw _ (List.mem_of_getElem? (i := 127) rfl))) (ty := (.object "java/util/List")) (by decide)
        have F22_holdsBindings : Fld Z h22 b22 "com/example/brokerwright/brokerwright/kafka/UserLookup" "holdsBindings" "Z" (.int (0 : Int32)) := D22 (Or.inr (hw _ (List.mem_of_getElem? (i := 129) rfl))) (ty := .boolean) (by decide)
        have F22_refusal : Fld Z h22 b22 "com/example/brokerwright/brokerwright/kafka/UserLookup" "refusal" "Ljava/util/Optional;" .null := D22 (Or.inr (hw _ (List.mem_of_getElem? (i := 131) rfl))) (ty := (.object "java/util/Optional")) (by decide)
        have X22 : Stand _ _ _ _ _ _ _ _ _ _ _ _ 34 153 := X22
        refine own_go st22 ?_
        show own_Gl p.tables e below F (T22.setTop (mkF m 175 #[.val (.int p1), .val (.int p2), .val (.int p3), .val (.int p4), .val (.int p5), .val (.int (2 : Int32)), .val (.int bb), .val (.int rf), .val (.ref b1), .val (.ref x6), .val (.ref x), .val (.ref b7), .val (.ref ro), .unset, .unset] [(.ref b22)]))
        refine own_go (fun _ k => XS.dup X22.here hx rfl (hb hby at_175) rfl rfl k) ?_
        show own_Gl p.tables e below F (T22.setTop (mkF m 176 #[.val (.int p1), .val (.int p2), .val (.int p3), .val (.int p4), .val (.int p5), .val (.int (2 : Int32)), .val (.int bb), .val (.int rf), .val (.ref b1), .val (.ref x6), .val (.ref x), .val (.ref b7), .val (.ref ro), .unset, .unset] [(.ref b22), (.ref b22)]))
        refine own_go (fun _ k => XS.aload X22.here hx rfl (hb hby at_176) rfl rfl k) ?_
        show own_Gl p.tables e below F (T22.setTop (mkF m 178 #[.val (.int p1), .val (.int p2), .val (.int p3), .val (.int p4), .val (.int p5), .val (.int (2 : Int32)), .val (.int bb), .val (.int rf), .val (.ref b1), .val (.ref x6), .val (.ref x), .val (.ref b7), .val (.ref ro), .unset, .unset] [(.ref b7), (.ref b22), (.ref b22)]))
        refine own_go (fun _ k => XS.iload X22.here hx rfl (hb hby at_178) rfl k) ?_
        show own_Gl p.tables e below F (T22.setTop (mkF m 180 #[.val (.int p1), .val (.int p2), .val (.int p3), .val (.int p4), .val (.int p5), .val (.int (2 : Int32)), .val (.int bb), .val (.int rf), .val (.ref b1), .val (.ref x6), .val (.ref x), .val (.ref b7), .val (.ref ro), .unset, .unset] [(.int bb), (.ref b7), (.ref b22), (.ref b22)]))
        refine own_go (fun _ k => XS.aload X22.here hx rfl (hb hby at_180) rfl rfl k) ?_
        show own_Gl p.tables e below F (T22.setTop (mkF m 182 #[.val (.int p1), .val (.int p2), .val (.int p3), .val (.int p4), .val (.int p5), .val (.int (2 : Int32)), .val (.int bb), .val (.int rf), .val (.ref b1), .val (.ref x6), .val (.ref x), .val (.ref b7), .val (.ref ro), .unset, .unset] [(.ref ro), (.int bb), (.ref b7), (.ref b22), (.ref b22)]))
        obtain ⟨_, _, ⟨T23, L23, k23, n23⟩, -, X23, ⟨Lc23, hQ23, l23, y23, z23⟩, st23⟩ := X22.specialBack hx (y := (⟨"com/example/brokerwright/brokerwright/kafka/UserLookup", "<init>", "(Ljava/util/List;ZLjava/util/Optional;)V"⟩ : MethodName)) rfl hoJR2 (mvT hZJR2 (hw _ (List.mem_of_getElem? (i := 88) rfl))) (mvT hZJR2 (hw _ (List.mem_of_getElem? (i := 89) rfl))) (mvT hZJR2 (hw _ (List.mem_of_getElem? (i := 90) rfl))) (by decide) (backOf (W := 1) (rmUI_2 l Z a0 hw [] b22 b7 bb ro b20 kb20 mi b1 x6 h22 n0 Z22 A22 F22_mechanisms F22_holdsBindings F22_refusal ge_b22 f22_4 f22_7 f22_8 f22_9 f22_5 MI f22_1 f22_2) hZJR2 (hw _ (List.mem_of_getElem? (i := 90) rfl)) (hw _ (List.mem_of_getElem? (i := 87) rfl)) (by decide) (by decide)) (g := (mkF m 182 #[.val (.int p1), .val (.int p2), .val (.int p3), .val (.int p4), .val (.int p5), .val (.int (2 : Int32)), .val (.int bb), .val (.int rf), .val (.ref b1), .val (.ref x6), .val (.ref x), .val (.ref b7), .val (.ref ro), .unset, .unset] [(.ref ro), (.int bb), (.ref b7), (.ref b22), (.ref b22)])) rfl (by rw [hml]; rfl) (Steps.refl _) (a := b22) (argsL := [(.ref b7), (.int bb), (.ref ro)]) (rest := [(.ref b22)]) (lenOf pd_21 rfl) rfl (by show 2 * 0 + _ ≤ _; exact Nat.le_of_eq rfl) (hb hby at_182) (fun _ _ => ⟨rfl, e22, (by first | decide | exact Nat.le_of_ble_eq_true rfl), (by first | decide | exact Nat.le_of_ble_eq_true rfl)⟩)
        dsimp only [Pt.U, Pt.locs, Pt.cells, Pt.slots] at X23 l23 y23 z23 st23 hQ23
        have X23 := own_sn X23 (k' := 37) (n' := 161) y23 z23
        obtain ⟨rfl, N23, K23, GE23, GB23, y23, GM23, EY23⟩ := hQ23
        have NF23 := own_fr l23 NJR2 N23
        have sf23_0 := Safe.keep K23 (sfS sf_b22 sf0) CR22.1 sf22_0
        have sf23_1 := Safe.keep K23 (sfS sf_b22 sf0) CR22.1 sf22_1
        have sf23_2 := Safe.keep K23 (sfS sf_b22 sf0) CR22.1 sf_b22
        have CR23 := CR22.trans (CHr.keep K23 (sfS sf_b22 sf0) CR22.1)
        have hk23 : kJR2 ≤ T23.heap.size := Nat.le_trans hk22 K23.1
        have f23_1 := f22_0.keep K23 (allS ge_b22 (all0))
        have f23_2 := f22_1.keep K23
        have f23_3 := f22_2.keep K23
        have f23_4 := f22_3.keep K23
        have f23_5 := f22_4.keep K23
        have f23_6 := f22_5.keep K23
        have f23_7 := f22_6.keep K23 (ninS ne_b7_b22 nin0)
        have f23_8 := f22_7.keep K23 (ninS ne_b7_b22 nin0)
        have f23_9 := f22_8.keep K23 (ninS ne_b7_b22 nin0)
        have f23_10 := f22_9.keep K23 (ninS ne_b20_b22 nin0)
        have f23_11 := A22.keep K23
        have Z23 : n0 ≤ T23.heap.size := Nat.le_trans Z22 K23.1
        have KK23 := Keep.trans K22 K23 (by intro z hz; simp at hz; rcases hz with rfl; all_goals first | (left; simp; done) | (right; assumption))
        refine own_go (fun _ k => st23.trans k) ?_
        show own_Gl p.tables e below F (T23.setTop (mkF m 185 #[.val (.int p1), .val (.int p2), .val (.int p3), .val (.int p4), .val (.int p5), .val (.int (2 : Int32)), .val (.int bb), .val (.int rf), .val (.ref b1), .val (.ref x6), .val (.ref x), .val (.ref b7), .val (.ref ro), .unset, .unset] [(.ref b22)]))
        rw [hbb] at GB23
        refine own_go (fun _ k => XS.astore X23.here hx rfl (hb hby at_185) rfl rfl (l' := #[.val (.int p1), .val (.int p2), .val (.int p3), .val (.int p4), .val (.int p5), .val (.int (2 : Int32)), .val (.int bb), .val (.int rf), .val (.ref b1), .val (.ref x6), .val (.ref x), .val (.ref b7), .val (.ref ro), .val (.ref b22), .unset]) rfl k) ?_
        show own_Gl p.tables e below F (T23.setTop (mkF m 187 #[.val (.int p1), .val (.int p2), .val (.int p3), .val (.int p4), .val (.int p5), .val (.int (2 : Int32)), .val (.int bb), .val (.int rf), .val (.ref b1), .val (.ref x6), .val (.ref x), .val (.ref b7), .val (.ref ro), .val (.ref b22), .unset] []))
        refine own_go (fun _ k => XS.iload X23.here hx rfl (hb hby at_187) rfl k) ?_
        show own_Gl p.tables e below F (T23.setTop (mkF m 189 #[.val (.int p1), .val (.int p2), .val (.int p3), .val (.int p4), .val (.int p5), .val (.int (2 : Int32)), .val (.int bb), .val (.int rf), .val (.ref b1), .val (.ref x6), .val (.ref x), .val (.ref b7), .val (.ref ro), .val (.ref b22), .unset] [(.int (2 : Int32))]))
        refine own_go (fun _ k => XS.ifNo X23.here hx rfl (hb hby at_189) rfl (XT.i0_le_f (by decide)) k) ?_
        show own_Gl p.tables e below F (T23.setTop (mkF m 192 #[.val (.int p1), .val (.int p2), .val (.int p3), .val (.int p4), .val (.int p5), .val (.int (2 : Int32)), .val (.int bb), .val (.int rf), .val (.ref b1), .val (.ref x6), .val (.ref x), .val (.ref b7), .val (.ref ro), .val (.ref b22), .unset] []))
        refine own_go (fun _ k => XS.iconst X23.here hx rfl (hb hby at_192) k) ?_
        show own_Gl p.tables e below F (T23.setTop (mkF m 193 #[.val (.int p1), .val (.int p2), .val (.int p3), .val (.int p4), .val (.int p5), .val (.int (2 : Int32)), .val (.int bb), .val (.int rf), .val (.ref b1), .val (.ref x6), .val (.ref x), .val (.ref b7), .val (.ref ro), .val (.ref b22), .unset] [(.int (1 : Int32))]))
        refine own_go (fun _ k => XS.istore X23.here hx rfl (hb hby at_193) rfl (l' := #[.val (.int p1), .val (.int p2), .val (.int p3), .val (.int p4), .val (.int p5), .val (.int (2 : Int32)), .val (.int bb), .val (.int rf), .val (.ref b1), .val (.ref x6), .val (.ref x), .val (.ref b7), .val (.ref ro), .val (.ref b22), .val (.int (1 : Int32))]) rfl k) ?_
        show own_Gl p.tables e below F (T23.setTop (mkF m 195 #[.val (.int p1), .val (.int p2), .val (.int p3), .val (.int p4), .val (.int p5), .val (.int (2 : Int32)), .val (.int bb), .val (.int rf), .val (.ref b1), .val (.ref x6), .val (.ref x), .val (.ref b7), .val (.ref ro), .val (.ref b22), .val (.int (1 : Int32))] []))
        refine own_go (fun _ k => XS.goto X23.here hx rfl (pc0 := 195) (pc' := 202) rfl (hb hby at_195) (by decide) (by decide) k) ?_
        show own_Gl p.tables e below F (T23.setTop (mkF m 202 #[.val (.int p1), .val (.int p2), .val (.int p3), .val (.int p4), .val (.int p5), .val (.int (2 : Int32)), .val (.int bb), .val (.int rf), .val (.ref b1), .val (.ref x6), .val (.ref x), .val (.ref b7), .val (.ref ro), .val (.ref b22), .val (.int (1 : Int32))] []))
        refine own_go (fun _ k => XS.aload X23.here hx rfl (hb hby at_202) rfl rfl k) ?_
        show own_Gl p.tables e below F (T23.setTop (mkF m 204 #[.val (.int p1), .val (.int p2), .val (.int p3), .val (.int p4), .val (.int p5), .val (.int (2 : Int32)), .val (.int bb), .val (.int rf), .val (.ref b1), .val (.ref x6), .val (.ref x), .val (.ref b7), .val (.ref ro), .val (.ref b22), .val (.int (1 : Int32))] [(.ref b22)]))
        obtain ⟨cq24, kq24, q24a, q24b, q24c⟩ := isOf hZJR2 rfl GE23
        obtain ⟨_, _, ⟨T24, L24, k24, n24⟩, -, X24, ⟨Lc24, hQ24, l24, y24, z24⟩, st24⟩ := X23.virtualBack hx (y := (⟨"com/example/brokerwright/brokerwright/kafka/UserLookup", "holdsUser", "()Z"⟩ : MethodName)) (z := (⟨"com/example/brokerwright/brokerwright/kafka/UserLookup", "holdsUser", "()Z"⟩ : MethodName)) hoJR2 (mvT hZJR2 (hw _ (List.mem_of_getElem? (i := 132) rfl))) (mvT hZJR2 (hw _ (List.mem_of_getElem? (i := 133) rfl))) (notFace_of_selects (args := #[]) (mvT hZJR2 (hw _ (List.mem_of_getElem? (i := 135) rfl)))) (mvT hZJR2 (hw _ (List.mem_of_getElem? (i := 135) rfl))) (mvT hZJR2 (hw _ (List.mem_of_getElem? (i := 134) rfl))) (by decide) (backOf (W := 0) (rmHU_2 l Z a0 hw [] b22 y23 bb T23.heap n0 Z23 GM23 GB23 EY23 jbb) hZJR2 (hw _ (List.mem_of_getElem? (i := 136) rfl)) (hw _ (List.mem_of_getElem? (i := 87) rfl)) (by decide) (by decide)) q24a q24c (g := (mkF m 204 #[.val (.int p1), .val (.int p2), .val (.int p3), .val (.int p4), .val (.int p5), .val (.int (2 : Int32)), .val (.int bb), .val (.int rf), .val (.ref b1), .val (.ref x6), .val (.ref x), .val (.ref b7), .val (.ref ro), .val (.ref b22), .val (.int (1 : Int32))] [(.ref b22)])) rfl (by rw [hml]; rfl) (Steps.refl _) (argsL := []) (rest := []) (lenOf pd_16 rfl) rfl (by show 2 * 0 + _ ≤ _; exact Nat.le_of_eq rfl) (hb hby at_204) (fun _ _ => ⟨rfl, rfl, (by first | decide | exact Nat.le_of_ble_eq_true rfl), (by first | decide | exact Nat.le_of_ble_eq_true rfl)⟩)
        dsimp only [Pt.U, Pt.locs, Pt.cells, Pt.slots] at X24 l24 y24 z24 st24 hQ24
        have X24 := own_sn X24 (k' := 37) (n' := 161) y24 z24
        obtain ⟨rfl, N24, e24⟩ := hQ24
        have NF24 := own_fr l24 NF23 N24
        refine own_go (fun _ k => st24.trans k) ?_
        show own_Gl p.tables e below F (T24.setTop (mkF m 207 #[.val (.int p1), .val (.int p2), .val (.int p3), .val (.int p4), .val (.int p5), .val (.int (2 : Int32)), .val (.int bb), .val (.int rf), .val (.ref b1), .val (.ref x6), .val (.ref x), .val (.ref b7), .val (.ref ro), .val (.ref b22), .val (.int (1 : Int32))] [(.int (1 : Int32))]))
        refine own_go (fun _ k => XS.iload X24.here hx rfl (hb hby at_207) rfl k) ?_
        show own_Gl p.tables e below F (T24.setTop (mkF m 209 #[.val (.int p1), .val (.int p2), .val (.int p3), .val (.int p4), .val (.int p5), .val (.int (2 : Int32)), .val (.int bb), .val (.int rf), .val (.ref b1), .val (.ref x6), .val (.ref x), .val (.ref b7), .val (.ref ro), .val (.ref b22), .val (.int (1 : Int32))] [(.int (1 : Int32)), (.int (1 : Int32))]))
        refine own_go (fun _ k => XS.icmpNo X24.here hx rfl (hb hby at_209) rfl (XT.ii_ne_f rfl) k) ?_
        show own_Gl p.tables e below F (T24.setTop (mkF m 212 #[.val (.int p1), .val (.int p2), .val (.int p3), .val (.int p4), .val (.int p5), .val (.int (2 : Int32)), .val (.int bb), .val (.int rf), .val (.ref b1), .val (.ref x6), .val (.ref x), .val (.ref b7), .val (.ref ro), .val (.ref b22), .val (.int (1 : Int32))] []))
        refine own_go (fun _ k => XS.iconst X24.here hx rfl (hb hby at_212) k) ?_
        show own_Gl p.tables e below F (T24.setTop (mkF m 213 #[.val (.int p1), .val (.int p2), .val (.int p3), .val (.int p4), .val (.int p5), .val (.int (2 : Int32)), .val (.int bb), .val (.int rf), .val (.ref b1), .val (.ref x6), .val (.ref x), .val (.ref b7), .val (.ref ro), .val (.ref b22), .val (.int (1 : Int32))] [(.int (1 : Int32))]))
        refine own_go (fun _ k => XS.goto X24.here hx rfl (pc0 := 213) (pc' := 217) rfl (hb hby at_213) (by decide) (by decide) k) ?_
        show own_Gl p.tables e below F (T24.setTop (mkF m 217 #[.val (.int p1), .val (.int p2), .val (.int p3), .val (.int p4), .val (.int p5), .val (.int (2 : Int32)), .val (.int bb), .val (.int rf), .val (.ref b1), .val (.ref x6), .val (.ref x), .val (.ref b7), .val (.ref ro), .val (.ref b22), .val (.int (1 : Int32))] [(.int (1 : Int32))]))
        obtain ⟨fs, hr, hrun, hended, hRW⟩ := Jvm.Stand.leaveW X24 hSJR2 (by rw [e24]; exact hk23) (v := some (.int (1 : Int32))) (fun h => by rw [Bd.returns] at h; cases h)
        have CE : CHr Z own_EL s.vm s.heap T24.vm T24.heap := by rw [hh, e24]; exact CR23.trans (CHv.at X24 hZJR2 hEL CR23.1)
        subst hF
        refine own_fin ?_ ⟨hrun, hended, _, _, rfl, ?_, CE, hRW.1, hRW.2.1, hRW.2.2.1, hRW.2.2.2.mono (by first | decide | exact Nat.le_of_ble_eq_true rfl) (by first | decide | exact Nat.le_of_ble_eq_true rfl)⟩
        · exact own_retN X24 hx (t := .boolean) Bd.returns (by simp) rfl (hb hby at_217) hr
        · show Q_rm0 Z _ _ _ _ _ _ _ _ _ _ _ _ _ _ h0 n0 _ T24.heap _
          rw [e24]
          exact ⟨rfl, NF24⟩
      show own_Gl p.tables e below F (T21.setTop (mkF m 156 #[.val (.int p1), .val (.int p2), .val (.int p3), .val (.int p4), .val (.int p5), .val (.int (2 : Int32)), .val (.int bb), .val (.int rf), .val (.ref b1), .val (.ref x6), .val (.ref x), .val (.ref b7), .unset, .unset, .unset] [(.int rf)]))
      by_cases hrf : rf = 0
      · refine own_go (fun _ k => XS.ifYes X21.here hx rfl (pc0 := 156) (pc' := 167) rfl (hb hby at_156) rfl (XT.i0_eq_t hrf) (by decide) (by decide) k) ?_
        show own_Gl p.tables e below F (T21.setTop (mkF m 167 #[.val (.int p1), .val (.int p2), .val (.int p3), .val (.int p4), .val (.int p5), .val (.int (2 : Int32)), .val (.int bb), .val (.int rf), .val (.ref b1), .val (.ref x6), .val (.ref x), .val (.ref b7), .unset, .unset, .unset] []))
        obtain ⟨_, _, ⟨T25, L25, k25, n25⟩, -, X25, ⟨Lc25, hQ25, l25, y25, z25⟩, st25⟩ := Jvm.LawKit.callS X21 hx (y := (⟨"java/util/Optional", "empty", "()Ljava/util/Optional;"⟩ : MethodName)) hoJS (mvT hZJS (hw _ (List.mem_of_getElem? (i := 181) rfl))) (mvT hZJS (hw _ (List.mem_of_getElem? (i := 182) rfl))) (mvT hZJS (hw _ (List.mem_of_getElem? (i := 70) rfl))) (mvT hZJS (hw _ (List.mem_of_getElem? (i := 183) rfl))) (by decide) (backOf (W := 0) (rm30 l Z a0 hw []  oe T21.heap n0 Z21 f21_1 SE) hZJS (hw _ (List.mem_of_getElem? (i := 183) rfl)) (hw _ (List.mem_of_getElem? (i := 70) rfl)) (by decide) (by decide)) (g := (mkF m 167 #[.val (.int p1), .val (.int p2), .val (.int p3), .val (.int p4), .val (.int p5), .val (.int (2 : Int32)), .val (.int bb), .val (.int rf), .val (.ref b1), .val (.ref x6), .val (.ref x), .val (.ref b7), .unset, .unset, .unset] [])) rfl (by rw [hml]; rfl) (argsL := []) (rest := []) (lenOf pd_22 rfl) rfl (by show 2 * 0 + _ ≤ _; exact Nat.le_of_eq rfl) (hb hby at_167) (fun _ _ => ⟨rfl, rfl, (by first | decide | exact Nat.le_of_ble_eq_true rfl), (by first | decide | exact Nat.le_of_ble_eq_true rfl)⟩)
        dsimp only [Pt.U, Pt.locs, Pt.cells, Pt.slots] at X25 l25 y25 z25 st25 hQ25
        have X25 := own_sn X25 (k' := 19) (n' := 83) y25 z25
        obtain ⟨rfl, N25, e25⟩ := hQ25
        have NF25 := own_fr l25 NF21 N25
        refine own_go st25 ?_
        show own_Gl p.tables e below F (T25.setTop (mkF m 170 #[.val (.int p1), .val (.int p2), .val (.int p3), .val (.int p4), .val (.int p5), .val (.int (2 : Int32)), .val (.int bb), .val (.int rf), .val (.ref b1), .val (.ref x6), .val (.ref x), .val (.ref b7), .unset, .unset, .unset] [(.ref oe)]))
        exact JR2 _ _ _ _ _ oe (X25.mono (by decide) (by decide)) e25 NF25 Z21 KK21 hZJS hoJS hSJS hk21 CR21 sf21_0 sf21_1 f21_1 f21_2 f21_3 f21_4 GE21 EB21 GM21 GD21 GS21 VB21
      · refine own_go (fun _ k => XS.ifNo X21.here hx rfl (hb hby at_156) rfl (XT.i0_eq_f hrf) k) ?_
        show own_Gl p.tables e below F (T21.setTop (mkF m 159 #[.val (.int p1), .val (.int p2), .val (.int p3), .val (.int p4), .val (.int p5), .val (.int (2 : Int32)), .val (.int bb), .val (.int rf), .val (.ref b1), .val (.ref x6), .val (.ref x), .val (.ref b7), .unset, .unset, .unset] []))
        refine own_go (fun _ k => XS.aload X21.here hx rfl (hb hby at_159) rfl rfl k) ?_
        show own_Gl p.tables e below F (T21.setTop (mkF m 161 #[.val (.int p1), .val (.int p2), .val (.int p3), .val (.int p4), .val (.int p5), .val (.int (2 : Int32)), .val (.int bb), .val (.int rf), .val (.ref b1), .val (.ref x6), .val (.ref x), .val (.ref b7), .unset, .unset, .unset] [(.ref x6)]))
        obtain ⟨_, _, ⟨T26, L26, k26, n26⟩, -, X26, ⟨Lc26, hQ26, l26, y26, z26⟩, st26⟩ := Jvm.LawKit.callS X21 hx (y := (⟨"java/util/Optional", "of", "(Ljava/lang/Object;)Ljava/util/Optional;"⟩ : MethodName)) hoJS (mvT hZJS (hw _ (List.mem_of_getElem? (i := 68) rfl))) (mvT hZJS (hw _ (List.mem_of_getElem? (i := 69) rfl))) (mvT hZJS (hw _ (List.mem_of_getElem? (i := 70) rfl))) (mvT hZJS (hw _ (List.mem_of_getElem? (i := 71) rfl))) (by decide) (backOf (W := 0) (rm14 l Z a0 hw [] x6  T21.heap n0 Z21 ) hZJS (hw _ (List.mem_of_getElem? (i := 71) rfl)) (hw _ (List.mem_of_getElem? (i := 70) rfl)) (by decide) (by decide)) (g := (mkF m 161 #[.val (.int p1), .val (.int p2), .val (.int p3), .val (.int p4), .val (.int p5), .val (.int (2 : Int32)), .val (.int bb), .val (.int rf), .val (.ref b1), .val (.ref x6), .val (.ref x), .val (.ref b7), .unset, .unset, .unset] [(.ref x6)])) rfl (by rw [hml]; rfl) (argsL := [(.ref x6)]) (rest := []) (lenOf pd_23 rfl) rfl (by show 2 * 0 + _ ≤ _; exact Nat.le_of_eq rfl) (hb hby at_161) (fun _ _ => ⟨rfl, rfl, (by first | decide | exact Nat.le_of_ble_eq_true rfl), (by first | decide | exact Nat.le_of_ble_eq_true rfl)⟩)
        dsimp only [Pt.U, Pt.locs, Pt.cells, Pt.slots] at X26 l26 y26 z26 st26 hQ26
        have X26 := own_sn X26 (k' := 20) (n' := 84) y26 z26
        obtain ⟨x26, rfl, N26, K26⟩ := hQ26
        have NF26 := own_fr l26 NF21 N26
        have sf26_0 := Safe.keep K26 sf0 CR21.1 sf21_0
        have sf26_1 := Safe.keep K26 sf0 CR21.1 sf21_1
        have CR26 := CR21.trans (CHr.keep K26 sf0 CR21.1)
        have hk26 : kJS ≤ T26.heap.size := Nat.le_trans hk21 K26.1
        have f26_1 := f21_1.keep K26 (all0)
        have f26_2 := f21_2.keep K26
        have f26_3 := f21_3.keep K26
        have f26_4 := f21_4.keep K26
        have f26_5 := GE21.keep K26
        have f26_6 := EB21.keep K26
        have f26_7 := GM21.keep K26 nin0
        have f26_8 := GD21.keep K26 nin0
        have f26_9 := GS21.keep K26 nin0
        have f26_10 := VB21.keep K26 nin0
        have Z26 : n0 ≤ T26.heap.size := Nat.le_trans Z21 K26.1
        have KK26 := Keep.trans KK21 K26 (fun _ q => nomatch q)
        refine own_go st26 ?_
        show own_Gl p.tables e below F (T26.setTop (mkF m 164 #[.val (.int p1), .val (.int p2), .val (.int p3), .val (.int p4), .val (.int p5), .val (.int (2 : Int32)), .val (.int bb), .val (.int rf), .val (.ref b1), .val (.ref x6), .val (.ref x), .val (.ref b7), .unset, .unset, .unset] [(.ref x26)]))
        refine own_go (fun _ k => XS.goto X26.here hx rfl (pc0 := 164) (pc' := 170) rfl (hb hby at_164) (by decide) (by decide) k) ?_
        show own_Gl p.tables e below F (T26.setTop (mkF m 170 #[.val (.int p1), .val (.int p2), .val (.int p3), .val (.int p4), .val (.int p5), .val (.int (2 : Int32)), .val (.int bb), .val (.int rf), .val (.ref b1), .val (.ref x6), .val (.ref x), .val (.ref b7), .unset, .unset, .unset] [(.ref x26)]))
        exact JR2 _ _ _ _ _ x26 (X26.mono (by decide) (by decide)) rfl NF26 Z26 KK26 hZJS hoJS hSJS hk26 CR26 sf26_0 sf26_1 f26_1 f26_2 f26_3 f26_4 f26_5 f26_6 f26_7 f26_8 f26_9 f26_10
    · show own_Gl p.tables e below F (T8.setTop (mkF m 112 #[.val (.int p1), .val (.int p2), .val (.int p3), .val (.int p4), .val (.int p5), .val (.int (3 : Int32)), .val (.int bb), .val (.int rf), .val (.ref b1), .val (.ref x6), .val (.ref x), .val (.ref b7), .unset, .unset, .unset] []))
      refine own_go (fun _ k => XS.iload X8.here hx rfl (hb hby at_112) rfl k) ?_
      show own_Gl p.tables e below F (T8.setTop (mkF m 114 #[.val (.int p1), .val (.int p2), .val (.int p3), .val (.int p4), .val (.int p5), .val (.int (3 : Int32)), .val (.int bb), .val (.int rf), .val (.ref b1), .val (.ref x6), .val (.ref x), .val (.ref b7), .unset, .unset, .unset] [(.int (3 : Int32))]))
      refine own_go (fun _ k => XS.iconst X8.here hx rfl (hb hby at_114) k) ?_
      show own_Gl p.tables e below F (T8.setTop (mkF m 115 #[.val (.int p1), .val (.int p2), .val (.int p3), .val (.int p4), .val (.int p5), .val (.int (3 : Int32)), .val (.int bb), .val (.int rf), .val (.ref b1), .val (.ref x6), .val (.ref x), .val (.ref b7), .unset, .unset, .unset] [(.int (1 : Int32)), (.int (3 : Int32))]))
      refine own_go (fun _ k => XS.icmpNo X8.here hx rfl (hb hby at_115) rfl (XT.ii_lt_f (by decide)) k) ?_
      show own_Gl p.tables e below F (T8.setTop (mkF m 118 #[.val (.int p1), .val (.int p2), .val (.int p3), .val (.int p4), .val (.int p5), .val (.int (3 : Int32)), .val (.int bb), .val (.int rf), .val (.ref b1), .val (.ref x6), .val (.ref x), .val (.ref b7), .unset, .unset, .unset] []))
      refine own_go (fun _ k => XS.aload X8.here hx rfl (hb hby at_118) rfl rfl k) ?_
      show own_Gl p.tables e below F (T8.setTop (mkF m 120 #[.val (.int p1), .val (.int p2), .val (.int p3), .val (.int p4), .val (.int p5), .val (.int (3 : Int32)), .val (.int bb), .val (.int rf), .val (.ref b1), .val (.ref x6), .val (.ref x), .val (.ref b7), .unset, .unset, .unset] [(.ref b7)]))
      refine own_go (fun _ k => XS.aload X8.here hx rfl (hb hby at_120) rfl rfl k) ?_
      show own_Gl p.tables e below F (T8.setTop (mkF m 122 #[.val (.int p1), .val (.int p2), .val (.int p3), .val (.int p4), .val (.int p5), .val (.int (3 : Int32)), .val (.int bb), .val (.int rf), .val (.ref b1), .val (.ref x6), .val (.ref x), .val (.ref b7), .unset, .unset, .unset] [(.ref b1), (.ref b7)]))
      obtain ⟨cq27, kq27, q27a, q27b, q27c⟩ := isOf hZJS rfl GE8
      obtain ⟨_, _, ⟨T27, L27, k27, n27⟩, -, X27, ⟨Lc27, hQ27, l27, y27, z27⟩, st27⟩ := X8.virtualBack hx (y := (⟨"java/util/ArrayList", "add", "(Ljava/lang/Object;)Z"⟩ : MethodName)) (z := (⟨"java/util/ArrayList", "add", "(Ljava/lang/Object;)Z"⟩ : MethodName)) hoJS (mvT hZJS (hw _ (List.mem_of_getElem? (i := 152) rfl))) (mvT hZJS (hw _ (List.mem_of_getElem? (i := 153) rfl))) (notFace_of_selects (args := #[]) (mvT hZJS (hw _ (List.mem_of_getElem? (i := 155) rfl)))) (mvT hZJS (hw _ (List.mem_of_getElem? (i := 155) rfl))) (mvT hZJS (hw _ (List.mem_of_getElem? (i := 154) rfl))) (by decide) (backOf (W := 0) (rm1f l Z a0 hw [] b7 b1 dc kd T8.heap n0 Z8 GE8 GM8 GD8 GS8 ge_b7 f8_1 SD VD f8_2) hZJS (hw _ (List.mem_of_getElem? (i := 156) rfl)) (hw _ (List.mem_of_getElem? (i := 46) rfl)) (by decide) (by decide)) q27a q27c (g := (mkF m 122 #[.val (.int p1), .val (.int p2), .val (.int p3), .val (.int p4), .val (.int p5), .val (.int (3 : Int32)), .val (.int bb), .val (.int rf), .val (.ref b1), .val (.ref x6), .val (.ref x), .val (.ref b7), .unset, .unset, .unset] [(.ref b1), (.ref b7)])) rfl (by rw [hml]; rfl) (Steps.refl _) (argsL := [(.ref b1)]) (rest := []) (lenOf pd_24 rfl) rfl (by show 2 * 0 + _ ≤ _; exact Nat.le_of_eq rfl) (hb hby at_122) (fun _ _ => ⟨rfl, rfl, (by first | decide | exact Nat.le_of_ble_eq_true rfl), (by first | decide | exact Nat.le_of_ble_eq_true rfl)⟩)
      dsimp only [Pt.U, Pt.locs, Pt.cells, Pt.slots] at X27 l27 y27 z27 st27 hQ27
      have X27 := own_sn X27 (k' := 18) (n' := 73) y27 z27
      obtain ⟨b27, kb27, rfl, N27, K27, GE27, GM27, GD27, GS27, hb27, VB27, OB27, EB27⟩ := hQ27
      have NF27 := own_fr l27 NF8 N27
      have sf27_0 := Safe.keep K27 (sfS sf8_0 sf0) CR8.1 sf8_0
      have CR27 := CR8.trans (CHr.keep K27 (sfS sf8_0 sf0) CR8.1)
      have hk27 : kJS ≤ T27.heap.size := Nat.le_trans hk8 K27.1
      have f27_1 := f8_1.keep K27 (allS ge_b7 (all0))
      have f27_2 := f8_2.keep K27
      have f27_3 := f8_3.keep K27
      have f27_4 := f8_4.keep K27
      have f27_5 := GE8.keep K27
      have Z27 : n0 ≤ T27.heap.size := Nat.le_trans Z8 K27.1
      have KK27 := Keep.trans KK8 K27 (by intro z hz; simp at hz; rcases hz with rfl; all_goals first | (left; simp; done) | (right; assumption))
      refine own_go (fun _ k => st27.trans k) ?_
      show own_Gl p.tables e below F (T27.setTop (mkF m 125 #[.val (.int p1), .val (.int p2), .val (.int p3), .val (.int p4), .val (.int p5), .val (.int (3 : Int32)), .val (.int bb), .val (.int rf), .val (.ref b1), .val (.ref x6), .val (.ref x), .val (.ref b7), .unset, .unset, .unset] [(.int (1 : Int32))]))
      have szb27 : h0.size ≤ b27 := Nat.le_trans (KK8).1 hb27
      have SFB := Safe.exa (EL := own_EL) hZJS.alike EB27 (by decide) (by decide)
      refine own_go (fun _ k => XS.pop X27.here hx rfl (hb hby at_125) rfl rfl k) ?_
      show own_Gl p.tables e below F (T27.setTop (mkF m 126 #[.val (.int p1), .val (.int p2), .val (.int p3), .val (.int p4), .val (.int p5), .val (.int (3 : Int32)), .val (.int bb), .val (.int rf), .val (.ref b1), .val (.ref x6), .val (.ref x), .val (.ref b7), .unset, .unset, .unset] []))
      refine own_go (fun _ k => XS.iload X27.here hx rfl (hb hby at_126) rfl k) ?_
      show own_Gl p.tables e below F (T27.setTop (mkF m 128 #[.val (.int p1), .val (.int p2), .val (.int p3), .val (.int p4), .val (.int p5), .val (.int (3 : Int32)), .val (.int bb), .val (.int rf), .val (.ref b1), .val (.ref x6), .val (.ref x), .val (.ref b7), .unset, .unset, .unset] [(.int (3 : Int32))]))
      refine own_go (fun _ k => XS.iconst X27.here hx rfl (hb hby at_128) k) ?_
      show own_Gl p.tables e below F (T27.setTop (mkF m 129 #[.val (.int p1), .val (.int p2), .val (.int p3), .val (.int p4), .val (.int p5), .val (.int (3 : Int32)), .val (.int bb), .val (.int rf), .val (.ref b1), .val (.ref x6), .val (.ref x), .val (.ref b7), .unset, .unset, .unset] [(.int (2 : Int32)), (.int (3 : Int32))]))
      refine own_go (fun _ k => XS.icmpNo X27.here hx rfl (hb hby at_129) rfl (XT.ii_lt_f (by decide)) k) ?_
      show own_Gl p.tables e below F (T27.setTop (mkF m 132 #[.val (.int p1), .val (.int p2), .val (.int p3), .val (.int p4), .val (.int p5), .val (.int (3 : Int32)), .val (.int bb), .val (.int rf), .val (.ref b1), .val (.ref x6), .val (.ref x), .val (.ref b7), .unset, .unset, .unset] []))
      refine own_go (fun _ k => XS.aload X27.here hx rfl (hb hby at_132) rfl rfl k) ?_
      show own_Gl p.tables e below F (T27.setTop (mkF m 134 #[.val (.int p1), .val (.int p2), .val (.int p3), .val (.int p4), .val (.int p5), .val (.int (3 : Int32)), .val (.int bb), .val (.int rf), .val (.ref b1), .val (.ref x6), .val (.ref x), .val (.ref b7), .unset, .unset, .unset] [(.ref b7)]))
      refine own_go (fun _ k => XS.aload X27.here hx rfl (hb hby at_134) rfl rfl k) ?_
      show own_Gl p.tables e below F (T27.setTop (mkF m 136 #[.val (.int p1), .val (.int p2), .val (.int p3), .val (.int p4), .val (.int p5), .val (.int (3 : Int32)), .val (.int bb), .val (.int rf), .val (.ref b1), .val (.ref x6), .val (.ref x), .val (.ref b7), .unset, .unset, .unset] [(.ref x6), (.ref b7)]))
      obtain ⟨cq28, kq28, q28a, q28b, q28c⟩ := isOf hZJS rfl GE27
      obtain ⟨_, _, ⟨T28, L28, k28, n28⟩, -, X28, ⟨Lc28, hQ28, l28, y28, z28⟩, st28⟩ := X27.virtualBack hx (y := (⟨"java/util/ArrayList", "add", "(Ljava/lang/Object;)Z"⟩ : MethodName)) (z := (⟨"java/util/ArrayList", "add", "(Ljava/lang/Object;)Z"⟩ : MethodName)) hoJS (mvT hZJS (hw _ (List.mem_of_getElem? (i := 152) rfl))) (mvT hZJS (hw _ (List.mem_of_getElem? (i := 153) rfl))) (notFace_of_selects (args := #[]) (mvT hZJS (hw _ (List.mem_of_getElem? (i := 155) rfl)))) (mvT hZJS (hw _ (List.mem_of_getElem? (i := 155) rfl))) (mvT hZJS (hw _ (List.mem_of_getElem? (i := 154) rfl))) (by decide) (backOf (W := 0) (rm1_1 l Z a0 hw [] b7 x6 b27 kb27 b1 T27.heap n0 Z27 GE27 GM27 GD27 GS27 ge_b7 VB27 OB27 EB27 (Nat.le_trans Z8 hb27) f27_3) hZJS (hw _ (List.mem_of_getElem? (i := 156) rfl)) (hw _ (List.mem_of_getElem? (i := 46) rfl)) (by decide) (by decide)) q28a q28c (g := (mkF m 136 #[.val (.int p1), .val (.int p2), .val (.int p3), .val (.int p4), .val (.int p5), .val (.int (3 : Int32)), .val (.int bb), .val (.int rf), .val (.ref b1), .val (.ref x6), .val (.ref x), .val (.ref b7), .unset, .unset, .unset] [(.ref x6), (.ref b7)])) rfl (by rw [hml]; rfl) (Steps.refl _) (argsL := [(.ref x6)]) (rest := []) (lenOf pd_24 rfl) rfl (by show 2 * 0 + _ ≤ _; exact Nat.le_of_eq rfl) (hb hby at_136) (fun _ _ => ⟨rfl, rfl, (by first | decide | exact Nat.le_of_ble_eq_true rfl), (by first | decide | exact Nat.le_of_ble_eq_true rfl)⟩)
      dsimp only [Pt.U, Pt.locs, Pt.cells, Pt.slots] at X28 l28 y28 z28 st28 hQ28
      have X28 := own_sn X28 (k' := 19) (n' := 83) y28 z28
      obtain ⟨rfl, N28, K28, GE28, GM28, GD28, GS28, VB28, EB28⟩ := hQ28
      have NF28 := own_fr l28 NF27 N28
      have sf28_0 := Safe.keep K28 (sfS sf27_0 (sfS SFB sf0)) CR27.1 sf27_0
      have sf28_1 := Safe.keep K28 (sfS sf27_0 (sfS SFB sf0)) CR27.1 SFB
      have CR28 := CR27.trans (CHr.keep K28 (sfS sf27_0 (sfS SFB sf0)) CR27.1)
      have hk28 : kJS ≤ T28.heap.size := Nat.le_trans hk27 K28.1
      have f28_1 := f27_1.keep K28 (allS ge_b7 (allS (Nat.le_trans Z8 hb27) (all0)))
      have f28_2 := f27_2.keep K28
      have f28_3 := f27_3.keep K28
      have f28_4 := f27_4.keep K28
      have f28_5 := GE27.keep K28
      have f28_10 := EB27.keep K28
      have Z28 : n0 ≤ T28.heap.size := Nat.le_trans Z27 K28.1
      have KK28 := Keep.trans KK27 K28 (by intro z hz; simp at hz; rcases hz with rfl | rfl; all_goals first | (left; simp; done) | (right; assumption))
      refine own_go (fun _ k => st28.trans k) ?_
      show own_Gl p.tables e below F (T28.setTop (mkF m 139 #[.val (.int p1), .val (.int p2), .val (.int p3), .val (.int p4), .val (.int p5), .val (.int (3 : Int32)), .val (.int bb), .val (.int rf), .val (.ref b1), .val (.ref x6), .val (.ref x), .val (.ref b7), .unset, .unset, .unset] [(.int (1 : Int32))]))
      refine own_go (fun _ k => XS.pop X28.here hx rfl (hb hby at_139) rfl rfl k) ?_
      show own_Gl p.tables e below F (T28.setTop (mkF m 140 #[.val (.int p1), .val (.int p2), .val (.int p3), .val (.int p4), .val (.int p5), .val (.int (3 : Int32)), .val (.int bb), .val (.int rf), .val (.ref b1), .val (.ref x6), .val (.ref x), .val (.ref b7), .unset, .unset, .unset] []))
      refine own_go (fun _ k => XS.iload X28.here hx rfl (hb hby at_140) rfl k) ?_
      show own_Gl p.tables e below F (T28.setTop (mkF m 142 #[.val (.int p1), .val (.int p2), .val (.int p3), .val (.int p4), .val (.int p5), .val (.int (3 : Int32)), .val (.int bb), .val (.int rf), .val (.ref b1), .val (.ref x6), .val (.ref x), .val (.ref b7), .unset, .unset, .unset] [(.int (3 : Int32))]))
      refine own_go (fun _ k => XS.iconst X28.here hx rfl (hb hby at_142) k) ?_
      show own_Gl p.tables e below F (T28.setTop (mkF m 143 #[.val (.int p1), .val (.int p2), .val (.int p3), .val (.int p4), .val (.int p5), .val (.int (3 : Int32)), .val (.int bb), .val (.int rf), .val (.ref b1), .val (.ref x6), .val (.ref x), .val (.ref b7), .unset, .unset, .unset] [(.int (3 : Int32)), (.int (3 : Int32))]))
      refine own_go (fun _ k => XS.icmpNo X28.here hx rfl (hb hby at_143) rfl (XT.ii_lt_f (by decide)) k) ?_
      show own_Gl p.tables e below F (T28.setTop (mkF m 146 #[.val (.int p1), .val (.int p2), .val (.int p3), .val (.int p4), .val (.int p5), .val (.int (3 : Int32)), .val (.int bb), .val (.int rf), .val (.ref b1), .val (.ref x6), .val (.ref x), .val (.ref b7), .unset, .unset, .unset] []))
      refine own_go (fun _ k => XS.aload X28.here hx rfl (hb hby at_146) rfl rfl k) ?_
      show own_Gl p.tables e below F (T28.setTop (mkF m 148 #[.val (.int p1), .val (.int p2), .val (.int p3), .val (.int p4), .val (.int p5), .val (.int (3 : Int32)), .val (.int bb), .val (.int rf), .val (.ref b1), .val (.ref x6), .val (.ref x), .val (.ref b7), .unset, .unset, .unset] [(.ref b7)]))
      refine own_go (fun _ k => XS.aload X28.here hx rfl (hb hby at_148) rfl rfl k) ?_
      show own_Gl p.tables e below F (T28.setTop (mkF m 150 #[.val (.int p1), .val (.int p2), .val (.int p3), .val (.int p4), .val (.int p5), .val (.int (3 : Int32)), .val (.int bb), .val (.int rf), .val (.ref b1), .val (.ref x6), .val (.ref x), .val (.ref b7), .unset, .unset, .unset] [(.ref x), (.ref b7)]))
      obtain ⟨cq29, kq29, q29a, q29b, q29c⟩ := isOf hZJS rfl GE28
      obtain ⟨_, _, ⟨T29, L29, k29, n29⟩, -, X29, ⟨Lc29, hQ29, l29, y29, z29⟩, st29⟩ := X28.virtualBack hx (y := (⟨"java/util/ArrayList", "add", "(Ljava/lang/Object;)Z"⟩ : MethodName)) (z := (⟨"java/util/ArrayList", "add", "(Ljava/lang/Object;)Z"⟩ : MethodName)) hoJS (mvT hZJS (hw _ (List.mem_of_getElem? (i := 152) rfl))) (mvT hZJS (hw _ (List.mem_of_getElem? (i := 153) rfl))) (notFace_of_selects (args := #[]) (mvT hZJS (hw _ (List.mem_of_getElem? (i := 155) rfl)))) (mvT hZJS (hw _ (List.mem_of_getElem? (i := 155) rfl))) (mvT hZJS (hw _ (List.mem_of_getElem? (i := 154) rfl))) (by decide) (backOf (W := 0) (rm1_2 l Z a0 hw [] b7 x b27 kb27 b1 x6 T28.heap n0 Z28 GE28 GM28 GD28 GS28 ge_b7 VB28 OB27 EB28 (Nat.le_trans Z8 hb27) f28_4) hZJS (hw _ (List.mem_of_getElem? (i := 156) rfl)) (hw _ (List.mem_of_getElem? (i := 46) rfl)) (by decide) (by decide)) q29a q29c (g := (mkF m 150 #[.val (.int p1), .val (.int p2), .val (.int p3), .val (.int p4), .val (.int p5), .val (.int (3 : Int32)), .val (.int bb), .val (.int rf), .val (.ref b1), .val (.ref x6), .val (.ref x), .val (.ref b7), .unset, .unset, .unset] [(.ref x), (.ref b7)])) rfl (by rw [hml]; rfl) (Steps.refl _) (argsL := [(.ref x)]) (rest := []) (lenOf pd_24 rfl) rfl (by show 2 * 0 + _ ≤ _; exact Nat.le_of_eq rfl) (hb hby at_150) (fun _ _ => ⟨rfl, rfl, (by first | decide | exact Nat.le_of_ble_eq_true rfl), (by first | decide | exact Nat.le_of_ble_eq_true rfl)⟩)
      dsimp only [Pt.U, Pt.locs, Pt.cells, Pt.slots] at X29 l29 y29 z29 st29 hQ29
      have X29 := own_sn X29 (k' := 20) (n' := 93) y29 z29
      obtain ⟨rfl, N29, K29, GE29, GM29, GD29, GS29, VB29, EB29⟩ := hQ29
      have NF29 := own_fr l29 NF28 N29
      have sf29_0 := Safe.keep K29 (sfS sf28_0 (sfS sf28_1 sf0)) CR28.1 sf28_0
      have sf29_1 := Safe.keep K29 (sfS sf28_0 (sfS sf28_1 sf0)) CR28.1 sf28_1
      have CR29 := CR28.trans (CHr.keep K29 (sfS sf28_0 (sfS sf28_1 sf0)) CR28.1)
      have hk29 : kJS ≤ T29.heap.size := Nat.le_trans hk28 K29.1
      have f29_1 := f28_1.keep K29 (allS ge_b7 (allS (Nat.le_trans Z8 hb27) (all0)))
      have f29_2 := f28_2.keep K29
      have f29_3 := f28_3.keep K29
      have f29_4 := f28_4.keep K29
      have f29_5 := GE28.keep K29
      have f29_6 := EB28.keep K29
      have Z29 : n0 ≤ T29.heap.size := Nat.le_trans Z28 K29.1
      have KK29 := Keep.trans KK28 K29 (by intro z hz; simp at hz; rcases hz with rfl | rfl; all_goals first | (left; simp; done) | (right; assumption))
      refine own_go (fun _ k => st29.trans k) ?_
      show own_Gl p.tables e below F (T29.setTop (mkF m 153 #[.val (.int p1), .val (.int p2), .val (.int p3), .val (.int p4), .val (.int p5), .val (.int (3 : Int32)), .val (.int bb), .val (.int rf), .val (.ref b1), .val (.ref x6), .val (.ref x), .val (.ref b7), .unset, .unset, .unset] [(.int (1 : Int32))]))
      refine own_go (fun _ k => XS.pop X29.here hx rfl (hb hby at_153) rfl rfl k) ?_
      show own_Gl p.tables e below F (T29.setTop (mkF m 154 #[.val (.int p1), .val (.int p2), .val (.int p3), .val (.int p4), .val (.int p5), .val (.int (3 : Int32)), .val (.int bb), .val (.int rf), .val (.ref b1), .val (.ref x6), .val (.ref x), .val (.ref b7), .unset, .unset, .unset] []))
      refine own_go (fun _ k => XS.iload X29.here hx rfl (hb hby at_154) rfl k) ?_
      show own_Gl p.tables e below F (T29.setTop (mkF m 156 #[.val (.int p1), .val (.int p2), .val (.int p3), .val (.int p4), .val (.int p5), .val (.int (3 : Int32)), .val (.int bb), .val (.int rf), .val (.ref b1), .val (.ref x6), .val (.ref x), .val (.ref b7), .unset, .unset, .unset] [(.int rf)]))
      have JR3 : ∀ (TJR3 : State) (lJR3 : List Loc) (hJR3 : Heap) (vJR3 : Vm) (kJR3 : Nat) (ro : Addr) (XJR3 : Stand p l e room_1 (s.setVm vJR3) m #[(.int p1), (.int p2), (.int p3), (.int p4), (.int p5)] below meth c TJR3 lJR3 33 150) (eJR3 : TJR3.heap = hJR3) (NJR3 : Fr n0 lJR3) (ZJR3 : n0 ≤ hJR3.size) (KJR3 : Keep h0 hJR3 []) (hZJR3 : Z.Warmed39 (s.setVm vJR3).vm) (hoJR3 : (s.setVm vJR3).vm.findClass "com/example/brokerwright/brokerwright/kafka/UserLookupHoldsUserPinLaw" = some m.cls) (hSJR3 : s.Since vJR3 kJR3) (hkJR3 : kJR3 ≤ hJR3.size) (CRJR3 : CHr Z own_EL s.vm h0 vJR3 hJR3) (sJR3_b7 : Safe Z own_EL vJR3 hJR3 b7) (sJR3_b27 : Safe Z own_EL vJR3 hJR3 b27) (fJR3_0 : Old Z n0 hJR3) (fJR3_1 : Exa Z hJR3 b1 "java/lang/String") (fJR3_2 : Exa Z hJR3 x6 "java/lang/String") (fJR3_3 : Exa Z hJR3 x "java/lang/String") (fJR3_4 : Exa Z hJR3 b7 "java/util/ArrayList") (fJR3_5 : Exa Z hJR3 b27 "[Ljava/lang/Object;") (fJR3_6 : Fld Z hJR3 b7 "java/util/AbstractList" "modCount" "I" (.int (3 : Int32))) (fJR3_7 : Fld Z hJR3 b7 "java/util/ArrayList" "elementData" "[Ljava/lang/Object;" (.ref b27)) (fJR3_8 : Fld Z hJR3 b7 "java/util/ArrayList" "size" "I" (.int (3 : Int32))) (fJR3_9 : Arv Z hJR3 b27 kb27 (.object "java/lang/Object") (10 : Int32) [(.ref b1), (.ref x6), (.ref x), .null, .null, .null, .null, .null, .null, .null] .null) , own_Gl p.tables e below F (TJR3.setTop (mkF m 170 #[.val (.int p1), .val (.int p2), .val (.int p3), .val (.int p4), .val (.int p5), .val (.int (3 : Int32)), .val (.int bb), .val (.int rf), .val (.ref b1), .val (.ref x6), .val (.ref x), .val (.ref b7), .unset, .unset, .unset] [(.ref ro)])) := by
        intro TJR3 lJR3 hJR3 vJR3 kJR3 ro XJR3 eJR3 NJR3 ZJR3 KJR3 hZJR3 hoJR3 hSJR3 hkJR3 CRJR3 sJR3_b7 sJR3_b27 fJR3_0 fJR3_1 fJR3_2 fJR3_3 fJR3_4 fJR3_5 fJR3_6 fJR3_7 fJR3_8 fJR3_9
        show own_Gl p.tables e below F (TJR3.setTop (mkF m 170 #[.val (.int p1), .val (.int p2), .val (.int p3), .val (.int p4), .val (.int p5), .val (.int (3 : Int32)), .val (.int bb), .val (.int rf), .val (.ref b1), .val (.ref x6), .val (.ref x), .val (.ref b7), .unset, .unset, .unset] [(.ref ro)]))
        refine own_go (fun _ k => XS.astore XJR3.here hx rfl (hb hby at_170) rfl rfl (l' := #[.val (.int p1), .val (.int p2), .val (.int p3), .val (.int p4), .val (.int p5), .val (.int (3 : Int32)), .val (.int bb), .val (.int rf), .val (.ref b1), .val (.ref x6), .val (.ref x), .val (.ref b7), .val (.ref ro), .unset, .unset]) rfl k) ?_
        show own_Gl p.tables e below F (TJR3.setTop (mkF m 172 #[.val (.int p1), .val (.int p2), .val (.int p3), .val (.int p4), .val (.int p5), .val (.int (3 : Int32)), .val (.int bb), .val (.int rf), .val (.ref b1), .val (.ref x6), .val (.ref x), .val (.ref b7), .val (.ref ro), .unset, .unset] []))
        obtain ⟨T30, h30, X30, e30, E30, A30, D30, -, st30⟩ := newO XJR3 hx hZJR3 hoJR3 (hw _ (List.mem_of_getElem? (i := 85) rfl)) (hw _ (List.mem_of_getElem? (i := 86) rfl)) (hw _ (List.mem_of_getElem? (i := 87) rfl)) eJR3 (g := (mkF m 172 #[.val (.int p1), .val (.int p2), .val (.int p3), .val (.int p4), .val (.int p5), .val (.int (3 : Int32)), .val (.int bb), .val (.int rf), .val (.ref b1), .val (.ref x6), .val (.ref x), .val (.ref b7), .val (.ref ro), .unset, .unset] [])) rfl (hb hby at_172) (by first | decide | exact Nat.le_of_ble_eq_true rfl) (by first | decide | exact Nat.le_of_ble_eq_true rfl)
        obtain ⟨b30, g30⟩ : ∃ z, z = hJR3.size := ⟨_, rfl⟩
        rw [← g30] at A30 D30 st30
        have ne_b1_b30 : b1 ≠ b30 := Nat.ne_of_lt (Nat.lt_of_lt_of_le fJR3_1.lt (Nat.le_of_eq g30.symm))
        have ne_x6_b30 : x6 ≠ b30 := Nat.ne_of_lt (Nat.lt_of_lt_of_le fJR3_2.lt (Nat.le_of_eq g30.symm))
        have ne_x_b30 : x ≠ b30 := Nat.ne_of_lt (Nat.lt_of_lt_of_le fJR3_3.lt (Nat.le_of_eq g30.symm))
        have ne_b7_b30 : b7 ≠ b30 := Nat.ne_of_lt (Nat.lt_of_lt_of_le fJR3_4.lt (Nat.le_of_eq g30.symm))
        have ne_b27_b30 : b27 ≠ b30 := Nat.ne_of_lt (Nat.lt_of_lt_of_le fJR3_5.lt (Nat.le_of_eq g30.symm))
        have ge_b30 : n0 ≤ b30 := Nat.le_trans ZJR3 (Nat.le_of_eq g30.symm)
        have sz_b30 : h0.size ≤ b30 := Nat.le_trans (KJR3).1 (Nat.le_of_eq g30.symm)
        have sf_b30 := Safe.ext E30 CRJR3.1 (Safe.new (Z := Z) (EL := own_EL) (vm := vJR3) (Nat.le_of_eq g30.symm))
        have f30_0 := fJR3_0.ext E30
        have f30_1 := fJR3_1.ext E30
        have f30_2 := fJR3_2.ext E30
        have f30_3 := fJR3_3.ext E30
        have f30_4 := fJR3_4.ext E30
        have f30_5 := fJR3_5.ext E30
        have f30_6 := fJR3_6.ext E30
        have f30_7 := fJR3_7.ext E30
        have f30_8 := fJR3_8.ext E30
        have f30_9 := fJR3_9.ext E30
        have Z30 : n0 ≤ h30.size := Nat.le_trans ZJR3 E30.1
        have K30 := Keep.ext KJR3 E30
        have sf30_0 := Safe.ext E30 CRJR3.1 sJR3_b7
        have sf30_1 := Safe.ext E30 CRJR3.1 sJR3_b27
        have CR30 := CRJR3.trans (CHr.ext E30 CRJR3.1)
        have hk30 : kJR3 ≤ h30.size := Nat.le_trans hkJR3 E30.1
        have F30_mechanisms : Fld Z h30 b30 "com/example/brokerwright/brokerwright/kafka/UserLookup" "mechanisms" "Ljava/util/List;" .null := D30 (Or.inr (hw _ (List.mem_of_getElem? (i := 127) rfl))) (ty := (.object "java/util/List")) (by decide)
        have F30_holdsBindings : Fld Z h30 b30 "com/example/brokerwright/brokerwright/kafka/UserLookup" "holdsBindings" "Z" (.int (0 : Int32)) := D30 (Or.inr (hw _ (List.mem_of_getElem? (i := 129) rfl))) (ty := .boolean) (by decide)
        have F30_refusal : Fld Z h30 b30 "com/example/brokerwright/brokerwright/kafka/UserLookup" "refusal" "Ljava/util/Optional;" .null := D30 (Or.inr (hw _ (List.mem_of_getElem? (i := 131) rfl))) (ty := (.object "java/util/Optional")) (by decide)
        have X30 : Stand _ _ _ _ _ _ _ _ _ _ _ _ 34 153 := X30
        refine own_go st30 ?_
        show own_Gl p.tables e below F (T30.setTop (mkF m 175 #[.val (.int p1), .val (.int p2), .val (.int p3), .val (.int p4), .val (.int p5), .val (.int (3 : Int32)), .val (.int bb), .val (.int rf), .val (.ref b1), .val (.ref x6), .val (.ref x), .val (.ref b7), .val (.ref ro), .unset, .unset] [(.ref b30)]))
        refine own_go (fun _ k => XS.dup X30.here hx rfl (hb hby at_175) rfl rfl k) ?_
        show own_Gl p.tables e below F (T30.setTop (mkF m 176 #[.val (.int p1), .val (.int p2), .val (.int p3), .val (.int p4), .val (.int p5), .val (.int (3 : Int32)), .val (.int bb), .val (.int rf), .val (.ref b1), .val (.ref x6), .val (.ref x), .val (.ref b7), .val (.ref ro), .unset, .unset] [(.ref b30), (.ref b30)]))
        refine own_go (fun _ k => XS.aload X30.here hx rfl (hb hby at_176) rfl rfl k) ?_
        show own_Gl p.tables e below F (T30.setTop (mkF m 178 #[.val (.int p1), .val (.int p2), .val (.int p3), .val (.int p4), .val (.int p5), .val (.int (3 : Int32)), .val (.int bb), .val (.int rf), .val (.ref b1), .val (.ref x6), .val (.ref x), .val (.ref b7), .val (.ref ro), .unset, .unset] [(.ref b7), (.ref b30), (.ref b30)]))
        refine own_go (fun _ k => XS.iload X30.here hx rfl (hb hby at_178) rfl k) ?_
        show own_Gl p.tables e below F (T30.setTop (mkF m 180 #[.val (.int p1), .val (.int p2), .val (.int p3), .val (.int p4), .val (.int p5), .val (.int (3 : Int32)), .val (.int bb), .val (.int rf), .val (.ref b1), .val (.ref x6), .val (.ref x), .val (.ref b7), .val (.ref ro), .unset, .unset] [(.int bb), (.ref b7), (.ref b30), (.ref b30)]))
        refine own_go (fun _ k => XS.aload X30.here hx rfl (hb hby at_180) rfl rfl k) ?_
        show own_Gl p.tables e below F (T30.setTop (mkF m 182 #[.val (.int p1), .val (.int p2), .val (.int p3), .val (.int p4), .val (.int p5), .val (.int (3 : Int32)), .val (.int bb), .val (.int rf), .val (.ref b1), .val (.ref x6), .val (.ref x), .val (.ref b7), .val (.ref ro), .unset, .unset] [(.ref ro), (.int bb), (.ref b7), (.ref b30), (.ref b30)]))
        obtain ⟨_, _, ⟨T31, L31, k31, n31⟩, -, X31, ⟨Lc31, hQ31, l31, y31, z31⟩, st31⟩ := X30.specialBack hx (y := (⟨"com/example/brokerwright/brokerwright/kafka/UserLookup", "<init>", "(Ljava/util/List;ZLjava/util/Optional;)V"⟩ : MethodName)) rfl hoJR3 (mvT hZJR3 (hw _ (List.mem_of_getElem? (i := 88) rfl))) (mvT hZJR3 (hw _ (List.mem_of_getElem? (i := 89) rfl))) (mvT hZJR3 (hw _ (List.mem_of_getElem? (i := 90) rfl))) (by decide) (backOf (W := 1) (rmUI_3 l Z a0 hw [] b30 b7 bb ro b27 kb27 mi b1 x6 x h30 n0 Z30 A30 F30_mechanisms F30_holdsBindings F30_refusal ge_b30 f30_4 f30_7 f30_8 f30_9 f30_5 MI f30_1 f30_2 f30_3) hZJR3 (hw _ (List.mem_of_getElem? (i := 90) rfl)) (hw _ (List.mem_of_getElem? (i := 87) rfl)) (by decide) (by decide)) (g := (mkF m 182 #[.val (.int p1), .val (.int p2), .val (.int p3), .val (.int p4), .val (.int p5), .val (.int (3 : Int32)), .val (.int bb), .val (.int rf), .val (.ref b1), .val (.ref x6), .val (.ref x), .val (.ref b7), .val (.ref ro), .unset, .unset] [(.ref ro), (.int bb), (.ref b7), (.ref b30), (.ref b30)])) rfl (by rw [hml]; rfl) (Steps.refl _) (a := b30) (argsL := [(.ref b7), (.int bb), (.ref ro)]) (rest := [(.ref b30)]) (lenOf pd_21 rfl) rfl (by show 2 * 0 + _ ≤ _; exact Nat.le_of_eq rfl) (hb hby at_182) (fun _ _ => ⟨rfl, e30, (by first | decide | exact Nat.le_of_ble_eq_true rfl), (by first | decide | exact Nat.le_of_ble_eq_true rfl)⟩)
        dsimp only [Pt.U, Pt.locs, Pt.cells, Pt.slots] at X31 l31 y31 z31 st31 hQ31
        have X31 := own_sn X31 (k' := 37) (n' := 161) y31 z31
        obtain ⟨rfl, N31, K31, GE31, GB31, y31, t31, k231, GM31, EY31, FY31, VY31⟩ := hQ31
        have NF31 := own_fr l31 NJR3 N31
        have sf31_0 := Safe.keep K31 (sfS sf_b30 sf0) CR30.1 sf30_0
        have sf31_1 := Safe.keep K31 (sfS sf_b30 sf0) CR30.1 sf30_1
        have sf31_2 := Safe.keep K31 (sfS sf_b30 sf0) CR30.1 sf_b30
        have CR31 := CR30.trans (CHr.keep K31 (sfS sf_b30 sf0) CR30.1)
        have hk31 : kJR3 ≤ T31.heap.size := Nat.le_trans hk30 K31.1
        have f31_1 := f30_0.keep K31 (allS ge_b30 (all0))
        have f31_2 := f30_1.keep K31
        have f31_3 := f30_2.keep K31
        have f31_4 := f30_3.keep K31
        have f31_5 := f30_4.keep K31
        have f31_6 := f30_5.keep K31
        have f31_7 := f30_6.keep K31 (ninS ne_b7_b30 nin0)
        have f31_8 := f30_7.keep K31 (ninS ne_b7_b30 nin0)
        have f31_9 := f30_8.keep K31 (ninS ne_b7_b30 nin0)
        have f31_10 := f30_9.keep K31 (ninS ne_b27_b30 nin0)
        have f31_11 := A30.keep K31
        have Z31 : n0 ≤ T31.heap.size := Nat.le_trans Z30 K31.1
        have KK31 := Keep.trans K30 K31 (by intro z hz; simp at hz; rcases hz with rfl; all_goals first | (left; simp; done) | (right; assumption))
        refine own_go (fun _ k => st31.trans k) ?_
        show own_Gl p.tables e below F (T31.setTop (mkF m 185 #[.val (.int p1), .val (.int p2), .val (.int p3), .val (.int p4), .val (.int p5), .val (.int (3 : Int32)), .val (.int bb), .val (.int rf), .val (.ref b1), .val (.ref x6), .val (.ref x), .val (.ref b7), .val (.ref ro), .unset, .unset] [(.ref b30)]))
        rw [hbb] at GB31
        refine own_go (fun _ k => XS.astore X31.here hx rfl (hb hby at_185) rfl rfl (l' := #[.val (.int p1), .val (.int p2), .val (.int p3), .val (.int p4), .val (.int p5), .val (.int (3 : Int32)), .val (.int bb), .val (.int rf), .val (.ref b1), .val (.ref x6), .val (.ref x), .val (.ref b7), .val (.ref ro), .val (.ref b30), .unset]) rfl k) ?_
        show own_Gl p.tables e below F (T31.setTop (mkF m 187 #[.val (.int p1), .val (.int p2), .val (.int p3), .val (.int p4), .val (.int p5), .val (.int (3 : Int32)), .val (.int bb), .val (.int rf), .val (.ref b1), .val (.ref x6), .val (.ref x), .val (.ref b7), .val (.ref ro), .val (.ref b30), .unset] []))
        refine own_go (fun _ k => XS.iload X31.here hx rfl (hb hby at_187) rfl k) ?_
        show own_Gl p.tables e below F (T31.setTop (mkF m 189 #[.val (.int p1), .val (.int p2), .val (.int p3), .val (.int p4), .val (.int p5), .val (.int (3 : Int32)), .val (.int bb), .val (.int rf), .val (.ref b1), .val (.ref x6), .val (.ref x), .val (.ref b7), .val (.ref ro), .val (.ref b30), .unset] [(.int (3 : Int32))]))
        refine own_go (fun _ k => XS.ifNo X31.here hx rfl (hb hby at_189) rfl (XT.i0_le_f (by decide)) k) ?_
        show own_Gl p.tables e below F (T31.setTop (mkF m 192 #[.val (.int p1), .val (.int p2), .val (.int p3), .val (.int p4), .val (.int p5), .val (.int (3 : Int32)), .val (.int bb), .val (.int rf), .val (.ref b1), .val (.ref x6), .val (.ref x), .val (.ref b7), .val (.ref ro), .val (.ref b30), .unset] []))
        refine own_go (fun _ k => XS.iconst X31.here hx rfl (hb hby at_192) k) ?_
        show own_Gl p.tables e below F (T31.setTop (mkF m 193 #[.val (.int p1), .val (.int p2), .val (.int p3), .val (.int p4), .val (.int p5), .val (.int (3 : Int32)), .val (.int bb), .val (.int rf), .val (.ref b1), .val (.ref x6), .val (.ref x), .val (.ref b7), .val (.ref ro), .val (.ref b30), .unset] [(.int (1 : Int32))]))
        refine own_go (fun _ k => XS.istore X31.here hx rfl (hb hby at_193) rfl (l' := #[.val (.int p1), .val (.int p2), .val (.int p3), .val (.int p4), .val (.int p5), .val (.int (3 : Int32)), .val (.int bb), .val (.int rf), .val (.ref b1), .val (.ref x6), .val (.ref x), .val (.ref b7), .val (.ref ro), .val (.ref b30), .val (.int (1 : Int32))]) rfl k) ?_
        show own_Gl p.tables e below F (T31.setTop (mkF m 195 #[.val (.int p1), .val (.int p2), .val (.int p3), .val (.int p4), .val (.int p5), .val (.int (3 : Int32)), .val (.int bb), .val (.int rf), .val (.ref b1), .val (.ref x6), .val (.ref x), .val (.ref b7), .val (.ref ro), .val (.ref b30), .val (.int (1 : Int32))] []))
        refine own_go (fun _ k => XS.goto X31.here hx rfl (pc0 := 195) (pc' := 202) rfl (hb hby at_195) (by decide) (by decide) k) ?_
        show own_Gl p.tables e below F (T31.setTop (mkF m 202 #[.val (.int p1), .val (.int p2), .val (.int p3), .val (.int p4), .val (.int p5), .val (.int (3 : Int32)), .val (.int bb), .val (.int rf), .val (.ref b1), .val (.ref x6), .val (.ref x), .val (.ref b7), .val (.ref ro), .val (.ref b30), .val (.int (1 : Int32))] []))
        refine own_go (fun _ k => XS.aload X31.here hx rfl (hb hby at_202) rfl rfl k) ?_
        show own_Gl p.tables e below F (T31.setTop (mkF m 204 #[.val (.int p1), .val (.int p2), .val (.int p3), .val (.int p4), .val (.int p5), .val (.int (3 : Int32)), .val (.int bb), .val (.int rf), .val (.ref b1), .val (.ref x6), .val (.ref x), .val (.ref b7), .val (.ref ro), .val (.ref b30), .val (.int (1 : Int32))] [(.ref b30)]))
        obtain ⟨cq32, kq32, q32a, q32b, q32c⟩ := isOf hZJR3 rfl GE31
        obtain ⟨_, _, ⟨T32, L32, k32, n32⟩, -, X32, ⟨Lc32, hQ32, l32, y32, z32⟩, st32⟩ := X31.virtualBack hx (y := (⟨"com/example/brokerwright/brokerwright/kafka/UserLookup", "holdsUser", "()Z"⟩ : MethodName)) (z := (⟨"com/example/brokerwright/brokerwright/kafka/UserLookup", "holdsUser", "()Z"⟩ : MethodName)) hoJR3 (mvT hZJR3 (hw _ (List.mem_of_getElem? (i := 132) rfl))) (mvT hZJR3 (hw _ (List.mem_of_getElem? (i := 133) rfl))) (notFace_of_selects (args := #[]) (mvT hZJR3 (hw _ (List.mem_of_getElem? (i := 135) rfl)))) (mvT hZJR3 (hw _ (List.mem_of_getElem? (i := 135) rfl))) (mvT hZJR3 (hw _ (List.mem_of_getElem? (i := 134) rfl))) (by decide) (backOf (W := 0) (rmHU_3 l Z a0 hw [] b30 y31 bb t31 k231 b1 x6 x T31.heap n0 Z31 GM31 GB31 EY31 jbb FY31 VY31) hZJR3 (hw _ (List.mem_of_getElem? (i := 136) rfl)) (hw _ (List.mem_of_getElem? (i := 87) rfl)) (by decide) (by decide)) q32a q32c (g := (mkF m 204 #[.val (.int p1), .val (.int p2), .val (.int p3), .val (.int p4), .val (.int p5), .val (.int (3 : Int32)), .val (.int bb), .val (.int rf), .val (.ref b1), .val (.ref x6), .val (.ref x), .val (.ref b7), .val (.ref ro), .val (.ref b30), .val (.int (1 : Int32))] [(.ref b30)])) rfl (by rw [hml]; rfl) (Steps.refl _) (argsL := []) (rest := []) (lenOf pd_16 rfl) rfl (by show 2 * 0 + _ ≤ _; exact Nat.le_of_eq rfl) (hb hby at_204) (fun _ _ => ⟨rfl, rfl, (by first | decide | exact Nat.le_of_ble_eq_true rfl), (by first | decide | exact Nat.le_of_ble_eq_true rfl)⟩)
        dsimp only [Pt.U, Pt.locs, Pt.cells, Pt.slots] at X32 l32 y32 z32 st32 hQ32
        have X32 := own_sn X32 (k' := 37) (n' := 161) y32 z32
        obtain ⟨rfl, N32, e32⟩ := hQ32
        have NF32 := own_fr l32 NF31 N32
        refine own_go (fun _ k => st32.trans k) ?_
        show own_Gl p.tables e below F (T32.setTop (mkF m 207 #[.val (.int p1), .val (.int p2), .val (.int p3), .val (.int p4), .val (.int p5), .val (.int (3 : Int32)), .val (.int bb), .val (.int rf), .val (.ref b1), .val (.ref x6), .val (.ref x), .val (.ref b7), .val (.ref ro), .val (.ref b30), .val (.int (1 : Int32))] [(.int (1 : Int32))]))
        refine own_go (fun _ k => XS.iload X32.here hx rfl (hb hby at_207) rfl k) ?_
        show own_Gl p.tables e below F (T32.setTop (mkF m 209 #[.val (.int p1), .val (.int p2), .val (.int p3), .val (.int p4), .val (.int p5), .val (.int (3 : Int32)), .val (.int bb), .val (.int rf), .val (.ref b1), .val (.ref x6), .val (.ref x), .val (.ref b7), .val (.ref ro), .val (.ref b30), .val (.int (1 : Int32))] [(.int (1 : Int32)), (.int (1 : Int32))]))
        refine own_go (fun _ k => XS.icmpNo X32.here hx rfl (hb hby at_209) rfl (XT.ii_ne_f rfl) k) ?_
        show own_Gl p.tables e below F (T32.setTop (mkF m 212 #[.val (.int p1), .val (.int p2), .val (.int p3), .val (.int p4), .val (.int p5), .val (.int (3 : Int32)), .val (.int bb), .val (.int rf), .val (.ref b1), .val (.ref x6), .val (.ref x), .val (.ref b7), .val (.ref ro), .val (.ref b30), .val (.int (1 : Int32))] []))
        refine own_go (fun _ k => XS.iconst X32.here hx rfl (hb hby at_212) k) ?_
        show own_Gl p.tables e below F (T32.setTop (mkF m 213 #[.val (.int p1), .val (.int p2), .val (.int p3), .val (.int p4), .val (.int p5), .val (.int (3 : Int32)), .val (.int bb), .val (.int rf), .val (.ref b1), .val (.ref x6), .val (.ref x), .val (.ref b7), .val (.ref ro), .val (.ref b30), .val (.int (1 : Int32))] [(.int (1 : Int32))]))
        refine own_go (fun _ k => XS.goto X32.here hx rfl (pc0 := 213) (pc' := 217) rfl (hb hby at_213) (by decide) (by decide) k) ?_
        show own_Gl p.tables e below F (T32.setTop (mkF m 217 #[.val (.int p1), .val (.int p2), .val (.int p3), .val (.int p4), .val (.int p5), .val (.int (3 : Int32)), .val (.int bb), .val (.int rf), .val (.ref b1), .val (.ref x6), .val (.ref x), .val (.ref b7), .val (.ref ro), .val (.ref b30), .val (.int (1 : Int32))] [(.int (1 : Int32))]))
        obtain ⟨fs, hr, hrun, hended, hRW⟩ := Jvm.Stand.leaveW X32 hSJR3 (by rw [e32]; exact hk31) (v := some (.int (1 : Int32))) (fun h => by rw [Bd.returns] at h; cases h)
        have CE : CHr Z own_EL s.vm s.heap T32.vm T32.heap := by rw [hh, e32]; exact CR31.trans (CHv.at X32 hZJR3 hEL CR31.1)
        subst hF
        refine own_fin ?_ ⟨hrun, hended, _, _, rfl, ?_, CE, hRW.1, hRW.2.1, hRW.2.2.1, hRW.2.2.2.mono (by first | decide | exact Nat.le_of_ble_eq_true rfl) (by first | decide | exact Nat.le_of_ble_eq_true rfl)⟩
        · exact own_retN X32 hx (t := .boolean) Bd.returns (by simp) rfl (hb hby at_217) hr
        · show Q_rm0 Z _ _ _ _ _ _ _ _ _ _ _ _ _ _ h0 n0 _ T32.heap _
          rw [e32]
          exact ⟨rfl, NF32⟩
      show own_Gl p.tables e below F (T29.setTop (mkF m 156 #[.val (.int p1), .val (.int p2), .val (.int p3), .val (.int p4), .val (.int p5), .val (.int (3 : Int32)), .val (.int bb), .val (.int rf), .val (.ref b1), .val (.ref x6), .val (.ref x), .val (.ref b7), .unset, .unset, .unset] [(.int rf)]))
      by_cases hrf : rf = 0
      · refine own_go (fun _ k => XS.ifYes X29.here hx rfl (pc0 := 156) (pc' := 167) rfl (hb hby at_156) rfl (XT.i0_eq_t hrf) (by decide) (by decide) k) ?_
        show own_Gl p.tables e below F (T29.setTop (mkF m 167 #[.val (.int p1), .val (.int p2), .val (.int p3), .val (.int p4), .val (.int p5), .val (.int (3 : Int32)), .val (.int bb), .val (.int rf), .val (.ref b1), .val (.ref x6), .val (.ref x), .val (.ref b7), .unset, .unset, .unset] []))
        obtain ⟨_, _, ⟨T33, L33, k33, n33⟩, -, X33, ⟨Lc33, hQ33, l33, y33, z33⟩, st33⟩ := Jvm.LawKit.callS X29 hx (y := (⟨"java/util/Optional", "empty", "()Ljava/util/Optional;"⟩ : MethodName)) hoJS (mvT hZJS (hw _ (List.mem_of_getElem? (i := 181) rfl))) (mvT hZJS (hw _ (List.mem_of_getElem? (i := 182) rfl))) (mvT hZJS (hw _ (List.mem_of_getElem? (i := 70) rfl))) (mvT hZJS (hw _ (List.mem_of_getElem? (i := 183) rfl))) (by decide) (backOf (W := 0) (rm30 l Z a0 hw []  oe T29.heap n0 Z29 f29_1 SE) hZJS (hw _ (List.mem_of_getElem? (i := 183) rfl)) (hw _ (List.mem_of_getElem? (i := 70) rfl)) (by decide) (by decide)) (g := (mkF m 167 #[.val (.int p1), .val (.int p2), .val (.int p3), .val (.int p4), .val (.int p5), .val (.int (3 : Int32)), .val (.int bb), .val (.int rf), .val (.ref b1), .val (.ref x6), .val (.ref x), .val (.ref b7), .unset, .unset, .unset] [])) rfl (by rw [hml]; rfl) (argsL := []) (rest := []) (lenOf pd_22 rfl) rfl (by show 2 * 0 + _ ≤ _; exact Nat.le_of_eq rfl) (hb hby at_167) (fun _ _ => ⟨rfl, rfl, (by first | decide | exact Nat.le_of_ble_eq_true rfl), (by first | decide | exact Nat.le_of_ble_eq_true rfl)⟩)
        dsimp only [Pt.U, Pt.locs, Pt.cells, Pt.slots] at X33 l33 y33 z33 st33 hQ33
        have X33 := own_sn X33 (k' := 20) (n' := 93) y33 z33
        obtain ⟨rfl, N33, e33⟩ := hQ33
        have NF33 := own_fr l33 NF29 N33
        refine own_go st33 ?_
        show own_Gl p.tables e below F (T33.setTop (mkF m 170 #[.val (.int p1), .val (.int p2), .val (.int p3), .val (.int p4), .val (.int p5), .val (.int (3 : Int32)), .val (.int bb), .val (.int rf), .val (.ref b1), .val (.ref x6), .val (.ref x), .val (.ref b7), .unset, .unset, .unset] [(.ref oe)]))
        exact JR3 _ _ _ _ _ oe (X33.mono (by decide) (by decide)) e33 NF33 Z29 KK29 hZJS hoJS hSJS hk29 CR29 sf29_0 sf29_1 f29_1 f29_2 f29_3 f29_4 GE29 EB29 GM29 GD29 GS29 VB29
      · refine own_go (fun _ k => XS.ifNo X29.here hx rfl (hb hby at_156) rfl (XT.i0_eq_f hrf) k) ?_
        show own_Gl p.tables e below F (T29.setTop (mkF m 159 #[.val (.int p1), .val (.int p2), .val (.int p3), .val (.int p4), .val (.int p5), .val (.int (3 : Int32)), .val (.int bb), .val (.int rf), .val (.ref b1), .val (.ref x6), .val (.ref x), .val (.ref b7), .unset, .unset, .unset] []))
        refine own_go (fun _ k => XS.aload X29.here hx rfl (hb hby at_159) rfl rfl k) ?_
        show own_Gl p.tables e below F (T29.setTop (mkF m 161 #[.val (.int p1), .val (.int p2), .val (.int p3), .val (.int p4), .val (.int p5), .val (.int (3 : Int32)), .val (.int bb), .val (.int rf), .val (.ref b1), .val (.ref x6), .val (.ref x), .val (.ref b7), .unset, .unset, .unset] [(.ref x6)]))
        obtain ⟨_, _, ⟨T34, L34, k34, n34⟩, -, X34, ⟨Lc34, hQ34, l34, y34, z34⟩, st34⟩ := Jvm.LawKit.callS X29 hx (y := (⟨"java/util/Optional", "of", "(Ljava/lang/Object;)Ljava/util/Optional;"⟩ : MethodName)) hoJS (mvT hZJS (hw _ (List.mem_of_getElem? (i := 68) rfl))) (mvT hZJS (hw _ (List.mem_of_getElem? (i := 69) rfl))) (mvT hZJS (hw _ (List.mem_of_getElem? (i := 70) rfl))) (mvT hZJS (hw _ (List.mem_of_getElem? (i := 71) rfl))) (by decide) (backOf (W := 0) (rm14 l Z a0 hw [] x6  T29.heap n0 Z29 ) hZJS (hw _ (List.mem_of_getElem? (i := 71) rfl)) (hw _ (List.mem_of_getElem? (i := 70) rfl)) (by decide) (by decide)) (g := (mkF m 161 #[.val (.int p1), .val (.int p2), .val (.int p3), .val (.int p4), .val (.int p5), .val (.int (3 : Int32)), .val (.int bb), .val (.int rf), .val (.ref b1), .val (.ref x6), .val (.ref x), .val (.ref b7), .unset, .unset, .unset] [(.ref x6)])) rfl (by rw [hml]; rfl) (argsL := [(.ref x6)]) (rest := []) (lenOf pd_23 rfl) rfl (by show 2 * 0 + _ ≤ _; exact Nat.le_of_eq rfl) (hb hby at_161) (fun _ _ => ⟨rfl, rfl, (by first | decide | exact Nat.le_of_ble_eq_true rfl), (by first | decide | exact Nat.le_of_ble_eq_true rfl)⟩)
        dsimp only [Pt.U, Pt.locs, Pt.cells, Pt.slots] at X34 l34 y34 z34 st34 hQ34
        have X34 := own_sn X34 (k' := 21) (n' := 94) y34 z34
        obtain ⟨x34, rfl, N34, K34⟩ := hQ34
        have NF34 := own_fr l34 NF29 N34
        have sf34_0 := Safe.keep K34 sf0 CR29.1 sf29_0
        have sf34_1 := Safe.keep K34 sf0 CR29.1 sf29_1
        have CR34 := CR29.trans (CHr.keep K34 sf0 CR29.1)
        have hk34 : kJS ≤ T34.heap.size := Nat.le_trans hk29 K34.1
        have f34_1 := f29_1.keep K34 (all0)
        have f34_2 := f29_2.keep K34
        have f34_3 := f29_3.keep K34
        have f34_4 := f29_4.keep K34
        have f34_5 := GE29.keep K34
        have f34_6 := EB29.keep K34
        have f34_7 := GM29.keep K34 nin0
        have f34_8 := GD29.keep K34 nin0
        have f34_9 := GS29.keep K34 nin0
        have f34_10 := VB29.keep K34 nin0
        have Z34 : n0 ≤ T34.heap.size := Nat.le_trans Z29 K34.1
        have KK34 := Keep.trans KK29 K34 (fun _ q => nomatch q)
        refine own_go st34 ?_
        show own_Gl p.tables e below F (T34.setTop (mkF m 164 #[.val (.int p1), .val (.int p2), .val (.int p3), .val (.int p4), .val (.int p5), .val (.int (3 : Int32)), .val (.int bb), .val (.int rf), .val (.ref b1), .val (.ref x6), .val (.ref x), .val (.ref b7), .unset, .unset, .unset] [(.ref x34)]))
        refine own_go (fun _ k => XS.goto X34.here hx rfl (pc0 := 164) (pc' := 170) rfl (hb hby at_164) (by decide) (by decide) k) ?_
        show own_Gl p.tables e below F (T34.setTop (mkF m 170 #[.val (.int p1), .val (.int p2), .val (.int p3), .val (.int p4), .val (.int p5), .val (.int (3 : Int32)), .val (.int bb), .val (.int rf), .val (.ref b1), .val (.ref x6), .val (.ref x), .val (.ref b7), .unset, .unset, .unset] [(.ref x34)]))
        exact JR3 _ _ _ _ _ x34 (X34.mono (by decide) (by decide)) rfl NF34 Z34 KK34 hZJS hoJS hSJS hk34 CR34 sf34_0 sf34_1 f34_1 f34_2 f34_3 f34_4 f34_5 f34_6 f34_7 f34_8 f34_9 f34_10
  show own_Gl p.tables e below F (T6.setTop (mkF m 75 #[.val (.int p1), .val (.int p2), .val (.int p3), .val (.int p4), .val (.int p5), .val (.int nn), .val (.int bb), .val (.int rf), .val (.ref b1), .val (.ref x6), .unset, .unset, .unset, .unset, .unset] [(.int (p2 &&& (4 : Int32)))]))
  by_cases h4 : (p2 &&& (4 : Int32)) = 0
  · refine own_go (fun _ k => XS.ifYes X6.here hx rfl (pc0 := 75) (pc' := 91) rfl (hb hby at_75) rfl (XT.i0_eq_t h4) (by decide) (by decide) k) ?_
    show own_Gl p.tables e below F (T6.setTop (mkF m 91 #[.val (.int p1), .val (.int p2), .val (.int p3), .val (.int p4), .val (.int p5), .val (.int nn), .val (.int bb), .val (.int rf), .val (.ref b1), .val (.ref x6), .unset, .unset, .unset, .unset, .unset] []))
    refine own_go (fun _ k => XS.iload X6.here hx rfl (hb hby at_91) rfl k) ?_
    show own_Gl p.tables e below F (T6.setTop (mkF m 93 #[.val (.int p1), .val (.int p2), .val (.int p3), .val (.int p4), .val (.int p5), .val (.int nn), .val (.int bb), .val (.int rf), .val (.ref b1), .val (.ref x6), .unset, .unset, .unset, .unset, .unset] [(.int p5)]))
    refine own_go (fun _ k => XS.sipush X6.here hx rfl (hb hby at_93) k) ?_
    show own_Gl p.tables e below F (T6.setTop (mkF m 96 #[.val (.int p1), .val (.int p2), .val (.int p3), .val (.int p4), .val (.int p5), .val (.int nn), .val (.int bb), .val (.int rf), .val (.ref b1), .val (.ref x6), .unset, .unset, .unset, .unset, .unset] [(.int (255 : Int32)), (.int p5)]))
    refine own_go (fun _ k => XS.iand X6.here hx rfl (hb hby at_96) rfl k) ?_
    show own_Gl p.tables e below F (T6.setTop (mkF m 97 #[.val (.int p1), .val (.int p2), .val (.int p3), .val (.int p4), .val (.int p5), .val (.int nn), .val (.int bb), .val (.int rf), .val (.ref b1), .val (.ref x6), .unset, .unset, .unset, .unset, .unset] [(.int (p5 &&& (255 : Int32)))]))
    refine own_go (fun _ k => XS.i2c X6.here hx rfl (hb hby at_97) rfl k) ?_
    show own_Gl p.tables e below F (T6.setTop (mkF m 98 #[.val (.int p1), .val (.int p2), .val (.int p3), .val (.int p4), .val (.int p5), .val (.int nn), .val (.int bb), .val (.int rf), .val (.ref b1), .val (.ref x6), .unset, .unset, .unset, .unset, .unset] [(.int ((p5 &&& (255 : Int32)).toUInt32.toUInt16.toUInt32.toInt32))]))
    obtain ⟨_, _, ⟨T35, L35, k35, n35⟩, -, X35, ⟨Lc35, hQ35, l35, y35, z35⟩, st35⟩ := Jvm.LawKit.callS X6 hx (y := (⟨"java/lang/String", "valueOf", "(C)Ljava/lang/String;"⟩ : MethodName)) hown0 (mvT hZ0 (hw _ (List.mem_of_getElem? (i := 30) rfl))) (mvT hZ0 (hw _ (List.mem_of_getElem? (i := 31) rfl))) (mvT hZ0 (hw _ (List.mem_of_getElem? (i := 2) rfl))) (mvT hZ0 (hw _ (List.mem_of_getElem? (i := 32) rfl))) (by decide) (backOf (W := 0) (rm7 l Z a0 hw [] ((p5 &&& (255 : Int32)).toUInt32.toUInt16.toUInt32.toInt32) zc T6.heap n0 Z6 f6_1 O2 P5 (own_b255 p5)) hZ0 (hw _ (List.mem_of_getElem? (i := 32) rfl)) (hw _ (List.mem_of_getElem? (i := 2) rfl)) (by decide) (by decide)) (g := (mkF m 98 #[.val (.int p1), .val (.int p2), .val (.int p3), .val (.int p4), .val (.int p5), .val (.int nn), .val (.int bb), .val (.int rf), .val (.ref b1), .val (.ref x6), .unset, .unset, .unset, .unset, .unset] [(.int ((p5 &&& (255 : Int32)).toUInt32.toUInt16.toUInt32.toInt32))])) rfl (by rw [hml]; rfl) (argsL := [(.int ((p5 &&& (255 : Int32)).toUInt32.toUInt16.toUInt32.toInt32))]) (rest := []) (lenOf pd_20 rfl) rfl (by show 2 * 0 + _ ≤ _; exact Nat.le_of_eq rfl) (hb hby at_98) (fun _ _ => ⟨rfl, rfl, (by first | decide | exact Nat.le_of_ble_eq_true rfl), (by first | decide | exact Nat.le_of_ble_eq_true rfl)⟩)
    dsimp only [Pt.U, Pt.locs, Pt.cells, Pt.slots] at X35 l35 y35 z35 st35 hQ35
    have X35 := own_sn X35 (k' := 7) (n' := 18) y35 z35
    obtain ⟨x35, rfl, N35, K35, hx35, EX35x⟩ := hQ35
    have NF35 := own_fr l35 NF6 N35
    have CR35 := CR6.trans (CHr.keep K35 sf0 CR6.1)
    have hk35 : 0 ≤ T35.heap.size := Nat.le_trans hk6 K35.1
    have f35_1 := f6_1.keep K35 (all0)
    have f35_2 := f6_2.keep K35
    have f35_3 := EX6x.keep K35
    have Z35 : n0 ≤ T35.heap.size := Nat.le_trans Z6 K35.1
    have KK35 := Keep.trans KK6 K35 (fun _ q => nomatch q)
    refine own_go st35 ?_
    show own_Gl p.tables e below F (T35.setTop (mkF m 101 #[.val (.int p1), .val (.int p2), .val (.int p3), .val (.int p4), .val (.int p5), .val (.int nn), .val (.int bb), .val (.int rf), .val (.ref b1), .val (.ref x6), .unset, .unset, .unset, .unset, .unset] [(.ref x35)]))
    exact JS _ _ _ _ _ x35 (X35.mono (by decide) (by decide)) rfl NF35 Z35 KK35 hZ0 hown0 hS0 hk35 CR35 f35_1 f35_2 f35_3 EX35x
  · refine own_go (fun _ k => XS.ifNo X6.here hx rfl (hb hby at_75) rfl (XT.i0_eq_f h4) k) ?_
    show own_Gl p.tables e below F (T6.setTop (mkF m 78 #[.val (.int p1), .val (.int p2), .val (.int p3), .val (.int p4), .val (.int p5), .val (.int nn), .val (.int bb), .val (.int rf), .val (.ref b1), .val (.ref x6), .unset, .unset, .unset, .unset, .unset] []))
    obtain ⟨T36, h36, X36, e36, E36, A36, D36, -, st36⟩ := newO X6 hx hZ0 hown0 (hw _ (List.mem_of_getElem? (i := 0) rfl)) (hw _ (List.mem_of_getElem? (i := 1) rfl)) (hw _ (List.mem_of_getElem? (i := 2) rfl)) rfl (g := (mkF m 78 #[.val (.int p1), .val (.int p2), .val (.int p3), .val (.int p4), .val (.int p5), .val (.int nn), .val (.int bb), .val (.int rf), .val (.ref b1), .val (.ref x6), .unset, .unset, .unset, .unset, .unset] [])) rfl (hb hby at_78) (by first | decide | exact Nat.le_of_ble_eq_true rfl) (by first | decide | exact Nat.le_of_ble_eq_true rfl)
    obtain ⟨b36, g36⟩ : ∃ z, z = T6.heap.size := ⟨_, rfl⟩
    rw [← g36] at A36 D36 st36
    have ne_b1_b36 : b1 ≠ b36 := Nat.ne_of_lt (Nat.lt_of_lt_of_le f6_2.lt (Nat.le_of_eq g36.symm))
    have ne_x6_b36 : x6 ≠ b36 := Nat.ne_of_lt (Nat.lt_of_lt_of_le EX6x.lt (Nat.le_of_eq g36.symm))
    have ge_b36 : n0 ≤ b36 := Nat.le_trans Z6 (Nat.le_of_eq g36.symm)
    have sz_b36 : h0.size ≤ b36 := Nat.le_trans (KK6).1 (Nat.le_of_eq g36.symm)
    have sf_b36 := Safe.ext E36 CR6.1 (Safe.new (Z := Z) (EL := own_EL) (vm := s.vm) (Nat.le_of_eq g36.symm))
    have f36_0 := f6_1.ext E36
    have f36_1 := f6_2.ext E36
    have f36_2 := EX6x.ext E36
    have Z36 : n0 ≤ h36.size := Nat.le_trans Z6 E36.1
    have K36 := Keep.ext KK6 E36
    have CR36 := CR6.trans (CHr.ext E36 CR6.1)
    have hk36 : 0 ≤ h36.size := Nat.le_trans hk6 E36.1
    have F36_coder : Fld Z h36 b36 "java/lang/String" "coder" "B" (.int (0 : Int32)) := D36 (Or.inr (hw _ (List.mem_of_getElem? (i := 27) rfl))) (ty := .byte) (by decide)
    have F36_value : Fld Z h36 b36 "java/lang/String" "value" "[B" .null := D36 (Or.inr (hw _ (List.mem_of_getElem? (i := 29) rfl))) (ty := (.array .byte)) (by decide)
    have X36 : Stand _ _ _ _ _ _ _ _ _ _ _ _ 6 17 := X36
    refine own_go st36 ?_
    show own_Gl p.tables e below F (T36.setTop (mkF m 81 #[.val (.int p1), .val (.int p2), .val (.int p3), .val (.int p4), .val (.int p5), .val (.int nn), .val (.int bb), .val (.int rf), .val (.ref b1), .val (.ref x6), .unset, .unset, .unset, .unset, .unset] [(.ref b36)]))
    refine own_go (fun _ k => XS.dup X36.here hx rfl (hb hby at_81) rfl rfl k) ?_
    show own_Gl p.tables e below F (T36.setTop (mkF m 82 #[.val (.int p1), .val (.int p2), .val (.int p3), .val (.int p4), .val (.int p5), .val (.int nn), .val (.int bb), .val (.int rf), .val (.ref b1), .val (.ref x6), .unset, .unset, .unset, .unset, .unset] [(.ref b36), (.ref b36)]))
    refine own_go (fun _ k => XS.iconst X36.here hx rfl (hb hby at_82) k) ?_
    show own_Gl p.tables e below F (T36.setTop (mkF m 83 #[.val (.int p1), .val (.int p2), .val (.int p3), .val (.int p4), .val (.int p5), .val (.int nn), .val (.int bb), .val (.int rf), .val (.ref b1), .val (.ref x6), .unset, .unset, .unset, .unset, .unset] [(.int (0 : Int32)), (.ref b36), (.ref b36)]))
    obtain ⟨T37, h37, k37, X37, e37, E37, A37, st37⟩ := newP X36 hx hZ0 (hw _ (List.mem_of_getElem? (i := 3) rfl)) e36 (g := (mkF m 83 #[.val (.int p1), .val (.int p2), .val (.int p3), .val (.int p4), .val (.int p5), .val (.int nn), .val (.int bb), .val (.int rf), .val (.ref b1), .val (.ref x6), .unset, .unset, .unset, .unset, .unset] [(.int (0 : Int32)), (.ref b36), (.ref b36)])) rfl (hb hby at_83) rfl (by decide) (cap := 0) (by decide) (by decide) (by decide) (by decide)
    obtain ⟨b37, g37⟩ : ∃ z, z = h36.size := ⟨_, rfl⟩
    rw [← g37] at A37 st37
    have ne_b1_b37 : b1 ≠ b37 := Nat.ne_of_lt (Nat.lt_of_lt_of_le f36_1.lt (Nat.le_of_eq g37.symm))
    have ne_x6_b37 : x6 ≠ b37 := Nat.ne_of_lt (Nat.lt_of_lt_of_le f36_2.lt (Nat.le_of_eq g37.symm))
    have ne_b36_b37 : b36 ≠ b37 := Nat.ne_of_lt (Nat.lt_of_lt_of_le A36.lt (Nat.le_of_eq g37.symm))
    have ge_b37 : n0 ≤ b37 := Nat.le_trans Z36 (Nat.le_of_eq g37.symm)
    have sz_b37 : h0.size ≤ b37 := Nat.le_trans (K36).1 (Nat.le_of_eq g37.symm)
    have sf_b37 := Safe.ext E37 CR36.1 (Safe.new (Z := Z) (EL := own_EL) (vm := s.vm) (Nat.le_of_eq g37.symm))
    have f37_0 := f36_0.ext E37
    have f37_1 := f36_1.ext E37
    have f37_2 := f36_2.ext E37
    have f37_3 := A36.ext E37
    have f37_4 := F36_coder.ext E37
    have f37_5 := F36_value.ext E37
    have Z37 : n0 ≤ h37.size := Nat.le_trans Z36 E37.1
    have K37 := Keep.ext K36 E37
    have sf37_0 := Safe.ext E37 CR36.1 sf_b36
    have CR37 := CR36.trans (CHr.ext E37 CR36.1)
    have hk37 : 0 ≤ h37.size := Nat.le_trans hk36 E37.1
    have V37 : Arv Z h37 b37 k37 .char (0 : Int32) [] (.int (0 : Int32)) := (Arv.new A37 (by decide)).pad (pad_rep [] (.int (0 : Int32)) 0)
    have X37 : Stand _ _ _ _ _ _ _ _ _ _ _ _ 7 17 := X37
    refine own_go st37 ?_
    show own_Gl p.tables e below F (T37.setTop (mkF m 85 #[.val (.int p1), .val (.int p2), .val (.int p3), .val (.int p4), .val (.int p5), .val (.int nn), .val (.int bb), .val (.int rf), .val (.ref b1), .val (.ref x6), .unset, .unset, .unset, .unset, .unset] [(.ref b37), (.ref b36), (.ref b36)]))
    obtain ⟨_, _, ⟨T38, L38, k38, n38⟩, -, X38, hs38, hg38, ⟨Lc38, hQ38, l38, y38, z38, hC38⟩, st38⟩ := X37.specialBackS hx (y := (⟨"java/lang/String", "<init>", "([C)V"⟩ : MethodName)) rfl hown0 (mvT hZ0 (hw _ (List.mem_of_getElem? (i := 4) rfl))) (mvT hZ0 (hw _ (List.mem_of_getElem? (i := 5) rfl))) (mvT hZ0 (hw _ (List.mem_of_getElem? (i := 6) rfl))) (by decide) (backOfSH (W := 1) (rm1e l Z a0 hw [] b36 b37 k37 h37 n0 Z37 f37_3 f37_5 f37_4 V37 ge_b36) hZ0 (hw _ (List.mem_of_getElem? (i := 6) rfl)) (hw _ (List.mem_of_getElem? (i := 2) rfl)) (by decide) (by decide) hEL CR37.1) (g := (mkF m 85 #[.val (.int p1), .val (.int p2), .val (.int p3), .val (.int p4), .val (.int p5), .val (.int nn), .val (.int bb), .val (.int rf), .val (.ref b1), .val (.ref x6), .unset, .unset, .unset, .unset, .unset] [(.ref b37), (.ref b36), (.ref b36)])) rfl (by rw [hml]; rfl) (Steps.refl _) (a := b36) (argsL := [(.ref b37)]) (rest := [(.ref b36)]) (lenOf pd_19 rfl) rfl (by show 2 * 0 + _ ≤ _; exact Nat.le_of_eq rfl) (hb hby at_85) (fun _ _ => ⟨rfl, e37, (by first | decide | exact Nat.le_of_ble_eq_true rfl), (by first | decide | exact Nat.le_of_ble_eq_true rfl)⟩)
    dsimp only [Pt.U, Pt.locs, Pt.cells, Pt.slots] at X38 l38 y38 z38 st38 hQ38 hs38 hg38 hC38
    have X38 := own_sn X38 (k' := 11) (n' := 25) y38 z38
    obtain ⟨rfl, N38, K38, GE38, -, -⟩ := hQ38
    have NF38 := own_fr l38 NF6 N38
    obtain ⟨XR38, hS38, hZ38, hown38⟩ := rebS hS0 (by rw [e37]; exact hk37) X38 hs38 hg38 hZ0 hown0
    have CR38 := CR37.trans hC38
    have sf38_0 := hC38.safe f37_3.lt sf37_0
    have sf38_1 := hC38.safe V37.lt sf_b37
    have f38_1 := f37_0.keep K38 (allS ge_b36 (all0))
    have f38_2 := f37_1.keep K38
    have f38_3 := f37_2.keep K38
    have f38_4 := f37_3.keep K38
    have f38_7 := V37.keep K38 (ninS (Ne.symm ne_b36_b37) nin0)
    have Z38 : n0 ≤ T38.heap.size := Nat.le_trans Z37 K38.1
    have KK38 := Keep.trans K37 K38 (by intro z hz; simp at hz; rcases hz with rfl; all_goals first | (left; simp; done) | (right; assumption))
    have hk38 : T38.heap.size ≤ T38.heap.size := Nat.le_refl _
    refine own_go (fun _ k => st38.trans k) ?_
    show own_Gl p.tables e below F (T38.setTop (mkF m 88 #[.val (.int p1), .val (.int p2), .val (.int p3), .val (.int p4), .val (.int p5), .val (.int nn), .val (.int bb), .val (.int rf), .val (.ref b1), .val (.ref x6), .unset, .unset, .unset, .unset, .unset] [(.ref b36)]))
    refine own_go (fun _ k => XS.goto XR38.here hx rfl (pc0 := 88) (pc' := 101) rfl (hb hby at_88) (by decide) (by decide) k) ?_
    show own_Gl p.tables e below F (T38.setTop (mkF m 101 #[.val (.int p1), .val (.int p2), .val (.int p3), .val (.int p4), .val (.int p5), .val (.int nn), .val (.int bb), .val (.int rf), .val (.ref b1), .val (.ref x6), .unset, .unset, .unset, .unset, .unset] [(.ref b36)]))
    exact JS _ _ _ _ _ b36 (XR38.mono (by decide) (by decide)) rfl NF38 Z38 KK38 hZ38 hown38 hS38 hk38 CR38 f38_1 f38_2 f38_3 GE38
theorem own_args {args : Array Value} (hs : args.size = 5) : ∃ w0 w1 w2 w3 w4 : Value, args = #[w0, w1, w2, w3, w4] := by
  obtain ⟨L⟩ := args
  match L, hs with
  | [w0, w1, w2, w3, w4], _ => exact ⟨w0, w1, w2, w3, w4, rfl⟩
set_option maxRecDepth 65536 in
set_option maxHeartbeats 40000000 in
theorem comes_1 {Post : Tables → Env → Array Value → State → Outcome → State → Prop} (hpost : ∀ tb e args s v u, (limb_1_1.after args s (.returned v) u = true ∧ limb_1_2.after args s (.returned v) u = true ∧ True) → ReturnedEndW s (.returned v) u (Jvm.fieldLocs frame_1_writes args s ++ Jvm.arrayLocs frame_1_arrays args s ++ Jvm.staticLocs frame_1_statics s) 40 1216 → Post tb e args s (.returned v) u) :
    ArmFor flags0 classFile x code maxLocals ret World_1 tables_1 room_1 Calls_1 rest_1 Pre_1 Post := by
  intro l hfl _ _ p e ha hc hk s m args below hf hA hF happ hP
  obtain ⟨hcalls, hrest, hpre⟩ := hP
  obtain ⟨-, -, -, hnamed, -, -, -, hat⟩ := (Spec.applies_iff hf).mp happ
  obtain ⟨hg, hn⟩ := and_e (Cond.before_iff.mp (show (Jvm.Cond.and given_1 narrow_1).before args s = true from hpre))
  obtain ⟨gv1, gv2⟩ := and_e hg
  obtain ⟨gv3, gv4⟩ := and_e gv2
  obtain ⟨gv5, gv6⟩ := and_e gv4
  obtain ⟨gv7, gv8⟩ := and_e gv6
  obtain ⟨gv9, gv10⟩ := and_e gv8
  obtain ⟨w0, w1, w2, w3, w4, rfl⟩ := own_args (args := args) (by simpa [Cond.value, given_1] using gv1)
  have hw := fun d (hd : d ∈ tables_1) => atoms_spec (ws := Jvm.Cond.code x code maxLocals ret :: tables_1) hat d (List.mem_cons_of_mem _ hd)
  have hfit : Fit s := fun {y c} hc i hi => by
    obtain ⟨ha, rfl⟩ := Array.getElem?_eq_some_iff.mp hc
    have q := List.all_eq_true.mp ((Array.all_eq_true_iff_forall_mem.mp hF) _ (Array.getElem_mem ha)) i (List.mem_range.mpr hi)
    simpa [Array.getElem?_eq_getElem hi] using q
  obtain ⟨hsets, hown0⟩ := atoms_of _ (rest_1_c_eq ▸ (show rest_1_c.before _ s = true from hrest))
  have hr0 := Cond.before_iff.mp hown0
  obtain ⟨i0, ei0⟩ := is_v gv3
  obtain rfl : w0 = (.int i0) := Option.some.inj ei0
  obtain ⟨i1, ei1⟩ := is_v gv5
  obtain rfl : w1 = (.int i1) := Option.some.inj ei1
  obtain ⟨i2, ei2⟩ := is_v gv7
  obtain rfl : w2 = (.int i2) := Option.some.inj ei2
  obtain ⟨i3, ei3⟩ := is_v gv9
  obtain rfl : w3 = (.int i3) := Option.some.inj ei3
  obtain ⟨i4, ei4⟩ := is_v gv10
  obtain rfl : w4 = (.int i4) := Option.some.inj ei4
  obtain ⟨zc, ezc⟩ := is_v (Cond.before_iff.mp (hsets _ (List.mem_of_getElem? (i := 1) rfl)))
  have O2 := Sta.start ezc (Or.inl (hsets _ (List.mem_of_getElem? (i := 0) rfl)))
  have P5 : ¬ zc = 0 := gotF (Cond.eq_ints ezc (Term.int_eval (0 : Int32))) (by simpa using not_v (Cond.before_iff.mp (hsets _ (List.mem_of_getElem? (i := 2) rfl))))
  obtain ⟨dc, edc⟩ := arr_v (Cond.before_iff.mp (hsets _ (List.mem_of_getElem? (i := 15) rfl)))
  have SD := Sta.start edc (Or.inr ⟨(hw _ (List.mem_of_getElem? (i := 46) rfl)), (hsets _ (List.mem_of_getElem? (i := 11) rfl))⟩)
  obtain ⟨kd, VD⟩ := own_empty hfit edc (Cond.before_iff.mp (hsets _ (List.mem_of_getElem? (i := 15) rfl))) (Cond.before_iff.mp (hsets _ (List.mem_of_getElem? (i := 17) rfl)))
  obtain ⟨el, eel⟩ := exa_v (Cond.before_iff.mp (hsets _ (List.mem_of_getElem? (i := 20) rfl)))
  have SL := Sta.start eel (Or.inl (hsets _ (List.mem_of_getElem? (i := 19) rfl)))
  have XL := Exa.start eel (Cond.before_iff.mp (hsets _ (List.mem_of_getElem? (i := 20) rfl)))
  obtain ⟨te, ete⟩ := arr_v (Cond.before_iff.mp (hsets _ (List.mem_of_getElem? (i := 21) rfl)))
  obtain ⟨ke, VL⟩ := own_empty hfit ete (Cond.before_iff.mp (hsets _ (List.mem_of_getElem? (i := 21) rfl))) (Cond.before_iff.mp (hsets _ (List.mem_of_getElem? (i := 23) rfl)))
  have FL := Fld.start ((fld_at eel).symm.trans ete)
  obtain ⟨oe, eoe⟩ := exa_v (Cond.before_iff.mp (hsets _ (List.mem_of_getElem? (i := 27) rfl)))
  have SE := Sta.start eoe (Or.inl (hsets _ (List.mem_of_getElem? (i := 26) rfl)))
  obtain ⟨em, eem⟩ := exa_v (Cond.before_iff.mp (hsets _ (List.mem_of_getElem? (i := 31) rfl)))
  have SM := Sta.start eem (Or.inl (hsets _ (List.mem_of_getElem? (i := 30) rfl)))
  obtain ⟨cMi, kMi, mi, MIh⟩ := hcalls.1
  have MI : Mir s "[Ljava/lang/Object;" mi := ⟨cMi, kMi, MIh⟩
  have hCH : CHv s own_EL s.vm s.heap := CHv.start (own_hEL hw) (fun p hp => hcalls.2.1 p hp) (hsets _ (List.mem_of_getElem? (i := 2) rfl)) (hw _ (List.mem_of_getElem? (i := 19) rfl)) (hw _ (List.mem_of_getElem? (i := 1) rfl))
  obtain ⟨n, o, h1, h2, h3, _, L, rfl, ⟨rfl, N⟩, -, hq⟩ := rm0 l s _ hw tables_1 i0 i1 i2 i3 i4 zc dc kd mi el em oe te ke s.heap s.heap.size (Nat.le_refl _) (Old.start s) O2 P5 SD VD MI SL SM SE XL FL VL p e ha hc hk s m _ below hf ((Spec.applies_iff_loose hf).mp happ).1 ⟨rfl, State.Warmed39.refl s, rfl, hCH⟩ trivial
  refine ⟨n, _, h1, h2, h3, hpost _ _ _ _ _ _ ⟨Cond.after_iff.mpr rfl, Cond.after_iff.mpr (eq_i res_at (Term.int_eval (1)) rfl), trivial⟩ ⟨hq.1, hq.2.1, hq.2.2.1, (hq.2.2.2.sift fun y hy => Or.inr (N y hy)).mono (by decide) (by decide)⟩⟩
theorem main_1_1 : Claimed_1_1 := comes_1 fun _ _ _ _ _ _ h hF => ⟨h.1, hF⟩
theorem main_1_2 : Claimed_1_2 := comes_1 fun _ _ _ _ _ _ h hF => ⟨h.2.1, hF⟩
end Jvm.Pilot.@@N@@
namespace Jvm.Pilot.@@N@@
open Jvm Jvm.ClassFile Sem Op Lib Jvm.Free Jvm.Stand Jvm.Pilot.@@N@@.Jvm.D
/-! MADE BY PROGRAM (witnessworld.py) out of the Statement's table words and the real class files: 41 classes; the members and pool entries that the words name. The judged class is class 1, her method 1. -/
namespace start1
open Jvm.ClassFile
def u (s : String) : CpInfo := .utf8 (stringToUtf16 s)
/-- a pool by its gaps: so many unusable entries, then the entry; so many at the end -/
def gap : Nat → List CpInfo → List CpInfo
  | 0, r => r
  | n + 1, r => .unusable :: gap n r
def poolList (es : List (Nat × CpInfo)) (last : Nat) : List CpInfo := es.foldr (fun e r => gap e.1 (e.2 :: r)) (gap last [])
def pool (es : List (Nat × CpInfo)) (last : Nat) : Array CpInfo := ⟨poolList es last⟩
def fileOf (pool : Array CpInfo) (this : Nat) (attrs : Array Attribute := #[]) (ms : Array MethodInfo := #[]) (fl : Nat := 33) (sup : Nat := 0) (ifs : Array Nat := #[]) (fds : Array FieldInfo := #[]) : ClassFile where
  minorVersion := 0
  majorVersion := 65
  constantPool := pool
  accessFlags := fl
  thisClass := this
  superClass := sup
  interfaces := ifs
  fields := fds
  methods := ms
  attributes := attrs
def plain (name : String) (sup : Option ClassId) : Class where
  name := name
  kind := .ordinary
  loader := none
  accessFlags := 33
  super := sup
  interfaces := #[]
  cf := none
  fields := #[]
  methods := #[]
  instanceTypes := #[]
  staticTypes := #[]
  resolved := #[]
  callSites := []
  init := .initialized
  statics := none
  mirror := none

def pool0 : Array CpInfo := pool [(5, u "<init>"), (0, u "()V"), (1, .class_ 10), (1, u "java/lang/Object"), (0, u "getClass"), (0, u "()Ljava/lang/Class;")] 111

def k0c0 : Code := { maxStack := 0, maxLocals := 1, code := object_method_1_code, exceptionTable := #[], attributes := #[] }
def k0m0 : Method := { name := "<init>", desc := "()V", sig := { parameters := [], returnType := none }, accessFlags := 1, code := some k0c0 }
def k0m1 : Method := { name := "getClass", desc := "()Ljava/lang/Class;", sig := { parameters := [], returnType := some (.object "java/lang/Class") }, accessFlags := 273, code := none }
/-- java/lang/Object -/
def k0 : Class := { plain "java/lang/Object" none with
  accessFlags := 33
  interfaces := #[]
  cf := some (fileOf pool0 8 #[] #[{ accessFlags := 1, nameIndex := 5, descriptorIndex := 6, attributes := #[] }, { accessFlags := 273, nameIndex := 11, descriptorIndex := 12, attributes := #[] }] 33 0 #[] #[])
  fields := #[]
  methods := #[k0m0, k0m1]
  instanceTypes := #[]
  staticTypes := #[]
  resolved := Array.replicate 124 none
  statics := none }

def pool1 : Array CpInfo := pool [(2, .class_ 4), (0, .nameAndType 5 6), (0, u "java/lang/Object"), (0, u "<init>"), (0, u "()V"), (0, .class_ 8), (0, u "java/lang/String"), (0, .methodref 7 10), (0, .nameAndType 5 11), (0, u "([C)V"), (0, .methodref 7 13), (0, .nameAndType 14 15), (0, u "valueOf"), (0, u "(C)Ljava/lang/String;"), (0, .class_ 17), (0, u "java/util/ArrayList"), (0, .methodref 16 3), (0, .methodref 16 20), (0, .nameAndType 21 22), (0, u "add"), (0, u "(Ljava/lang/Object;)Z"), (0, .methodref 24 25), (0, .class_ 26), (0, .nameAndType 27 28), (0, u "java/util/Optional"), (0, u "of"), (0, u "(Ljava/lang/Object;)Ljava/util/Optional;"), (0, .methodref 24 30), (0, .nameAndType 31 32), (0, u "empty"), (0, u "()Ljava/util/Optional;"), (0, .class_ 34), (0, u "com/example/brokerwright/brokerwright/kafka/UserLookup"), (0, .methodref 33 36), (0, .nameAndType 5 37), (0, u "(Ljava/util/List;ZLjava/util/Optional;)V"), (0, .methodref 33 39), (0, .nameAndType 40 41), (0, u "holdsUser"), (0, u "()Z"), (0, .class_ 43), (0, u "com/example/brokerwright/brokerwright/kafka/UserLookupHoldsUserPinLaw"), (2, u "law"), (0, u "(IIIII)Z")] 3

def k1m0 : Method := { name := "<init>", desc := "()V", sig := { parameters := [], returnType := none }, accessFlags := 1, code := none }
def k1c1 : Code := { maxStack := 7, maxLocals := 15, code := code, exceptionTable := #[], attributes := #[] }
def k1m1 : Method := { name := "law", desc := "(IIIII)Z", sig := { parameters := [.int, .int, .int, .int, .int], returnType := some .boolean }, accessFlags := 9, code := some k1c1 }
/-- com/example/brokerwright/brokerwright/kafka/UserLookupHoldsUserPinLaw -/
def k1 : Class := { plain "com/example/brokerwright/brokerwright/kafka/UserLookupHoldsUserPinLaw" (some 0) with
  accessFlags := 49
  interfaces := #[]
  cf := some (fileOf pool1 42 #[] #[{ accessFlags := 1, nameIndex := 5, descriptorIndex := 6, attributes := #[] }, { accessFlags := 9, nameIndex := 46, descriptorIndex := 47, attributes := #[] }] 49 2 #[] #[])
  fields := #[]
  methods := #[k1m0, k1m1]
  instanceTypes := #[]
  staticTypes := #[]
  resolved := Array.replicate 51 none
  statics := none }

def pool2 : Array CpInfo := pool [(1, .class_ 2), (0, u "java/io/Serializable"), (0, .class_ 4), (0, u "java/lang/Object")] 2

/-- java/io/Serializable -/
def k2 : Class := { plain "java/io/Serializable" (some 0) with
  accessFlags := 1537
  interfaces := #[]
  cf := some (fileOf pool2 1 #[] #[] 1537 3 #[] #[])
  fields := #[]
  methods := #[]
  instanceTypes := #[]
  staticTypes := #[]
  resolved := Array.replicate 7 none
  statics := none }

def pool3 : Array CpInfo := pool [(1, .class_ 2), (0, u "java/lang/Comparable"), (0, .class_ 4), (0, u "java/lang/Object")] 7

/-- java/lang/Comparable -/
def k3 : Class := { plain "java/lang/Comparable" (some 0) with
  accessFlags := 1537
  interfaces := #[]
  cf := some (fileOf pool3 1 #[] #[] 1537 3 #[] #[])
  fields := #[]
  methods := #[]
  instanceTypes := #[]
  staticTypes := #[]
  resolved := Array.replicate 12 none
  statics := none }

def pool4 : Array CpInfo := pool [(2, .class_ 4), (1, u "java/lang/CharSequence"), (42, .class_ 48), (0, u "java/lang/CharSequence$1CodePointIterator"), (10, .class_ 60), (0, u "java/lang/CharSequence$1CharIterator"), (5, .class_ 67), (0, u "java/lang/Object")] 63

/-- java/lang/CharSequence -/
def k4 : Class := { plain "java/lang/CharSequence" (some 0) with
  accessFlags := 1537
  interfaces := #[]
  cf := some (fileOf pool4 2 #[.nestMembers #[47, 59]] #[] 1537 66 #[] #[])
  fields := #[]
  methods := #[]
  instanceTypes := #[]
  staticTypes := #[]
  resolved := Array.replicate 131 none
  statics := none }

def pool5 : Array CpInfo := pool [(1, .class_ 2), (0, u "java/lang/constant/Constable"), (0, .class_ 4), (0, u "java/lang/Object")] 6

/-- java/lang/constant/Constable -/
def k5 : Class := { plain "java/lang/constant/Constable" (some 0) with
  accessFlags := 1537
  interfaces := #[]
  cf := some (fileOf pool5 1 #[] #[] 1537 3 #[] #[])
  fields := #[]
  methods := #[]
  instanceTypes := #[]
  staticTypes := #[]
  resolved := Array.replicate 11 none
  statics := none }

def pool6 : Array CpInfo := pool [(1, .class_ 2), (0, u "java/lang/constant/ConstantDesc"), (0, .class_ 4), (0, u "java/lang/Object")] 32

/-- java/lang/constant/ConstantDesc -/
def k6 : Class := { plain "java/lang/constant/ConstantDesc" (some 0) with
  accessFlags := 1537
  interfaces := #[]
  cf := some (fileOf pool6 1 #[] #[] 1537 3 #[] #[])
  fields := #[]
  methods := #[]
  instanceTypes := #[]
  staticTypes := #[]
  resolved := Array.replicate 37 none
  statics := none }

def pool7 : Array CpInfo := pool [(1, .methodref 2 3), (0, .class_ 4), (0, .nameAndType 5 6), (0, u "java/lang/Object"), (0, u "<init>"), (0, u "()V"), (0, .string 8), (0, u ""), (0, .fieldref 10 11), (0, .class_ 12), (0, .nameAndType 13 14), (0, u "java/lang/String"), (0, u "value"), (0, u "[B"), (0, .fieldref 10 16), (0, .nameAndType 17 18), (0, u "coder"), (0, u "B"), (2, u "hash"), (0, u "I"), (2, u "hashIsZero"), (0, u "Z"), (0, .methodref 10 28), (0, .nameAndType 5 29), (0, u "([CIILjava/lang/Void;)V"), (8, .fieldref 10 39), (0, .nameAndType 40 26), (0, u "COMPACT_STRINGS"), (1, .class_ 44), (1, u "java/lang/StringUTF16"), (0, u "compress"), (1, .methodref 42 48), (0, .nameAndType 49 50), (0, u "coderFromArrayLen"), (0, u "([BI)B"), (2, u "toBytes"), (53, .class_ 109), (1, u "java/lang/StringLatin1"), (67, .methodref 42 178), (0, .nameAndType 45 179), (0, u "([CII)[B"), (29, .methodref 10 210), (0, .nameAndType 5 211), (0, u "([BB)V"), (157, u "(C)Z"), (205, .class_ 576), (0, u "java/lang/CharSequence"), (22, u "CASE_INSENSITIVE_ORDER"), (0, u "Ljava/util/Comparator;"), (181, u "valueOf"), (0, u "(C)Ljava/lang/String;"), (226, u "([C)V"), (4, .methodref 107 1016), (0, .nameAndType 1017 369), (0, u "canEncode"), (0, .methodref 107 1019), (0, .nameAndType 53 1020), (0, u "(C)[B"), (80, u "serialPersistentFields"), (0, u "[Ljava/io/ObjectStreamField;"), (0, .class_ 1104), (0, u "java/lang/String$CaseInsensitiveComparator"), (1, .class_ 1107), (0, u "java/io/Serializable"), (0, .class_ 1109), (0, u "java/lang/Comparable"), (0, .class_ 1111), (0, u "java/lang/constant/Constable"), (0, .class_ 1113), (0, u "java/lang/constant/ConstantDesc"), (2, u "serialVersionUID"), (0, u "J"), (3, u "REPL"), (0, u "C"), (2, u "LATIN1"), (1, u "UTF16")] 323

def k7m0 : Method := { name := "<init>", desc := "()V", sig := { parameters := [], returnType := none }, accessFlags := 1, code := none }
def k7c1 : Code := { maxStack := 5, maxLocals := 2, code := jdk_42_method_3_code, exceptionTable := #[], attributes := #[] }
def k7m1 : Method := { name := "<init>", desc := "([C)V", sig := { parameters := [(.array .char)], returnType := none }, accessFlags := 1, code := some k7c1 }
def k7c2 : Code := { maxStack := 4, maxLocals := 1, code := jdk_42_method_139_code, exceptionTable := #[], attributes := #[] }
def k7m2 : Method := { name := "valueOf", desc := "(C)Ljava/lang/String;", sig := { parameters := [.char], returnType := some (.object "java/lang/String") }, accessFlags := 9, code := some k7c2 }
def k7c3 : Code := { maxStack := 4, maxLocals := 6, code := jdk_42_method_149_code, exceptionTable := #[], attributes := #[] }
def k7m3 : Method := { name := "<init>", desc := "([CIILjava/lang/Void;)V", sig := { parameters := [(.array .char), .int, .int, (.object "java/lang/Void")], returnType := none }, accessFlags := 2, code := some k7c3 }
def k7c4 : Code := { maxStack := 2, maxLocals := 3, code := jdk_42_method_151_code, exceptionTable := #[], attributes := #[] }
def k7m4 : Method := { name := "<init>", desc := "([BB)V", sig := { parameters := [(.array .byte), .byte], returnType := none }, accessFlags := 0, code := some k7c4 }
/-- java/lang/String -/
def k7 : Class := { plain "java/lang/String" (some 0) with
  accessFlags := 49
  interfaces := #[2, 3, 4, 5, 6]
  cf := some (fileOf pool7 10 #[.nestMembers #[1103]] #[{ accessFlags := 1, nameIndex := 5, descriptorIndex := 6, attributes := #[] }, { accessFlags := 1, nameIndex := 5, descriptorIndex := 1010, attributes := #[] }, { accessFlags := 9, nameIndex := 782, descriptorIndex := 783, attributes := #[] }, { accessFlags := 2, nameIndex := 5, descriptorIndex := 29, attributes := #[] }, { accessFlags := 0, nameIndex := 5, descriptorIndex := 211, attributes := #[] }] 49 2 #[1106, 1108, 575, 1110, 1112] #[{ accessFlags := 18, nameIndex := 13, descriptorIndex := 14, attributes := #[] }, { accessFlags := 18, nameIndex := 17, descriptorIndex := 18, attributes := #[] }, { accessFlags := 2, nameIndex := 21, descriptorIndex := 22, attributes := #[] }, { accessFlags := 2, nameIndex := 25, descriptorIndex := 26, attributes := #[] }, { accessFlags := 26, nameIndex := 1116, descriptorIndex := 1117, attributes := #[] }, { accessFlags := 24, nameIndex := 40, descriptorIndex := 26, attributes := #[] }, { accessFlags := 26, nameIndex := 1101, descriptorIndex := 1102, attributes := #[] }, { accessFlags := 26, nameIndex := 1121, descriptorIndex := 1122, attributes := #[] }, { accessFlags := 25, nameIndex := 599, descriptorIndex := 600, attributes := #[] }, { accessFlags := 24, nameIndex := 1125, descriptorIndex := 18, attributes := #[] }, { accessFlags := 24, nameIndex := 1127, descriptorIndex := 18, attributes := #[] }])
  fields := #[{ name := "value", type := (.array .byte), accessFlags := 18, slot := 0, constantValue := 0 }, { name := "coder", type := .byte, accessFlags := 18, slot := 1, constantValue := 0 }, { name := "hash", type := .int, accessFlags := 2, slot := 2, constantValue := 0 }, { name := "hashIsZero", type := .boolean, accessFlags := 2, slot := 3, constantValue := 0 }, { name := "serialVersionUID", type := .long, accessFlags := 26, slot := 0, constantValue := 0 }, { name := "COMPACT_STRINGS", type := .boolean, accessFlags := 24, slot := 1, constantValue := 0 }, { name := "serialPersistentFields", type := (.array (.object "java/io/ObjectStreamField")), accessFlags := 26, slot := 2, constantValue := 0 }, { name := "REPL", type := .char, accessFlags := 26, slot := 3, constantValue := 0 }, { name := "CASE_INSENSITIVE_ORDER", type := (.object "java/util/Comparator"), accessFlags := 25, slot := 4, constantValue := 0 }, { name := "LATIN1", type := .byte, accessFlags := 24, slot := 5, constantValue := 0 }, { name := "UTF16", type := .byte, accessFlags := 24, slot := 6, constantValue := 0 }]
  methods := #[k7m0, k7m1, k7m2, k7m3, k7m4]
  instanceTypes := #[(.array .byte), .byte, .int, .boolean]
  staticTypes := #[.long, .boolean, (.array (.object "java/io/ObjectStreamField")), .char, (.object "java/util/Comparator"), .byte, .byte]
  resolved := Array.replicate 1451 none
  statics := some 0 }

def pool8 : Array CpInfo := pool [(6, .class_ 8), (1, u "java/lang/Object"), (0, u "<init>"), (0, u "()V"), (1, .class_ 14), (1, u "java/lang/StringUTF16"), (31, u "$assertionsDisabled"), (0, u "Z"), (13, u "HI_BYTE_SHIFT"), (0, u "I"), (2, u "LO_BYTE_SHIFT"), (49, .methodref 12 116), (0, .nameAndType 117 118), (0, u "compress"), (0, u "([CI[BII)I"), (3, u "([CII)[B"), (138, u "coderFromArrayLen"), (0, u "([BI)B"), (106, .class_ 371), (1, u "java/lang/StringUTF16$LinesSpliterator"), (58, u "MAX_LENGTH"), (196, .class_ 628), (0, u "java/lang/StringUTF16$CodePointsSpliterator"), (0, .class_ 630), (0, u "java/lang/StringUTF16$CharsSpliterator")] 4

def k8m0 : Method := { name := "<init>", desc := "()V", sig := { parameters := [], returnType := none }, accessFlags := 0, code := none }
def k8c1 : Code := { maxStack := 2, maxLocals := 2, code := jdk_52_method_15_code, exceptionTable := #[], attributes := #[] }
def k8m1 : Method := { name := "coderFromArrayLen", desc := "([BI)B", sig := { parameters := [(.array .byte), .int], returnType := some .byte }, accessFlags := 8, code := some k8c1 }
def k8c2 : Code := { maxStack := 5, maxLocals := 6, code := jdk_52_method_16_code, exceptionTable := #[], attributes := #[] }
def k8m2 : Method := { name := "compress", desc := "([CII)[B", sig := { parameters := [(.array .char), .int, .int], returnType := some (.array .byte) }, accessFlags := 9, code := some k8c2 }
def k8c3 : Code := { maxStack := 3, maxLocals := 7, code := jdk_52_method_21_code, exceptionTable := #[], attributes := #[] }
def k8m3 : Method := { name := "compress", desc := "([CI[BII)I", sig := { parameters := [(.array .char), .int, (.array .byte), .int, .int], returnType := some .int }, accessFlags := 9, code := some k8c3 }
/-- java/lang/StringUTF16 -/
def k8 : Class := { plain "java/lang/StringUTF16" (some 0) with
  accessFlags := 48
  interfaces := #[]
  cf := some (fileOf pool8 12 #[.nestMembers #[627, 629, 369]] #[{ accessFlags := 0, nameIndex := 9, descriptorIndex := 10, attributes := #[] }, { accessFlags := 8, nameIndex := 261, descriptorIndex := 262, attributes := #[] }, { accessFlags := 9, nameIndex := 117, descriptorIndex := 122, attributes := #[] }, { accessFlags := 9, nameIndex := 117, descriptorIndex := 118, attributes := #[] }] 48 6 #[] #[{ accessFlags := 26, nameIndex := 61, descriptorIndex := 62, attributes := #[] }, { accessFlags := 26, nameIndex := 65, descriptorIndex := 62, attributes := #[] }, { accessFlags := 24, nameIndex := 430, descriptorIndex := 62, attributes := #[] }, { accessFlags := 4120, nameIndex := 46, descriptorIndex := 47, attributes := #[] }])
  fields := #[{ name := "HI_BYTE_SHIFT", type := .int, accessFlags := 26, slot := 0, constantValue := 0 }, { name := "LO_BYTE_SHIFT", type := .int, accessFlags := 26, slot := 1, constantValue := 0 }, { name := "MAX_LENGTH", type := .int, accessFlags := 24, slot := 2, constantValue := 0 }, { name := "$assertionsDisabled", type := .boolean, accessFlags := 4120, slot := 3, constantValue := 0 }]
  methods := #[k8m0, k8m1, k8m2, k8m3]
  instanceTypes := #[]
  staticTypes := #[.int, .int, .int, .boolean]
  resolved := Array.replicate 635 none
  statics := none }

def pool9 : Array CpInfo := pool [(4, .class_ 6), (1, u "java/lang/Object"), (0, u "<init>"), (0, u "()V"), (5, .class_ 16), (1, u "java/lang/StringLatin1"), (73, u "canEncode"), (14, u "(C)Z"), (15, u "$assertionsDisabled"), (0, u "Z"), (98, .class_ 223), (1, u "java/lang/StringLatin1$LinesSpliterator"), (156, u "toBytes"), (1, u "(C)[B"), (7, .class_ 391), (0, u "java/lang/StringLatin1$CharsSpliterator")] 3

def k9m0 : Method := { name := "<init>", desc := "()V", sig := { parameters := [], returnType := none }, accessFlags := 0, code := none }
def k9c1 : Code := { maxStack := 2, maxLocals := 1, code := jdk_43_method_3_code, exceptionTable := #[], attributes := #[] }
def k9m1 : Method := { name := "canEncode", desc := "(C)Z", sig := { parameters := [.char], returnType := some .boolean }, accessFlags := 9, code := some k9c1 }
def k9c2 : Code := { maxStack := 4, maxLocals := 1, code := jdk_43_method_46_code, exceptionTable := #[], attributes := #[] }
def k9m2 : Method := { name := "toBytes", desc := "(C)[B", sig := { parameters := [.char], returnType := some (.array .byte) }, accessFlags := 9, code := some k9c2 }
/-- java/lang/StringLatin1 -/
def k9 : Class := { plain "java/lang/StringLatin1" (some 0) with
  accessFlags := 48
  interfaces := #[]
  cf := some (fileOf pool9 14 #[.nestMembers #[390, 221]] #[{ accessFlags := 0, nameIndex := 7, descriptorIndex := 8, attributes := #[] }, { accessFlags := 9, nameIndex := 90, descriptorIndex := 105, attributes := #[] }, { accessFlags := 9, nameIndex := 380, descriptorIndex := 382, attributes := #[] }] 48 4 #[] #[{ accessFlags := 4120, nameIndex := 121, descriptorIndex := 122, attributes := #[] }])
  fields := #[{ name := "$assertionsDisabled", type := .boolean, accessFlags := 4120, slot := 0, constantValue := 0 }]
  methods := #[k9m0, k9m1, k9m2]
  instanceTypes := #[]
  staticTypes := #[.boolean]
  resolved := Array.replicate 395 none
  statics := none }

def pool10 : Array CpInfo := pool [(8, .class_ 10), (1, u "java/lang/Iterable"), (24, .class_ 36), (0, u "java/lang/Object")] 25

/-- java/lang/Iterable -/
def k10 : Class := { plain "java/lang/Iterable" (some 0) with
  accessFlags := 1537
  interfaces := #[]
  cf := some (fileOf pool10 8 #[] #[] 1537 35 #[] #[])
  fields := #[]
  methods := #[]
  instanceTypes := #[]
  staticTypes := #[]
  resolved := Array.replicate 62 none
  statics := none }

def pool11 : Array CpInfo := pool [(10, .class_ 12), (1, u "java/util/Collection"), (0, u "toArray"), (16, u "()Z"), (29, .class_ 61), (0, u "java/lang/Object"), (0, .class_ 63), (0, u "java/lang/Iterable"), (2, u "isEmpty"), (3, u "()[Ljava/lang/Object;")] 44

def k11m0 : Method := { name := "isEmpty", desc := "()Z", sig := { parameters := [], returnType := some .boolean }, accessFlags := 1025, code := none }
def k11m1 : Method := { name := "toArray", desc := "()[Ljava/lang/Object;", sig := { parameters := [], returnType := some (.array (.object "java/lang/Object")) }, accessFlags := 1025, code := none }
/-- java/util/Collection -/
def k11 : Class := { plain "java/util/Collection" (some 0) with
  accessFlags := 1537
  interfaces := #[10]
  cf := some (fileOf pool11 10 #[] #[{ accessFlags := 1025, nameIndex := 66, descriptorIndex := 30, attributes := #[] }, { accessFlags := 1025, nameIndex := 13, descriptorIndex := 70, attributes := #[] }] 1537 60 #[62] #[])
  fields := #[]
  methods := #[k11m0, k11m1]
  instanceTypes := #[]
  staticTypes := #[]
  resolved := Array.replicate 115 none
  statics := none }

def pool12 : Array CpInfo := pool [(1, .methodref 2 3), (0, .class_ 4), (0, .nameAndType 5 6), (0, u "java/lang/Object"), (0, u "<init>"), (0, u "()V"), (1, .class_ 10), (1, u "java/util/AbstractCollection"), (66, .class_ 78), (0, u "java/util/Collection")] 81

def k12c0 : Code := { maxStack := 1, maxLocals := 1, code := jdk_22_method_1_code, exceptionTable := #[], attributes := #[] }
def k12m0 : Method := { name := "<init>", desc := "()V", sig := { parameters := [], returnType := none }, accessFlags := 4, code := some k12c0 }
/-- java/util/AbstractCollection -/
def k12 : Class := { plain "java/util/AbstractCollection" (some 0) with
  accessFlags := 1057
  interfaces := #[11]
  cf := some (fileOf pool12 8 #[] #[{ accessFlags := 4, nameIndex := 5, descriptorIndex := 6, attributes := #[] }] 1057 2 #[77] #[])
  fields := #[]
  methods := #[k12m0]
  instanceTypes := #[]
  staticTypes := #[]
  resolved := Array.replicate 160 none
  statics := none }

def pool13 : Array CpInfo := pool [(8, .class_ 10), (1, u "java/util/SequencedCollection"), (15, .class_ 27), (0, u "java/lang/Object"), (0, .class_ 29), (0, u "java/util/Collection")] 27

/-- java/util/SequencedCollection -/
def k13 : Class := { plain "java/util/SequencedCollection" (some 0) with
  accessFlags := 1537
  interfaces := #[11]
  cf := some (fileOf pool13 8 #[] #[] 1537 26 #[28] #[])
  fields := #[]
  methods := #[]
  instanceTypes := #[]
  staticTypes := #[]
  resolved := Array.replicate 57 none
  statics := none }

def pool14 : Array CpInfo := pool [(8, .class_ 10), (1, u "java/util/List"), (7, u "()Z"), (12, u "(Ljava/lang/Object;)V"), (16, u "<init>"), (18, u "isEmpty"), (20, u "of"), (1, .fieldref 91 92), (0, .class_ 93), (0, .nameAndType 94 95), (0, u "java/util/ImmutableCollections"), (0, u "EMPTY_LIST"), (0, u "Ljava/util/ImmutableCollections$ListN;"), (0, .class_ 97), (0, u "java/util/ImmutableCollections$List12"), (0, .methodref 96 99), (0, .nameAndType 48 31), (0, .methodref 96 101), (0, .nameAndType 48 102), (0, u "(Ljava/lang/Object;Ljava/lang/Object;)V"), (0, .class_ 104), (0, u "java/lang/Object"), (3, u "([Ljava/lang/Object;)Ljava/util/List;"), (0, .methodref 91 110), (0, .nameAndType 111 108), (0, u "listFromArray"), (0, .methodref 91 113), (0, .nameAndType 114 115), (0, u "listCopy"), (0, u "(Ljava/util/Collection;)Ljava/util/List;"), (3, u "()Ljava/util/List;"), (0, .class_ 121), (0, u "java/util/SequencedCollection"), (112, u "copyOf")] 16

def k14m0 : Method := { name := "isEmpty", desc := "()Z", sig := { parameters := [], returnType := some .boolean }, accessFlags := 1025, code := none }
def k14c1 : Code := { maxStack := 1, maxLocals := 0, code := jdk_40_method_36_code, exceptionTable := #[], attributes := #[] }
def k14m1 : Method := { name := "of", desc := "()Ljava/util/List;", sig := { parameters := [], returnType := some (.object "java/util/List") }, accessFlags := 9, code := some k14c1 }
def k14c2 : Code := { maxStack := 5, maxLocals := 2, code := jdk_40_method_47_code, exceptionTable := #[], attributes := #[] }
def k14m2 : Method := { name := "of", desc := "([Ljava/lang/Object;)Ljava/util/List;", sig := { parameters := [(.array (.object "java/lang/Object"))], returnType := some (.object "java/util/List") }, accessFlags := 137, code := some k14c2 }
def k14c3 : Code := { maxStack := 1, maxLocals := 1, code := jdk_40_method_48_code, exceptionTable := #[], attributes := #[] }
def k14m3 : Method := { name := "copyOf", desc := "(Ljava/util/Collection;)Ljava/util/List;", sig := { parameters := [(.object "java/util/Collection")], returnType := some (.object "java/util/List") }, accessFlags := 9, code := some k14c3 }
/-- java/util/List -/
def k14 : Class := { plain "java/util/List" (some 0) with
  accessFlags := 1537
  interfaces := #[13]
  cf := some (fileOf pool14 8 #[] #[{ accessFlags := 1025, nameIndex := 67, descriptorIndex := 18, attributes := #[] }, { accessFlags := 9, nameIndex := 88, descriptorIndex := 119, attributes := #[] }, { accessFlags := 137, nameIndex := 88, descriptorIndex := 108, attributes := #[] }, { accessFlags := 9, nameIndex := 234, descriptorIndex := 115, attributes := #[] }] 1537 103 #[120] #[])
  fields := #[]
  methods := #[k14m0, k14m1, k14m2, k14m3]
  instanceTypes := #[]
  staticTypes := #[]
  resolved := Array.replicate 251 none
  statics := none }

def pool15 : Array CpInfo := pool [(1, .methodref 2 3), (0, .class_ 4), (0, .nameAndType 5 6), (0, u "java/util/AbstractCollection"), (0, u "<init>"), (0, u "()V"), (0, .fieldref 8 9), (0, .class_ 10), (0, .nameAndType 11 12), (0, u "java/util/AbstractList"), (0, u "modCount"), (0, u "I"), (64, .class_ 78), (0, u "java/util/AbstractList$Itr"), (3, .class_ 83), (0, u "java/util/AbstractList$ListItr"), (9, .class_ 94), (0, u "java/util/AbstractList$RandomAccessSubList"), (3, .class_ 99), (0, u "java/util/AbstractList$SubList"), (33, .class_ 134), (0, u "java/util/List"), (73, .class_ 209), (0, u "java/util/AbstractList$SubList$1"), (0, .class_ 211), (0, u "java/util/AbstractList$RandomAccessSpliterator")] 6

def k15c0 : Code := { maxStack := 2, maxLocals := 1, code := jdk_39_method_1_code, exceptionTable := #[], attributes := #[] }
def k15m0 : Method := { name := "<init>", desc := "()V", sig := { parameters := [], returnType := none }, accessFlags := 4, code := some k15c0 }
/-- java/util/AbstractList -/
def k15 : Class := { plain "java/util/AbstractList" (some 12) with
  accessFlags := 1057
  interfaces := #[14]
  cf := some (fileOf pool15 8 #[.nestMembers #[93, 98, 208, 210, 82, 77]] #[{ accessFlags := 4, nameIndex := 5, descriptorIndex := 6, attributes := #[] }] 1057 2 #[133] #[{ accessFlags := 132, nameIndex := 11, descriptorIndex := 12, attributes := #[] }])
  fields := #[{ name := "modCount", type := .int, accessFlags := 132, slot := 0, constantValue := 0 }]
  methods := #[k15m0]
  instanceTypes := #[.int]
  staticTypes := #[]
  resolved := Array.replicate 218 none
  statics := none }

def pool16 : Array CpInfo := pool [(1, .class_ 2), (0, u "java/util/RandomAccess"), (0, .class_ 4), (0, u "java/lang/Object")] 2

/-- java/util/RandomAccess -/
def k16 : Class := { plain "java/util/RandomAccess" (some 0) with
  accessFlags := 1537
  interfaces := #[]
  cf := some (fileOf pool16 1 #[] #[] 1537 3 #[] #[])
  fields := #[]
  methods := #[]
  instanceTypes := #[]
  staticTypes := #[]
  resolved := Array.replicate 7 none
  statics := none }

def pool17 : Array CpInfo := pool [(1, .class_ 2), (0, u "java/lang/Cloneable"), (0, .class_ 4), (0, u "java/lang/Object")] 2

/-- java/lang/Cloneable -/
def k17 : Class := { plain "java/lang/Cloneable" (some 0) with
  accessFlags := 1537
  interfaces := #[]
  cf := some (fileOf pool17 1 #[] #[] 1537 3 #[] #[])
  fields := #[]
  methods := #[]
  instanceTypes := #[]
  staticTypes := #[]
  resolved := Array.replicate 7 none
  statics := none }

def pool18 : Array CpInfo := pool [(1, .methodref 2 3), (0, .class_ 4), (0, .nameAndType 5 6), (0, u "java/util/AbstractList"), (0, u "<init>"), (0, u "()V"), (0, .class_ 8), (0, u "java/lang/Object"), (0, .fieldref 10 11), (0, .class_ 12), (0, .nameAndType 13 14), (0, u "java/util/ArrayList"), (0, u "elementData"), (0, u "[Ljava/lang/Object;"), (2, u "EMPTY_ELEMENTDATA"), (21, .fieldref 10 40), (0, .nameAndType 41 14), (0, u "DEFAULTCAPACITY_EMPTY_ELEMENTDATA"), (4, u "toArray"), (0, u "()[Ljava/lang/Object;"), (0, .fieldref 10 49), (0, .nameAndType 50 51), (0, u "size"), (0, u "I"), (6, .class_ 60), (1, u "java/util/Arrays"), (0, u "copyOf"), (1, .fieldref 10 64), (0, .nameAndType 65 51), (0, u "modCount"), (0, .methodref 58 67), (0, .nameAndType 61 68), (0, u "([Ljava/lang/Object;I)[Ljava/lang/Object;"), (0, .methodref 10 70), (0, .nameAndType 71 72), (0, u "grow"), (0, u "(I)[Ljava/lang/Object;"), (6, .methodref 80 81), (0, .class_ 82), (0, .nameAndType 83 84), (0, u "java/lang/Math"), (0, u "max"), (0, u "(II)I"), (11, u "(Ljava/lang/Object;)Z"), (32, .methodref 10 130), (0, .nameAndType 71 47), (0, .methodref 10 132), (0, .nameAndType 133 134), (0, u "add"), (0, u "(Ljava/lang/Object;[Ljava/lang/Object;I)V"), (13, .class_ 149), (0, u "java/util/List"), (23, u "()Z"), (88, .class_ 263), (0, u "java/util/ArrayList$ListItr"), (3, .class_ 268), (0, u "java/util/ArrayList$Itr"), (7, .class_ 277), (0, u "java/util/ArrayList$SubList"), (12, .class_ 291), (0, u "java/util/ArrayList$ArrayListSpliterator"), (37, .class_ 330), (0, u "java/util/RandomAccess"), (0, .class_ 332), (0, u "java/lang/Cloneable"), (0, .class_ 334), (0, u "java/io/Serializable"), (0, u "serialVersionUID"), (0, u "J"), (3, u "DEFAULT_CAPACITY"), (22, u "isEmpty"), (136, .class_ 501), (0, u "java/util/ArrayList$SubList$2"), (0, .class_ 503), (0, u "java/util/ArrayList$SubList$1")] 5

def k18c0 : Code := { maxStack := 2, maxLocals := 1, code := jdk_38_method_2_code, exceptionTable := #[], attributes := #[] }
def k18m0 : Method := { name := "<init>", desc := "()V", sig := { parameters := [], returnType := none }, accessFlags := 1, code := some k18c0 }
def k18c1 : Code := { maxStack := 4, maxLocals := 4, code := jdk_38_method_6_code, exceptionTable := #[], attributes := #[] }
def k18m1 : Method := { name := "grow", desc := "(I)[Ljava/lang/Object;", sig := { parameters := [.int], returnType := some (.array (.object "java/lang/Object")) }, accessFlags := 2, code := some k18c1 }
def k18c2 : Code := { maxStack := 3, maxLocals := 1, code := jdk_38_method_7_code, exceptionTable := #[], attributes := #[] }
def k18m2 : Method := { name := "grow", desc := "()[Ljava/lang/Object;", sig := { parameters := [], returnType := some (.array (.object "java/lang/Object")) }, accessFlags := 2, code := some k18c2 }
def k18c3 : Code := { maxStack := 1, maxLocals := 1, code := jdk_38_method_9_code, exceptionTable := #[], attributes := #[] }
def k18m3 : Method := { name := "isEmpty", desc := "()Z", sig := { parameters := [], returnType := some .boolean }, accessFlags := 1, code := some k18c3 }
def k18c4 : Code := { maxStack := 2, maxLocals := 1, code := jdk_38_method_16_code, exceptionTable := #[], attributes := #[] }
def k18m4 : Method := { name := "toArray", desc := "()[Ljava/lang/Object;", sig := { parameters := [], returnType := some (.array (.object "java/lang/Object")) }, accessFlags := 1, code := some k18c4 }
def k18c5 : Code := { maxStack := 3, maxLocals := 4, code := jdk_38_method_24_code, exceptionTable := #[], attributes := #[] }
def k18m5 : Method := { name := "add", desc := "(Ljava/lang/Object;[Ljava/lang/Object;I)V", sig := { parameters := [(.object "java/lang/Object"), (.array (.object "java/lang/Object")), .int], returnType := none }, accessFlags := 2, code := some k18c5 }
def k18c6 : Code := { maxStack := 4, maxLocals := 2, code := jdk_38_method_25_code, exceptionTable := #[], attributes := #[] }
def k18m6 : Method := { name := "add", desc := "(Ljava/lang/Object;)Z", sig := { parameters := [(.object "java/lang/Object")], returnType := some .boolean }, accessFlags := 1, code := some k18c6 }
/-- java/util/ArrayList -/
def k18 : Class := { plain "java/util/ArrayList" (some 15) with
  accessFlags := 33
  interfaces := #[14, 16, 17, 2]
  cf := some (fileOf pool18 10 #[.nestMembers #[290, 276, 500, 502, 262, 267]] #[{ accessFlags := 1, nameIndex := 5, descriptorIndex := 6, attributes := #[] }, { accessFlags := 2, nameIndex := 71, descriptorIndex := 72, attributes := #[] }, { accessFlags := 2, nameIndex := 71, descriptorIndex := 47, attributes := #[] }, { accessFlags := 1, nameIndex := 363, descriptorIndex := 173, attributes := #[] }, { accessFlags := 1, nameIndex := 46, descriptorIndex := 47, attributes := #[] }, { accessFlags := 2, nameIndex := 133, descriptorIndex := 134, attributes := #[] }, { accessFlags := 1, nameIndex := 133, descriptorIndex := 96, attributes := #[] }] 33 2 #[148, 329, 331, 333] #[{ accessFlags := 26, nameIndex := 335, descriptorIndex := 336, attributes := #[] }, { accessFlags := 26, nameIndex := 340, descriptorIndex := 51, attributes := #[] }, { accessFlags := 26, nameIndex := 17, descriptorIndex := 14, attributes := #[] }, { accessFlags := 26, nameIndex := 41, descriptorIndex := 14, attributes := #[] }, { accessFlags := 128, nameIndex := 13, descriptorIndex := 14, attributes := #[] }, { accessFlags := 2, nameIndex := 50, descriptorIndex := 51, attributes := #[] }])
  fields := #[{ name := "serialVersionUID", type := .long, accessFlags := 26, slot := 0, constantValue := 0 }, { name := "DEFAULT_CAPACITY", type := .int, accessFlags := 26, slot := 1, constantValue := 0 }, { name := "EMPTY_ELEMENTDATA", type := (.array (.object "java/lang/Object")), accessFlags := 26, slot := 2, constantValue := 0 }, { name := "DEFAULTCAPACITY_EMPTY_ELEMENTDATA", type := (.array (.object "java/lang/Object")), accessFlags := 26, slot := 3, constantValue := 0 }, { name := "elementData", type := (.array (.object "java/lang/Object")), accessFlags := 128, slot := 1, constantValue := 0 }, { name := "size", type := .int, accessFlags := 2, slot := 2, constantValue := 0 }]
  methods := #[k18m0, k18m1, k18m2, k18m3, k18m4, k18m5, k18m6]
  instanceTypes := #[.int, (.array (.object "java/lang/Object")), .int]
  staticTypes := #[.long, .int, (.array (.object "java/lang/Object")), (.array (.object "java/lang/Object"))]
  resolved := Array.replicate 509 none
  statics := some 1 }

def pool19 : Array CpInfo := pool [(1, .fieldref 2 3), (0, .class_ 4), (0, .nameAndType 5 6), (0, u "java/util/Optional"), (0, u "EMPTY"), (0, u "Ljava/util/Optional;"), (0, .methodref 8 9), (0, .class_ 10), (0, .nameAndType 11 12), (0, u "java/lang/Object"), (0, u "<init>"), (0, u "()V"), (0, .fieldref 2 14), (0, .nameAndType 15 16), (0, u "value"), (0, u "Ljava/lang/Object;"), (0, .methodref 18 19), (0, .class_ 20), (0, .nameAndType 21 22), (0, u "java/util/Objects"), (0, u "requireNonNull"), (0, u "(Ljava/lang/Object;)Ljava/lang/Object;"), (0, .methodref 2 24), (0, .nameAndType 11 25), (0, u "(Ljava/lang/Object;)V"), (29, u "empty"), (0, u "()Ljava/util/Optional;"), (8, u "(Ljava/lang/Object;)Ljava/util/Optional;"), (16, u "of")] 104

def k19c0 : Code := { maxStack := 1, maxLocals := 1, code := jdk_32_method_1_code, exceptionTable := #[], attributes := #[] }
def k19m0 : Method := { name := "empty", desc := "()Ljava/util/Optional;", sig := { parameters := [], returnType := some (.object "java/util/Optional") }, accessFlags := 9, code := some k19c0 }
def k19c1 : Code := { maxStack := 2, maxLocals := 2, code := jdk_32_method_2_code, exceptionTable := #[], attributes := #[] }
def k19m1 : Method := { name := "<init>", desc := "(Ljava/lang/Object;)V", sig := { parameters := [(.object "java/lang/Object")], returnType := none }, accessFlags := 2, code := some k19c1 }
def k19c2 : Code := { maxStack := 3, maxLocals := 1, code := jdk_32_method_3_code, exceptionTable := #[], attributes := #[] }
def k19m2 : Method := { name := "of", desc := "(Ljava/lang/Object;)Ljava/util/Optional;", sig := { parameters := [(.object "java/lang/Object")], returnType := some (.object "java/util/Optional") }, accessFlags := 9, code := some k19c2 }
/-- java/util/Optional -/
def k19 : Class := { plain "java/util/Optional" (some 0) with
  accessFlags := 49
  interfaces := #[]
  cf := some (fileOf pool19 2 #[] #[{ accessFlags := 9, nameIndex := 55, descriptorIndex := 56, attributes := #[] }, { accessFlags := 2, nameIndex := 11, descriptorIndex := 25, attributes := #[] }, { accessFlags := 9, nameIndex := 82, descriptorIndex := 65, attributes := #[] }] 49 8 #[] #[{ accessFlags := 26, nameIndex := 5, descriptorIndex := 6, attributes := #[] }, { accessFlags := 18, nameIndex := 15, descriptorIndex := 16, attributes := #[] }])
  fields := #[{ name := "EMPTY", type := (.object "java/util/Optional"), accessFlags := 26, slot := 0, constantValue := 0 }, { name := "value", type := (.object "java/lang/Object"), accessFlags := 18, slot := 0, constantValue := 0 }]
  methods := #[k19m0, k19m1, k19m2]
  instanceTypes := #[(.object "java/lang/Object")]
  staticTypes := #[(.object "java/util/Optional")]
  resolved := Array.replicate 187 none
  statics := some 2 }

def pool20 : Array CpInfo := pool [(2, .class_ 4), (1, u "java/lang/Object"), (0, u "<init>"), (0, u "()V"), (35, .class_ 44), (1, u "java/util/Objects"), (0, u "requireNonNull"), (0, u "(Ljava/lang/Object;)Ljava/lang/Object;")] 137

def k20m0 : Method := { name := "<init>", desc := "()V", sig := { parameters := [], returnType := none }, accessFlags := 2, code := none }
def k20c1 : Code := { maxStack := 2, maxLocals := 1, code := jdk_31_method_10_code, exceptionTable := #[], attributes := #[] }
def k20m1 : Method := { name := "requireNonNull", desc := "(Ljava/lang/Object;)Ljava/lang/Object;", sig := { parameters := [(.object "java/lang/Object")], returnType := some (.object "java/lang/Object") }, accessFlags := 9, code := some k20c1 }
/-- java/util/Objects -/
def k20 : Class := { plain "java/util/Objects" (some 0) with
  accessFlags := 49
  interfaces := #[]
  cf := some (fileOf pool20 42 #[] #[{ accessFlags := 2, nameIndex := 5, descriptorIndex := 6, attributes := #[] }, { accessFlags := 9, nameIndex := 45, descriptorIndex := 46, attributes := #[] }] 49 2 #[] #[])
  fields := #[]
  methods := #[k20m0, k20m1]
  instanceTypes := #[]
  staticTypes := #[]
  resolved := Array.replicate 184 none
  statics := none }

def pool21 : Array CpInfo := pool [(1, .methodref 2 3), (0, .class_ 4), (0, .nameAndType 5 6), (0, u "java/lang/Object"), (0, u "<init>"), (0, u "()V"), (0, .class_ 8), (0, u "java/lang/Record")] 13

def k21c0 : Code := { maxStack := 1, maxLocals := 1, code := jdk_30_method_1_code, exceptionTable := #[], attributes := #[] }
def k21m0 : Method := { name := "<init>", desc := "()V", sig := { parameters := [], returnType := none }, accessFlags := 4, code := some k21c0 }
/-- java/lang/Record -/
def k21 : Class := { plain "java/lang/Record" (some 0) with
  accessFlags := 1057
  interfaces := #[]
  cf := some (fileOf pool21 7 #[] #[{ accessFlags := 4, nameIndex := 5, descriptorIndex := 6, attributes := #[] }] 1057 2 #[] #[])
  fields := #[]
  methods := #[k21m0]
  instanceTypes := #[]
  staticTypes := #[]
  resolved := Array.replicate 22 none
  statics := none }

def pool22 : Array CpInfo := pool [(1, .methodref 2 3), (0, .class_ 4), (0, .nameAndType 5 6), (0, u "java/lang/Record"), (0, u "<init>"), (0, u "()V"), (0, .interfaceMethodref 8 9), (0, .class_ 10), (0, .nameAndType 11 12), (0, u "java/util/List"), (0, u "copyOf"), (0, u "(Ljava/util/Collection;)Ljava/util/List;"), (0, .fieldref 14 15), (0, .class_ 16), (0, .nameAndType 17 18), (0, u "com/example/brokerwright/brokerwright/kafka/UserLookup"), (0, u "mechanisms"), (0, u "Ljava/util/List;"), (0, .fieldref 14 20), (0, .nameAndType 21 22), (0, u "holdsBindings"), (0, u "Z"), (0, .fieldref 14 24), (0, .nameAndType 25 26), (0, u "refusal"), (0, u "Ljava/util/Optional;"), (0, .interfaceMethodref 8 28), (0, .nameAndType 29 30), (0, u "isEmpty"), (0, u "()Z"), (15, u "(Ljava/util/List;ZLjava/util/Optional;)V"), (4, u "holdsUser")] 30

def k22c0 : Code := { maxStack := 2, maxLocals := 4, code := prog_22_method_1_code, exceptionTable := #[], attributes := #[] }
def k22m0 : Method := { name := "<init>", desc := "(Ljava/util/List;ZLjava/util/Optional;)V", sig := { parameters := [(.object "java/util/List"), .boolean, (.object "java/util/Optional")], returnType := none }, accessFlags := 1, code := some k22c0 }
def k22c1 : Code := { maxStack := 1, maxLocals := 1, code := prog_22_method_2_code, exceptionTable := #[], attributes := #[] }
def k22m1 : Method := { name := "holdsUser", desc := "()Z", sig := { parameters := [], returnType := some .boolean }, accessFlags := 1, code := some k22c1 }
/-- com/example/brokerwright/brokerwright/kafka/UserLookup -/
def k22 : Class := { plain "com/example/brokerwright/brokerwright/kafka/UserLookup" (some 21) with
  accessFlags := 49
  interfaces := #[]
  cf := some (fileOf pool22 14 #[] #[{ accessFlags := 1, nameIndex := 5, descriptorIndex := 46, attributes := #[] }, { accessFlags := 1, nameIndex := 51, descriptorIndex := 30, attributes := #[] }] 49 2 #[] #[{ accessFlags := 18, nameIndex := 17, descriptorIndex := 18, attributes := #[] }, { accessFlags := 18, nameIndex := 21, descriptorIndex := 22, attributes := #[] }, { accessFlags := 18, nameIndex := 25, descriptorIndex := 26, attributes := #[] }])
  fields := #[{ name := "mechanisms", type := (.object "java/util/List"), accessFlags := 18, slot := 0, constantValue := 0 }, { name := "holdsBindings", type := .boolean, accessFlags := 18, slot := 1, constantValue := 0 }, { name := "refusal", type := (.object "java/util/Optional"), accessFlags := 18, slot := 2, constantValue := 0 }]
  methods := #[k22m0, k22m1]
  instanceTypes := #[(.object "java/util/List"), .boolean, (.object "java/util/Optional")]
  staticTypes := #[]
  resolved := Array.replicate 82 none
  statics := none }

def pool23 : Array CpInfo := pool [(2, .class_ 4), (1, u "java/lang/Object"), (0, u "<init>"), (0, u "()V"), (3, .class_ 11), (0, u "java/util/ImmutableCollections$List12"), (0, .class_ 13), (0, u "java/util/ImmutableCollections$ListN"), (3, u "Z"), (0, .class_ 19), (0, u "java/util/List"), (0, .interfaceMethodref 21 22), (0, .class_ 23), (0, .nameAndType 24 25), (0, u "java/util/Collection"), (0, u "isEmpty"), (0, u "()Z"), (0, .interfaceMethodref 18 27), (0, .nameAndType 28 29), (0, u "of"), (0, u "()Ljava/util/List;"), (0, .interfaceMethodref 21 31), (0, .nameAndType 32 33), (0, u "toArray"), (0, u "()[Ljava/lang/Object;"), (0, .interfaceMethodref 18 35), (0, .nameAndType 28 36), (0, u "([Ljava/lang/Object;)Ljava/util/List;"), (0, .methodref 38 39), (0, .class_ 40), (0, .nameAndType 41 42), (0, u "java/util/Objects"), (0, u "requireNonNull"), (0, u "(Ljava/lang/Object;)Ljava/lang/Object;"), (0, .methodref 12 44), (0, .nameAndType 5 45), (0, u "([Ljava/lang/Object;Z)V"), (1, .class_ 49), (1, u "java/util/ImmutableCollections"), (0, u "$assertionsDisabled"), (5, u "[Ljava/lang/Object;"), (5, u "EMPTY_LIST"), (0, u "Ljava/util/ImmutableCollections$ListN;"), (8, u "EMPTY_LIST_NULLS"), (22, u "SALT32L"), (0, u "J"), (2, u "REVERSE"), (6, u "archivedObjects"), (2, u "EMPTY"), (0, u "Ljava/lang/Object;"), (0, .class_ 112), (0, u "java/util/ImmutableCollections$SetN"), (5, u "EMPTY_SET"), (0, u "Ljava/util/ImmutableCollections$SetN;"), (0, .class_ 121), (0, u "java/util/ImmutableCollections$MapN"), (3, u "EMPTY_MAP"), (0, u "Ljava/util/ImmutableCollections$MapN;"), (4, u "EXPAND_FACTOR"), (0, u "I"), (9, u "listCopy"), (0, u "(Ljava/util/Collection;)Ljava/util/List;"), (7, u "listFromArray"), (17, .class_ 170), (0, u "java/util/ImmutableCollections$MapN$MapNIterator"), (0, .class_ 172), (0, u "java/util/ImmutableCollections$MapN$1"), (0, .class_ 174), (0, u "java/util/ImmutableCollections$Map1"), (0, .class_ 176), (0, u "java/util/ImmutableCollections$AbstractImmutableMap"), (0, .class_ 178), (0, u "java/util/ImmutableCollections$SetN$SetNIterator"), (0, .class_ 180), (0, u "java/util/ImmutableCollections$Set12"), (0, .class_ 182), (0, u "java/util/ImmutableCollections$Set12$1"), (0, .class_ 184), (0, u "java/util/ImmutableCollections$AbstractImmutableSet"), (0, .class_ 186), (0, u "java/util/ImmutableCollections$SubList"), (0, .class_ 188), (0, u "java/util/ImmutableCollections$ListItr"), (0, .class_ 190), (0, u "java/util/ImmutableCollections$AbstractImmutableList"), (0, .class_ 192), (0, u "java/util/ImmutableCollections$AbstractImmutableCollection"), (0, .class_ 194), (0, u "java/util/ImmutableCollections$Access"), (0, .class_ 196), (0, u "java/util/ImmutableCollections$Access$1")] 16

def k23m0 : Method := { name := "<init>", desc := "()V", sig := { parameters := [], returnType := none }, accessFlags := 2, code := none }
def k23c1 : Code := { maxStack := 1, maxLocals := 2, code := jdk_56_method_3_code, exceptionTable := #[], attributes := #[] }
def k23m1 : Method := { name := "listCopy", desc := "(Ljava/util/Collection;)Ljava/util/List;", sig := { parameters := [(.object "java/util/Collection")], returnType := some (.object "java/util/List") }, accessFlags := 8, code := some k23c1 }
def k23c2 : Code := { maxStack := 4, maxLocals := 3, code := jdk_56_method_4_code, exceptionTable := #[], attributes := #[] }
def k23m2 : Method := { name := "listFromArray", desc := "([Ljava/lang/Object;)Ljava/util/List;", sig := { parameters := [(.array (.object "java/lang/Object"))], returnType := some (.object "java/util/List") }, accessFlags := 136, code := some k23c2 }
/-- java/util/ImmutableCollections -/
def k23 : Class := { plain "java/util/ImmutableCollections" (some 0) with
  accessFlags := 32
  interfaces := #[]
  cf := some (fileOf pool23 47 #[.nestMembers #[120, 169, 171, 173, 175, 111, 177, 179, 181, 183, 12, 10, 185, 187, 189, 191, 193, 195]] #[{ accessFlags := 2, nameIndex := 5, descriptorIndex := 6, attributes := #[] }, { accessFlags := 8, nameIndex := 142, descriptorIndex := 143, attributes := #[] }, { accessFlags := 136, nameIndex := 151, descriptorIndex := 36, attributes := #[] }] 32 2 #[] #[{ accessFlags := 26, nameIndex := 95, descriptorIndex := 96, attributes := #[] }, { accessFlags := 26, nameIndex := 99, descriptorIndex := 17, attributes := #[] }, { accessFlags := 10, nameIndex := 106, descriptorIndex := 56, attributes := #[] }, { accessFlags := 26, nameIndex := 109, descriptorIndex := 110, attributes := #[] }, { accessFlags := 24, nameIndex := 62, descriptorIndex := 63, attributes := #[] }, { accessFlags := 24, nameIndex := 72, descriptorIndex := 63, attributes := #[] }, { accessFlags := 24, nameIndex := 118, descriptorIndex := 119, attributes := #[] }, { accessFlags := 24, nameIndex := 125, descriptorIndex := 126, attributes := #[] }, { accessFlags := 24, nameIndex := 131, descriptorIndex := 132, attributes := #[] }, { accessFlags := 4120, nameIndex := 50, descriptorIndex := 17, attributes := #[] }])
  fields := #[{ name := "SALT32L", type := .long, accessFlags := 26, slot := 0, constantValue := 0 }, { name := "REVERSE", type := .boolean, accessFlags := 26, slot := 1, constantValue := 0 }, { name := "archivedObjects", type := (.array (.object "java/lang/Object")), accessFlags := 10, slot := 2, constantValue := 0 }, { name := "EMPTY", type := (.object "java/lang/Object"), accessFlags := 26, slot := 3, constantValue := 0 }, { name := "EMPTY_LIST", type := (.object "java/util/ImmutableCollections$ListN"), accessFlags := 24, slot := 4, constantValue := 0 }, { name := "EMPTY_LIST_NULLS", type := (.object "java/util/ImmutableCollections$ListN"), accessFlags := 24, slot := 5, constantValue := 0 }, { name := "EMPTY_SET", type := (.object "java/util/ImmutableCollections$SetN"), accessFlags := 24, slot := 6, constantValue := 0 }, { name := "EMPTY_MAP", type := (.object "java/util/ImmutableCollections$MapN"), accessFlags := 24, slot := 7, constantValue := 0 }, { name := "EXPAND_FACTOR", type := .int, accessFlags := 24, slot := 8, constantValue := 0 }, { name := "$assertionsDisabled", type := .boolean, accessFlags := 4120, slot := 9, constantValue := 0 }]
  methods := #[k23m0, k23m1, k23m2]
  instanceTypes := #[]
  staticTypes := #[.long, .boolean, (.array (.object "java/lang/Object")), (.object "java/lang/Object"), (.object "java/util/ImmutableCollections$ListN"), (.object "java/util/ImmutableCollections$ListN"), (.object "java/util/ImmutableCollections$SetN"), (.object "java/util/ImmutableCollections$MapN"), .int, .boolean]
  resolved := Array.replicate 213 none
  statics := some 3 }

def pool24 : Array CpInfo := pool [(1, .methodref 2 3), (0, .class_ 4), (0, .nameAndType 5 6), (0, u "java/util/AbstractCollection"), (0, u "<init>"), (0, u "()V"), (1, .class_ 10), (1, u "java/util/ImmutableCollections"), (2, .class_ 14), (0, u "java/util/ImmutableCollections$AbstractImmutableCollection")] 41

def k24c0 : Code := { maxStack := 1, maxLocals := 1, code := jdk_47_method_1_code, exceptionTable := #[], attributes := #[] }
def k24m0 : Method := { name := "<init>", desc := "()V", sig := { parameters := [], returnType := none }, accessFlags := 0, code := some k24c0 }
/-- java/util/ImmutableCollections$AbstractImmutableCollection -/
def k24 : Class := { plain "java/util/ImmutableCollections$AbstractImmutableCollection" (some 12) with
  accessFlags := 1056
  interfaces := #[]
  cf := some (fileOf pool24 13 #[.nestHost 8] #[{ accessFlags := 0, nameIndex := 5, descriptorIndex := 6, attributes := #[] }] 1056 2 #[] #[])
  fields := #[]
  methods := #[k24m0]
  instanceTypes := #[]
  staticTypes := #[]
  resolved := Array.replicate 56 none
  statics := none }

def pool25 : Array CpInfo := pool [(1, .methodref 2 3), (0, .class_ 4), (0, .nameAndType 5 6), (0, u "java/util/ImmutableCollections$AbstractImmutableCollection"), (0, u "<init>"), (0, u "()V"), (1, .class_ 10), (1, u "java/util/ImmutableCollections"), (3, .class_ 16), (1, u "java/util/ImmutableCollections$AbstractImmutableList"), (60, .class_ 78), (0, u "java/util/List"), (45, .class_ 125), (0, u "java/util/RandomAccess")] 70

def k25c0 : Code := { maxStack := 1, maxLocals := 1, code := jdk_46_method_1_code, exceptionTable := #[], attributes := #[] }
def k25m0 : Method := { name := "<init>", desc := "()V", sig := { parameters := [], returnType := none }, accessFlags := 0, code := some k25c0 }
/-- java/util/ImmutableCollections$AbstractImmutableList -/
def k25 : Class := { plain "java/util/ImmutableCollections$AbstractImmutableList" (some 24) with
  accessFlags := 1056
  interfaces := #[14, 16]
  cf := some (fileOf pool25 14 #[.nestHost 8] #[{ accessFlags := 0, nameIndex := 5, descriptorIndex := 6, attributes := #[] }] 1056 2 #[77, 124] #[])
  fields := #[]
  methods := #[k25m0]
  instanceTypes := #[]
  staticTypes := #[]
  resolved := Array.replicate 196 none
  statics := none }

def pool26 : Array CpInfo := pool [(1, .methodref 2 3), (0, .class_ 4), (0, .nameAndType 5 6), (0, u "java/util/ImmutableCollections$AbstractImmutableList"), (0, u "<init>"), (0, u "()V"), (0, .methodref 8 9), (0, .class_ 10), (0, .nameAndType 11 12), (0, u "java/util/Objects"), (0, u "requireNonNull"), (0, u "(Ljava/lang/Object;)Ljava/lang/Object;"), (0, .fieldref 14 15), (0, .class_ 16), (0, .nameAndType 17 18), (0, u "java/util/ImmutableCollections$List12"), (0, u "e0"), (0, u "Ljava/lang/Object;"), (0, .fieldref 20 21), (0, .class_ 22), (0, .nameAndType 23 18), (0, u "java/util/ImmutableCollections"), (0, u "EMPTY"), (0, .fieldref 14 25), (0, .nameAndType 26 18), (0, u "e1"), (43, .class_ 71), (0, u "java/io/Serializable"), (4, u "(Ljava/lang/Object;)V"), (8, u "(Ljava/lang/Object;Ljava/lang/Object;)V"), (2, u "isEmpty"), (0, u "()Z")] 35

def k26c0 : Code := { maxStack := 2, maxLocals := 2, code := jdk_44_method_1_code, exceptionTable := #[], attributes := #[] }
def k26m0 : Method := { name := "<init>", desc := "(Ljava/lang/Object;)V", sig := { parameters := [(.object "java/lang/Object")], returnType := none }, accessFlags := 0, code := some k26c0 }
def k26c1 : Code := { maxStack := 2, maxLocals := 3, code := jdk_44_method_2_code, exceptionTable := #[], attributes := #[] }
def k26m1 : Method := { name := "<init>", desc := "(Ljava/lang/Object;Ljava/lang/Object;)V", sig := { parameters := [(.object "java/lang/Object"), (.object "java/lang/Object")], returnType := none }, accessFlags := 0, code := some k26c1 }
def k26c2 : Code := { maxStack := 1, maxLocals := 1, code := jdk_44_method_4_code, exceptionTable := #[], attributes := #[] }
def k26m2 : Method := { name := "isEmpty", desc := "()Z", sig := { parameters := [], returnType := some .boolean }, accessFlags := 1, code := some k26c2 }
/-- java/util/ImmutableCollections$List12 -/
def k26 : Class := { plain "java/util/ImmutableCollections$List12" (some 25) with
  accessFlags := 48
  interfaces := #[2]
  cf := some (fileOf pool26 14 #[.nestHost 20] #[{ accessFlags := 0, nameIndex := 5, descriptorIndex := 76, attributes := #[] }, { accessFlags := 0, nameIndex := 5, descriptorIndex := 85, attributes := #[] }, { accessFlags := 1, nameIndex := 88, descriptorIndex := 89, attributes := #[] }] 48 2 #[70] #[{ accessFlags := 18, nameIndex := 17, descriptorIndex := 18, attributes := #[] }, { accessFlags := 18, nameIndex := 26, descriptorIndex := 18, attributes := #[] }])
  fields := #[{ name := "e0", type := (.object "java/lang/Object"), accessFlags := 18, slot := 0, constantValue := 0 }, { name := "e1", type := (.object "java/lang/Object"), accessFlags := 18, slot := 1, constantValue := 0 }]
  methods := #[k26m0, k26m1, k26m2]
  instanceTypes := #[(.object "java/lang/Object"), (.object "java/lang/Object")]
  staticTypes := #[]
  resolved := Array.replicate 125 none
  statics := none }

def pool27 : Array CpInfo := pool [(1, .methodref 2 3), (0, .class_ 4), (0, .nameAndType 5 6), (0, u "java/util/ImmutableCollections$AbstractImmutableList"), (0, u "<init>"), (0, u "()V"), (0, .fieldref 8 9), (0, .class_ 10), (0, .nameAndType 11 12), (0, u "java/util/ImmutableCollections$ListN"), (0, u "elements"), (0, u "[Ljava/lang/Object;"), (0, .fieldref 8 14), (0, .nameAndType 15 16), (0, u "allowNulls"), (0, u "Z"), (42, .class_ 60), (0, u "java/io/Serializable"), (4, u "([Ljava/lang/Object;Z)V"), (8, u "isEmpty"), (0, u "()Z"), (38, .class_ 115), (0, u "java/util/ImmutableCollections")] 3

def k27c0 : Code := { maxStack := 2, maxLocals := 3, code := jdk_45_method_1_code, exceptionTable := #[], attributes := #[] }
def k27m0 : Method := { name := "<init>", desc := "([Ljava/lang/Object;Z)V", sig := { parameters := [(.array (.object "java/lang/Object")), .boolean], returnType := none }, accessFlags := 2, code := some k27c0 }
def k27c1 : Code := { maxStack := 1, maxLocals := 1, code := jdk_45_method_2_code, exceptionTable := #[], attributes := #[] }
def k27m1 : Method := { name := "isEmpty", desc := "()Z", sig := { parameters := [], returnType := some .boolean }, accessFlags := 1, code := some k27c1 }
/-- java/util/ImmutableCollections$ListN -/
def k27 : Class := { plain "java/util/ImmutableCollections$ListN" (some 25) with
  accessFlags := 48
  interfaces := #[2]
  cf := some (fileOf pool27 8 #[.nestHost 114] #[{ accessFlags := 2, nameIndex := 5, descriptorIndex := 65, attributes := #[] }, { accessFlags := 1, nameIndex := 74, descriptorIndex := 75, attributes := #[] }] 48 2 #[59] #[{ accessFlags := 18, nameIndex := 11, descriptorIndex := 12, attributes := #[] }, { accessFlags := 18, nameIndex := 15, descriptorIndex := 16, attributes := #[] }])
  fields := #[{ name := "elements", type := (.array (.object "java/lang/Object")), accessFlags := 18, slot := 0, constantValue := 0 }, { name := "allowNulls", type := .boolean, accessFlags := 18, slot := 1, constantValue := 0 }]
  methods := #[k27m0, k27m1]
  instanceTypes := #[(.array (.object "java/lang/Object")), .boolean]
  staticTypes := #[]
  resolved := Array.replicate 119 none
  statics := none }

def pool28 : Array CpInfo := pool [(1, .class_ 2), (0, u "java/lang/Math"), (1, .class_ 6), (1, u "java/lang/Object"), (0, u "<init>"), (0, u "()V"), (89, .class_ 100), (1, u "java/lang/Math$RandomNumberGeneratorHolder"), (71, u "negativeZeroFloatBits"), (0, u "J"), (2, u "negativeZeroDoubleBits"), (21, u "max"), (2, u "min"), (43, u "$assertionsDisabled"), (0, u "Z"), (88, u "(II)I"), (2, u "twoToTheDoubleScaleDown"), (0, u "D"), (4, u "twoToTheDoubleScaleUp"), (9, u "E"), (3, u "PI"), (2, u "TAU"), (2, u "DEGREES_TO_RADIANS"), (0, u "RADIANS_TO_DEGREES")] 94

def k28m0 : Method := { name := "<init>", desc := "()V", sig := { parameters := [], returnType := none }, accessFlags := 2, code := none }
def k28c1 : Code := { maxStack := 2, maxLocals := 2, code := jdk_29_method_65_code, exceptionTable := #[], attributes := #[] }
def k28m1 : Method := { name := "max", desc := "(II)I", sig := { parameters := [.int, .int], returnType := some .int }, accessFlags := 9, code := some k28c1 }
def k28c2 : Code := { maxStack := 2, maxLocals := 2, code := jdk_29_method_69_code, exceptionTable := #[], attributes := #[] }
def k28m2 : Method := { name := "min", desc := "(II)I", sig := { parameters := [.int, .int], returnType := some .int }, accessFlags := 9, code := some k28c2 }
/-- java/lang/Math -/
def k28 : Class := { plain "java/lang/Math" (some 0) with
  accessFlags := 49
  interfaces := #[]
  cf := some (fileOf pool28 1 #[.nestMembers #[98]] #[{ accessFlags := 2, nameIndex := 7, descriptorIndex := 8, attributes := #[] }, { accessFlags := 9, nameIndex := 198, descriptorIndex := 335, attributes := #[] }, { accessFlags := 9, nameIndex := 201, descriptorIndex := 335, attributes := #[] }] 49 4 #[] #[{ accessFlags := 25, nameIndex := 354, descriptorIndex := 339, attributes := #[] }, { accessFlags := 25, nameIndex := 358, descriptorIndex := 339, attributes := #[] }, { accessFlags := 25, nameIndex := 361, descriptorIndex := 339, attributes := #[] }, { accessFlags := 26, nameIndex := 364, descriptorIndex := 339, attributes := #[] }, { accessFlags := 26, nameIndex := 365, descriptorIndex := 339, attributes := #[] }, { accessFlags := 26, nameIndex := 172, descriptorIndex := 173, attributes := #[] }, { accessFlags := 26, nameIndex := 176, descriptorIndex := 173, attributes := #[] }, { accessFlags := 8, nameIndex := 344, descriptorIndex := 339, attributes := #[] }, { accessFlags := 8, nameIndex := 338, descriptorIndex := 339, attributes := #[] }, { accessFlags := 4120, nameIndex := 245, descriptorIndex := 246, attributes := #[] }])
  fields := #[{ name := "E", type := .double, accessFlags := 25, slot := 0, constantValue := 0 }, { name := "PI", type := .double, accessFlags := 25, slot := 1, constantValue := 0 }, { name := "TAU", type := .double, accessFlags := 25, slot := 2, constantValue := 0 }, { name := "DEGREES_TO_RADIANS", type := .double, accessFlags := 26, slot := 3, constantValue := 0 }, { name := "RADIANS_TO_DEGREES", type := .double, accessFlags := 26, slot := 4, constantValue := 0 }, { name := "negativeZeroFloatBits", type := .long, accessFlags := 26, slot := 5, constantValue := 0 }, { name := "negativeZeroDoubleBits", type := .long, accessFlags := 26, slot := 6, constantValue := 0 }, { name := "twoToTheDoubleScaleUp", type := .double, accessFlags := 8, slot := 7, constantValue := 0 }, { name := "twoToTheDoubleScaleDown", type := .double, accessFlags := 8, slot := 8, constantValue := 0 }, { name := "$assertionsDisabled", type := .boolean, accessFlags := 4120, slot := 9, constantValue := 0 }]
  methods := #[k28m0, k28m1, k28m2]
  instanceTypes := #[]
  staticTypes := #[.double, .double, .double, .double, .double, .long, .long, .double, .double, .boolean]
  resolved := Array.replicate 460 none
  statics := none }

def pool29 : Array CpInfo := pool [(2, .class_ 4), (1, u "java/lang/Object"), (0, u "<init>"), (0, u "()V"), (7, .class_ 16), (1, u "java/util/Arrays"), (57, .class_ 76), (1, u "java/util/Arrays$NaturalOrder"), (9, .methodref 2 87), (0, .nameAndType 88 89), (0, u "getClass"), (0, u "()Ljava/lang/Class;"), (20, .class_ 111), (0, u "[Ljava/lang/Object;"), (1, .class_ 115), (1, u "java/util/Arrays$LegacyMergeSort"), (1, u "Z"), (32, .methodref 151 152), (0, .class_ 153), (0, .nameAndType 154 155), (0, u "java/lang/System"), (0, u "arraycopy"), (0, u "(Ljava/lang/Object;ILjava/lang/Object;II)V"), (144, .methodref 14 301), (0, .nameAndType 302 303), (0, u "copyOf"), (0, u "([Ljava/lang/Object;ILjava/lang/Class;)[Ljava/lang/Object;"), (0, .methodref 305 306), (0, .class_ 307), (0, .nameAndType 308 309), (0, u "java/lang/Math"), (0, u "min"), (0, u "(II)I"), (65, .class_ 376), (0, u "java/util/Arrays$ArrayList"), (68, u "$assertionsDisabled"), (269, u "MIN_ARRAY_SORT_GRAN"), (0, u "I"), (2, u "INSERTIONSORT_THRESHOLD"), (140, u "([Ljava/lang/Object;I)[Ljava/lang/Object;"), (114, .class_ 976), (0, u "java/util/Arrays$ArrayItr")] 52

def k29m0 : Method := { name := "<init>", desc := "()V", sig := { parameters := [], returnType := none }, accessFlags := 2, code := none }
def k29c1 : Code := { maxStack := 3, maxLocals := 2, code := jdk_65_method_119_code, exceptionTable := #[], attributes := #[] }
def k29m1 : Method := { name := "copyOf", desc := "([Ljava/lang/Object;I)[Ljava/lang/Object;", sig := { parameters := [(.array (.object "java/lang/Object")), .int], returnType := some (.array (.object "java/lang/Object")) }, accessFlags := 9, code := some k29c1 }
def k29c2 : Code := { maxStack := 6, maxLocals := 4, code := jdk_65_method_120_code, exceptionTable := #[], attributes := #[] }
def k29m2 : Method := { name := "copyOf", desc := "([Ljava/lang/Object;ILjava/lang/Class;)[Ljava/lang/Object;", sig := { parameters := [(.array (.object "java/lang/Object")), .int, (.object "java/lang/Class")], returnType := some (.array (.object "java/lang/Object")) }, accessFlags := 9, code := some k29c2 }
/-- java/util/Arrays -/
def k29 : Class := { plain "java/util/Arrays" (some 0) with
  accessFlags := 49
  interfaces := #[]
  cf := some (fileOf pool29 14 #[.nestMembers #[975, 375, 113, 74]] #[{ accessFlags := 2, nameIndex := 5, descriptorIndex := 6, attributes := #[] }, { accessFlags := 9, nameIndex := 302, descriptorIndex := 860, attributes := #[] }, { accessFlags := 9, nameIndex := 302, descriptorIndex := 303, attributes := #[] }] 49 2 #[] #[{ accessFlags := 26, nameIndex := 715, descriptorIndex := 716, attributes := #[] }, { accessFlags := 26, nameIndex := 719, descriptorIndex := 716, attributes := #[] }, { accessFlags := 4120, nameIndex := 445, descriptorIndex := 117, attributes := #[] }])
  fields := #[{ name := "MIN_ARRAY_SORT_GRAN", type := .int, accessFlags := 26, slot := 0, constantValue := 0 }, { name := "INSERTIONSORT_THRESHOLD", type := .int, accessFlags := 26, slot := 1, constantValue := 0 }, { name := "$assertionsDisabled", type := .boolean, accessFlags := 4120, slot := 2, constantValue := 0 }]
  methods := #[k29m0, k29m1, k29m2]
  instanceTypes := #[]
  staticTypes := #[.int, .int, .boolean]
  resolved := Array.replicate 1029 none
  statics := none }

def pool30 : Array CpInfo := pool [(2, .class_ 4), (1, u "java/lang/Object"), (0, u "<init>"), (0, u "()V"), (1, .class_ 10), (1, u "java/lang/System"), (0, u "allowSecurityManager"), (0, u "I"), (16, u "cons"), (0, u "Ljava/io/Console;"), (77, .class_ 110), (1, u "java/lang/System$CallersHolder"), (43, u "initialErrStream"), (0, u "Ljava/io/PrintStream;"), (19, u "security"), (0, u "Ljava/lang/SecurityManager;"), (31, .class_ 209), (0, u "java/lang/System$1"), (7, u "props"), (0, u "Ljava/util/Properties;"), (2, u "lineSeparator"), (0, u "Ljava/lang/String;"), (96, .class_ 321), (1, u "java/lang/System$LoggerFinder"), (5, .class_ 328), (0, u "java/lang/System$Logger"), (67, u "err"), (2, u "out"), (91, u "notSupportedJnuEncoding"), (15, u "in"), (17, u "initialIn"), (0, u "Ljava/io/InputStream;"), (35, u "bootLayer"), (0, u "Ljava/lang/ModuleLayer;"), (99, .class_ 664), (0, u "java/lang/System$2"), (9, u "NEVER"), (2, u "MAYBE"), (49, u "arraycopy"), (0, u "(Ljava/lang/Object;ILjava/lang/Object;II)V"), (72, .class_ 802), (0, u "java/lang/System$Logger$Level")] 31

def k30m0 : Method := { name := "<init>", desc := "()V", sig := { parameters := [], returnType := none }, accessFlags := 2, code := none }
def k30m1 : Method := { name := "arraycopy", desc := "(Ljava/lang/Object;ILjava/lang/Object;II)V", sig := { parameters := [(.object "java/lang/Object"), .int, (.object "java/lang/Object"), .int, .int], returnType := none }, accessFlags := 265, code := none }
/-- java/lang/System -/
def k30 : Class := { plain "java/lang/System" (some 0) with
  accessFlags := 49
  interfaces := #[]
  cf := some (fileOf pool30 8 #[.nestMembers #[319, 327, 801, 108, 663, 208]] #[{ accessFlags := 2, nameIndex := 5, descriptorIndex := 6, attributes := #[] }, { accessFlags := 265, nameIndex := 727, descriptorIndex := 728, attributes := #[] }] 49 2 #[] #[{ accessFlags := 25, nameIndex := 507, descriptorIndex := 526, attributes := #[] }, { accessFlags := 25, nameIndex := 399, descriptorIndex := 155, attributes := #[] }, { accessFlags := 25, nameIndex := 396, descriptorIndex := 155, attributes := #[] }, { accessFlags := 10, nameIndex := 525, descriptorIndex := 526, attributes := #[] }, { accessFlags := 26, nameIndex := 674, descriptorIndex := 12, attributes := #[] }, { accessFlags := 26, nameIndex := 677, descriptorIndex := 12, attributes := #[] }, { accessFlags := 10, nameIndex := 11, descriptorIndex := 12, attributes := #[] }, { accessFlags := 74, nameIndex := 175, descriptorIndex := 176, attributes := #[] }, { accessFlags := 10, nameIndex := 491, descriptorIndex := 222, attributes := #[] }, { accessFlags := 74, nameIndex := 29, descriptorIndex := 30, attributes := #[] }, { accessFlags := 74, nameIndex := 154, descriptorIndex := 155, attributes := #[] }, { accessFlags := 10, nameIndex := 217, descriptorIndex := 218, attributes := #[] }, { accessFlags := 10, nameIndex := 221, descriptorIndex := 222, attributes := #[] }, { accessFlags := 8, nameIndex := 562, descriptorIndex := 563, attributes := #[] }])
  fields := #[{ name := "in", type := (.object "java/io/InputStream"), accessFlags := 25, slot := 0, constantValue := 0 }, { name := "out", type := (.object "java/io/PrintStream"), accessFlags := 25, slot := 1, constantValue := 0 }, { name := "err", type := (.object "java/io/PrintStream"), accessFlags := 25, slot := 2, constantValue := 0 }, { name := "initialIn", type := (.object "java/io/InputStream"), accessFlags := 10, slot := 3, constantValue := 0 }, { name := "NEVER", type := .int, accessFlags := 26, slot := 4, constantValue := 0 }, { name := "MAYBE", type := .int, accessFlags := 26, slot := 5, constantValue := 0 }, { name := "allowSecurityManager", type := .int, accessFlags := 10, slot := 6, constantValue := 0 }, { name := "security", type := (.object "java/lang/SecurityManager"), accessFlags := 74, slot := 7, constantValue := 0 }, { name := "notSupportedJnuEncoding", type := (.object "java/lang/String"), accessFlags := 10, slot := 8, constantValue := 0 }, { name := "cons", type := (.object "java/io/Console"), accessFlags := 74, slot := 9, constantValue := 0 }, { name := "initialErrStream", type := (.object "java/io/PrintStream"), accessFlags := 74, slot := 10, constantValue := 0 }, { name := "props", type := (.object "java/util/Properties"), accessFlags := 10, slot := 11, constantValue := 0 }, { name := "lineSeparator", type := (.object "java/lang/String"), accessFlags := 10, slot := 12, constantValue := 0 }, { name := "bootLayer", type := (.object "java/lang/ModuleLayer"), accessFlags := 8, slot := 13, constantValue := 0 }]
  methods := #[k30m0, k30m1]
  instanceTypes := #[]
  staticTypes := #[(.object "java/io/InputStream"), (.object "java/io/PrintStream"), (.object "java/io/PrintStream"), (.object "java/io/InputStream"), .int, .int, .int, (.object "java/lang/SecurityManager"), (.object "java/lang/String"), (.object "java/io/Console"), (.object "java/io/PrintStream"), (.object "java/util/Properties"), (.object "java/lang/String"), (.object "java/lang/ModuleLayer")]
  resolved := Array.replicate 834 none
  statics := none }

def pool31 : Array CpInfo := pool [(2, .class_ 4), (1, u "java/lang/Object"), (0, u "<init>"), (0, u "()V"), (17, .class_ 26), (1, u "jdk/internal/util/Preconditions"), (28, .class_ 56), (0, u "jdk/internal/util/Preconditions$4"), (57, .class_ 115), (0, u "jdk/internal/util/Preconditions$1"), (7, u "SIOOBE_FORMATTER"), (0, u "Ljava/util/function/BiFunction;"), (0, .class_ 126), (0, u "jdk/internal/util/Preconditions$2"), (3, u "AIOOBE_FORMATTER"), (0, .class_ 132), (0, u "jdk/internal/util/Preconditions$3"), (3, u "IOOBE_FORMATTER")] 57

def k31m0 : Method := { name := "<init>", desc := "()V", sig := { parameters := [], returnType := none }, accessFlags := 1, code := none }
/-- jdk/internal/util/Preconditions -/
def k31 : Class := { plain "jdk/internal/util/Preconditions" (some 0) with
  accessFlags := 33
  interfaces := #[]
  cf := some (fileOf pool31 24 #[.nestMembers #[55, 131, 125, 114]] #[{ accessFlags := 1, nameIndex := 5, descriptorIndex := 6, attributes := #[] }] 33 2 #[] #[{ accessFlags := 25, nameIndex := 123, descriptorIndex := 124, attributes := #[] }, { accessFlags := 25, nameIndex := 130, descriptorIndex := 124, attributes := #[] }, { accessFlags := 25, nameIndex := 136, descriptorIndex := 124, attributes := #[] }])
  fields := #[{ name := "SIOOBE_FORMATTER", type := (.object "java/util/function/BiFunction"), accessFlags := 25, slot := 0, constantValue := 0 }, { name := "AIOOBE_FORMATTER", type := (.object "java/util/function/BiFunction"), accessFlags := 25, slot := 1, constantValue := 0 }, { name := "IOOBE_FORMATTER", type := (.object "java/util/function/BiFunction"), accessFlags := 25, slot := 2, constantValue := 0 }]
  methods := #[k31m0]
  instanceTypes := #[]
  staticTypes := #[(.object "java/util/function/BiFunction"), (.object "java/util/function/BiFunction"), (.object "java/util/function/BiFunction")]
  resolved := Array.replicate 194 none
  statics := some 4 }

def pool32 : Array CpInfo := pool [(9, u "<init>"), (6, .class_ 18), (1, u "java/lang/Object"), (0, u "()V"), (1, .class_ 23), (1, u "jdk/internal/util/ArraysSupport"), (0, u "LOG2_ARRAY_LONG_INDEX_SCALE"), (0, u "I"), (2, u "U"), (0, u "Ljdk/internal/misc/Unsafe;"), (8, u "BIG_ENDIAN"), (0, u "Z"), (8, u "LOG2_BYTE_BIT_SIZE"), (4, u "LOG2_ARRAY_INT_INDEX_SCALE"), (54, u "JLA"), (0, u "Ljdk/internal/access/JavaLangAccess;"), (11, u "LOG2_ARRAY_BOOLEAN_INDEX_SCALE"), (9, u "LOG2_ARRAY_BYTE_INDEX_SCALE"), (5, u "LOG2_ARRAY_CHAR_INDEX_SCALE"), (5, u "LOG2_ARRAY_SHORT_INDEX_SCALE"), (18, u "LOG2_ARRAY_FLOAT_INDEX_SCALE"), (24, u "LOG2_ARRAY_DOUBLE_INDEX_SCALE"), (89, u "T_BOOLEAN"), (2, u "T_CHAR"), (1, u "T_FLOAT"), (1, u "T_DOUBLE"), (1, u "T_BYTE"), (1, u "T_SHORT"), (1, u "T_INT"), (1, u "T_LONG"), (1, u "SOFT_MAX_ARRAY_LENGTH")] 83

def k32m0 : Method := { name := "<init>", desc := "()V", sig := { parameters := [], returnType := none }, accessFlags := 2, code := none }
/-- jdk/internal/util/ArraysSupport -/
def k32 : Class := { plain "jdk/internal/util/ArraysSupport" (some 0) with
  accessFlags := 33
  interfaces := #[]
  cf := some (fileOf pool32 21 #[] #[{ accessFlags := 2, nameIndex := 9, descriptorIndex := 19, attributes := #[] }] 33 16 #[] #[{ accessFlags := 24, nameIndex := 28, descriptorIndex := 29, attributes := #[] }, { accessFlags := 26, nameIndex := 38, descriptorIndex := 39, attributes := #[] }, { accessFlags := 25, nameIndex := 121, descriptorIndex := 25, attributes := #[] }, { accessFlags := 25, nameIndex := 131, descriptorIndex := 25, attributes := #[] }, { accessFlags := 25, nameIndex := 137, descriptorIndex := 25, attributes := #[] }, { accessFlags := 25, nameIndex := 143, descriptorIndex := 25, attributes := #[] }, { accessFlags := 25, nameIndex := 53, descriptorIndex := 25, attributes := #[] }, { accessFlags := 25, nameIndex := 24, descriptorIndex := 25, attributes := #[] }, { accessFlags := 25, nameIndex := 162, descriptorIndex := 25, attributes := #[] }, { accessFlags := 25, nameIndex := 187, descriptorIndex := 25, attributes := #[] }, { accessFlags := 26, nameIndex := 48, descriptorIndex := 25, attributes := #[] }, { accessFlags := 25, nameIndex := 277, descriptorIndex := 25, attributes := #[] }, { accessFlags := 25, nameIndex := 280, descriptorIndex := 25, attributes := #[] }, { accessFlags := 25, nameIndex := 282, descriptorIndex := 25, attributes := #[] }, { accessFlags := 25, nameIndex := 284, descriptorIndex := 25, attributes := #[] }, { accessFlags := 25, nameIndex := 286, descriptorIndex := 25, attributes := #[] }, { accessFlags := 25, nameIndex := 288, descriptorIndex := 25, attributes := #[] }, { accessFlags := 25, nameIndex := 290, descriptorIndex := 25, attributes := #[] }, { accessFlags := 25, nameIndex := 292, descriptorIndex := 25, attributes := #[] }, { accessFlags := 26, nameIndex := 108, descriptorIndex := 109, attributes := #[] }, { accessFlags := 25, nameIndex := 294, descriptorIndex := 25, attributes := #[] }])
  fields := #[{ name := "U", type := (.object "jdk/internal/misc/Unsafe"), accessFlags := 24, slot := 0, constantValue := 0 }, { name := "BIG_ENDIAN", type := .boolean, accessFlags := 26, slot := 1, constantValue := 0 }, { name := "LOG2_ARRAY_BOOLEAN_INDEX_SCALE", type := .int, accessFlags := 25, slot := 2, constantValue := 0 }, { name := "LOG2_ARRAY_BYTE_INDEX_SCALE", type := .int, accessFlags := 25, slot := 3, constantValue := 0 }, { name := "LOG2_ARRAY_CHAR_INDEX_SCALE", type := .int, accessFlags := 25, slot := 4, constantValue := 0 }, { name := "LOG2_ARRAY_SHORT_INDEX_SCALE", type := .int, accessFlags := 25, slot := 5, constantValue := 0 }, { name := "LOG2_ARRAY_INT_INDEX_SCALE", type := .int, accessFlags := 25, slot := 6, constantValue := 0 }, { name := "LOG2_ARRAY_LONG_INDEX_SCALE", type := .int, accessFlags := 25, slot := 7, constantValue := 0 }, { name := "LOG2_ARRAY_FLOAT_INDEX_SCALE", type := .int, accessFlags := 25, slot := 8, constantValue := 0 }, { name := "LOG2_ARRAY_DOUBLE_INDEX_SCALE", type := .int, accessFlags := 25, slot := 9, constantValue := 0 }, { name := "LOG2_BYTE_BIT_SIZE", type := .int, accessFlags := 26, slot := 10, constantValue := 0 }, { name := "T_BOOLEAN", type := .int, accessFlags := 25, slot := 11, constantValue := 0 }, { name := "T_CHAR", type := .int, accessFlags := 25, slot := 12, constantValue := 0 }, { name := "T_FLOAT", type := .int, accessFlags := 25, slot := 13, constantValue := 0 }, { name := "T_DOUBLE", type := .int, accessFlags := 25, slot := 14, constantValue := 0 }, { name := "T_BYTE", type := .int, accessFlags := 25, slot := 15, constantValue := 0 }, { name := "T_SHORT", type := .int, accessFlags := 25, slot := 16, constantValue := 0 }, { name := "T_INT", type := .int, accessFlags := 25, slot := 17, constantValue := 0 }, { name := "T_LONG", type := .int, accessFlags := 25, slot := 18, constantValue := 0 }, { name := "JLA", type := (.object "jdk/internal/access/JavaLangAccess"), accessFlags := 26, slot := 19, constantValue := 0 }, { name := "SOFT_MAX_ARRAY_LENGTH", type := .int, accessFlags := 25, slot := 20, constantValue := 0 }]
  methods := #[k32m0]
  instanceTypes := #[]
  staticTypes := #[(.object "jdk/internal/misc/Unsafe"), .boolean, .int, .int, .int, .int, .int, .int, .int, .int, .int, .int, .int, .int, .int, .int, .int, .int, .int, (.object "jdk/internal/access/JavaLangAccess"), .int]
  resolved := Array.replicate 378 none
  statics := none }

def pool33 : Array CpInfo := pool [(1, u "java/lang/Class"), (0, .class_ 1), (0, u "java/lang/Object"), (0, .class_ 3)] 3

/-- java/lang/Class -/
def k33 : Class := { plain "java/lang/Class" (some 0) with
  accessFlags := 49
  interfaces := #[]
  cf := some (fileOf pool33 2 #[] #[] 49 4 #[] #[])
  fields := #[]
  methods := #[]
  instanceTypes := #[]
  staticTypes := #[]
  resolved := Array.replicate 8 none
  statics := none }

/-- the primitive byte -/
def k34 : Class := { plain "byte" none with kind := .primitive 'B', accessFlags := 0x411 }
/-- [B -/
def k35 : Class := { plain "[B" (some 0) with kind := .array 34 .byte, interfaces := #[17, 2], accessFlags := 1041 }

/-- the primitive char -/
def k36 : Class := { plain "char" none with kind := .primitive 'C', accessFlags := 0x411 }
/-- [C -/
def k37 : Class := { plain "[C" (some 0) with kind := .array 36 .char, interfaces := #[17, 2], accessFlags := 1041 }

/-- the primitive int -/
def k38 : Class := { plain "int" none with kind := .primitive 'I', accessFlags := 0x411 }
/-- [I -/
def k39 : Class := { plain "[I" (some 0) with kind := .array 38 .int, interfaces := #[17, 2], accessFlags := 1041 }

/-- [Ljava/lang/Object; -/
def k40 : Class := { plain "[Ljava/lang/Object;" (some 0) with 
  kind := .array 0 (.object "java/lang/Object")
  interfaces := #[17, 2]
  accessFlags := 1041
  mirror := some 5
  }

def heap : Heap := #[{ cls := 7, slots := #[.long 0, .int 1, .null, .int 0, .null, .int 0, .int 0], vm := .statics 7 },
  { cls := 18, slots := #[.long 0, .int 0, .ref 8, .ref 9], vm := .statics 18 },
  { cls := 19, slots := #[.ref 10], vm := .statics 19 },
  { cls := 23, slots := #[.long 0, .int 0, .null, .ref 11, .ref 7, .null, .null, .null, .int 0, .int 1], vm := .statics 23 },
  { cls := 31, slots := #[.null, .null, .null], vm := .statics 31 },
  { cls := 33, slots := #[], vm := .mirror 40 },
  { cls := 40, slots := #[], vm := .none },
  { cls := 27, slots := #[.ref 6, .int 0], vm := .none },
  { cls := 40, slots := #[], vm := .none },
  { cls := 40, slots := #[], vm := .none },
  { cls := 19, slots := #[.null], vm := .none },
  { cls := 0, slots := #[], vm := .none }]
def classes : Array Class := #[k0, k1, k2, k3, k4, k5, k6, k7, k8, k9, k10, k11, k12, k13, k14, k15, k16, k17, k18, k19, k20, k21, k22, k23, k24, k25, k26, k27, k28, k29, k30, k31, k32, k33, k34, k35, k36, k37, k38, k39, k40]
def interned : List (Array UInt16 × Addr) := []
def slotsUsed : Nat := 28
def theMethod : MethodId := ⟨1, 1⟩
def args0 : Array Value := #[.int 5, .int 9, .int 0, .int 3, .int 1]
def aboutOver (below : List Frame) : State where
  vm := { classes := classes, interned := interned.toArray }
  heap := heap
  slotsUsed := slotsUsed
  threads := #[{ frames := .invoking theMethod args0 :: below }]
def below0 : List Frame := [.native { method := ⟨0, 0⟩, args := #[] }]
def about1 : State := aboutOver below0
def p0 : Program := .bare "" "" ""
def e0 : Env := launch0.env 0 0 0
theorem w_frames : about1.frames = Frame.invoking theMethod args0 :: below0 := rfl
set_option maxRecDepth 65536 in
theorem w_args : argsFit about1.vm theMethod args0 = true := by decide +kernel
set_option maxRecDepth 65536 in
theorem w_heap : heapFits about1 = true := by decide +kernel
set_option maxRecDepth 65536 in
theorem w_runnable : about1.curStatus? = some .runnable := by decide +kernel
set_option maxRecDepth 65536 in
theorem w_alone : about1.alone = true := by decide +kernel
set_option maxRecDepth 65536 in
theorem w_named : about1.methodNamed? x = some theMethod := by decide +kernel
set_option maxRecDepth 65536 in
theorem w_hears : about1.hears theMethod below0 = true := by decide +kernel
set_option maxRecDepth 65536 in
theorem w_ripe : about1.ripe theMethod args0 below0 = true := by decide +kernel
theorem w_running : about1.status = .running := rfl
set_option maxRecDepth 65536 in
theorem w_room : about1.hasRoom e0.platform room_1 = true :=
  launch0.hasRoom_least _ room_1 (by decide +kernel) (by decide +kernel) (by decide +kernel) (by decide +kernel) (by decide +kernel) (by decide +kernel)
theorem allAtoms_all (ts : List Jvm.Cond) (a : Array Jvm.Value) (st : Jvm.State) : (allAtoms ts).before a st = ts.all (fun c => c.before a st) := by
  induction ts with
  | nil => rfl
  | cons c t ih =>
    show (Jvm.Cond.and c (allAtoms t)).before a st = _
    rw [Jvm.Cond.before_and, ih, List.all_cons]
def words1 : List Jvm.Cond := Jvm.Cond.code x code maxLocals ret :: tables_1
/-- a 'code' word, met by the world's own term for the bytes: nothing is compared byte by byte -/
theorem code_word {y : MethodName} {bytes : ByteArray} {mx : Nat} {rt : Option FieldType} {a : Array Value} {s : State} {m : MethodId} {meth : Method} {c : Code} (h1 : s.methodNamed? y = some m) (h2 : s.vm.method? m = some meth) (h3 : meth.code = some c) (h4 : c.code = bytes)
    (h5 : (c.maxLocals == mx && c.exceptionTable.isEmpty && decide (c.maxStack ≤ mostOperands) && decide (meth.sig.returnType = rt) && !meth.locks && decide (parseMethodDescriptor y.desc = some meth.sig)) = true) : (Jvm.Cond.code y bytes mx rt).before a s = true := by
  simp only [Bool.and_eq_true, beq_iff_eq, Bool.not_eq_true', decide_eq_true_eq] at h5
  obtain ⟨⟨⟨⟨⟨g1, g2⟩, g3⟩, g4⟩, g5⟩, g6⟩ := h5
  simp [Cond.before, Cond.holds, Cond.value, h1, h2, h3, h4, g1, g2, g3, g4, g5, g6]
def isCode : Jvm.Cond → Bool
  | .code _ _ _ _ => true
  | _ => false
theorem all_split {L : List Jvm.Cond} {P : Jvm.Cond → Bool} (h1 : L.all (fun c => isCode c || P c) = true) (h2 : ∀ c ∈ L.filter isCode, P c = true) : L.all P = true := by
  refine List.all_eq_true.mpr fun c hc => ?_
  have h := List.all_eq_true.mp h1 c hc
  rcases Bool.eq_false_or_eq_true (isCode c) with hi | hi
  · exact h2 c (List.mem_filter.mpr ⟨hc, hi⟩)
  · simpa [hi] using h
set_option maxRecDepth 65536 in
theorem w_c0 : (Jvm.Cond.code x code maxLocals ret).before args0 about1 = true := code_word (m := ⟨1, 1⟩) (meth := k1m1) (c := k1c1) (by decide +kernel) rfl rfl rfl (by decide +kernel)
set_option maxRecDepth 65536 in
theorem w_c1 : (Jvm.Cond.code ({ cls := "java/lang/String", name := "<init>", desc := "([C)V" } : Jvm.MethodName) jdk_42_method_3_code (2 : Nat) (Option.none : Option Jvm.ClassFile.FieldType)).before args0 about1 = true := code_word (m := ⟨7, 1⟩) (meth := k7m1) (c := k7c1) (by decide +kernel) rfl rfl rfl (by decide +kernel)
set_option maxRecDepth 65536 in
theorem w_c2 : (Jvm.Cond.code ({ cls := "java/lang/String", name := "<init>", desc := "([CIILjava/lang/Void;)V" } : Jvm.MethodName) jdk_42_method_149_code (6 : Nat) (Option.none : Option Jvm.ClassFile.FieldType)).before args0 about1 = true := code_word (m := ⟨7, 3⟩) (meth := k7m3) (c := k7c3) (by decide +kernel) rfl rfl rfl (by decide +kernel)
set_option maxRecDepth 65536 in
theorem w_c3 : (Jvm.Cond.code ({ cls := "java/lang/Object", name := "<init>", desc := "()V" } : Jvm.MethodName) object_method_1_code (1 : Nat) (Option.none : Option Jvm.ClassFile.FieldType)).before args0 about1 = true := code_word (m := ⟨0, 0⟩) (meth := k0m0) (c := k0c0) (by decide +kernel) rfl rfl rfl (by decide +kernel)
set_option maxRecDepth 65536 in
theorem w_c4 : (Jvm.Cond.code ({ cls := "java/lang/StringUTF16", name := "compress", desc := "([CII)[B" } : Jvm.MethodName) jdk_52_method_16_code (6 : Nat) (Option.some (Jvm.ClassFile.FieldType.array Jvm.ClassFile.FieldType.byte))).before args0 about1 = true := code_word (m := ⟨8, 2⟩) (meth := k8m2) (c := k8c2) (by decide +kernel) rfl rfl rfl (by decide +kernel)
set_option maxRecDepth 65536 in
theorem w_c5 : (Jvm.Cond.code ({ cls := "java/lang/StringUTF16", name := "compress", desc := "([CI[BII)I" } : Jvm.MethodName) jdk_52_method_21_code (7 : Nat) (Option.some Jvm.ClassFile.FieldType.int)).before args0 about1 = true := code_word (m := ⟨8, 3⟩) (meth := k8m3) (c := k8c3) (by decide +kernel) rfl rfl rfl (by decide +kernel)
set_option maxRecDepth 65536 in
theorem w_c6 : (Jvm.Cond.code ({ cls := "java/lang/StringUTF16", name := "coderFromArrayLen", desc := "([BI)B" } : Jvm.MethodName) jdk_52_method_15_code (2 : Nat) (Option.some Jvm.ClassFile.FieldType.byte)).before args0 about1 = true := code_word (m := ⟨8, 1⟩) (meth := k8m1) (c := k8c1) (by decide +kernel) rfl rfl rfl (by decide +kernel)
set_option maxRecDepth 65536 in
theorem w_c7 : (Jvm.Cond.code ({ cls := "java/lang/String", name := "valueOf", desc := "(C)Ljava/lang/String;" } : Jvm.MethodName) jdk_42_method_139_code (1 : Nat) (Option.some (Jvm.ClassFile.FieldType.object "java/lang/String"))).before args0 about1 = true := code_word (m := ⟨7, 2⟩) (meth := k7m2) (c := k7c2) (by decide +kernel) rfl rfl rfl (by decide +kernel)
set_option maxRecDepth 65536 in
theorem w_c8 : (Jvm.Cond.code ({ cls := "java/lang/StringLatin1", name := "canEncode", desc := "(C)Z" } : Jvm.MethodName) jdk_43_method_3_code (1 : Nat) (Option.some Jvm.ClassFile.FieldType.boolean)).before args0 about1 = true := code_word (m := ⟨9, 1⟩) (meth := k9m1) (c := k9c1) (by decide +kernel) rfl rfl rfl (by decide +kernel)
set_option maxRecDepth 65536 in
theorem w_c9 : (Jvm.Cond.code ({ cls := "java/lang/StringLatin1", name := "toBytes", desc := "(C)[B" } : Jvm.MethodName) jdk_43_method_46_code (1 : Nat) (Option.some (Jvm.ClassFile.FieldType.array Jvm.ClassFile.FieldType.byte))).before args0 about1 = true := code_word (m := ⟨9, 2⟩) (meth := k9m2) (c := k9c2) (by decide +kernel) rfl rfl rfl (by decide +kernel)
set_option maxRecDepth 65536 in
theorem w_c10 : (Jvm.Cond.code ({ cls := "java/lang/String", name := "<init>", desc := "([BB)V" } : Jvm.MethodName) jdk_42_method_151_code (3 : Nat) (Option.none : Option Jvm.ClassFile.FieldType)).before args0 about1 = true := code_word (m := ⟨7, 4⟩) (meth := k7m4) (c := k7c4) (by decide +kernel) rfl rfl rfl (by decide +kernel)
set_option maxRecDepth 65536 in
theorem w_c11 : (Jvm.Cond.code ({ cls := "java/util/ArrayList", name := "<init>", desc := "()V" } : Jvm.MethodName) jdk_38_method_2_code (1 : Nat) (Option.none : Option Jvm.ClassFile.FieldType)).before args0 about1 = true := code_word (m := ⟨18, 0⟩) (meth := k18m0) (c := k18c0) (by decide +kernel) rfl rfl rfl (by decide +kernel)
set_option maxRecDepth 65536 in
theorem w_c12 : (Jvm.Cond.code ({ cls := "java/util/AbstractList", name := "<init>", desc := "()V" } : Jvm.MethodName) jdk_39_method_1_code (1 : Nat) (Option.none : Option Jvm.ClassFile.FieldType)).before args0 about1 = true := code_word (m := ⟨15, 0⟩) (meth := k15m0) (c := k15c0) (by decide +kernel) rfl rfl rfl (by decide +kernel)
set_option maxRecDepth 65536 in
theorem w_c13 : (Jvm.Cond.code ({ cls := "java/util/AbstractCollection", name := "<init>", desc := "()V" } : Jvm.MethodName) jdk_22_method_1_code (1 : Nat) (Option.none : Option Jvm.ClassFile.FieldType)).before args0 about1 = true := code_word (m := ⟨12, 0⟩) (meth := k12m0) (c := k12c0) (by decide +kernel) rfl rfl rfl (by decide +kernel)
set_option maxRecDepth 65536 in
theorem w_c14 : (Jvm.Cond.code ({ cls := "java/util/Optional", name := "of", desc := "(Ljava/lang/Object;)Ljava/util/Optional;" } : Jvm.MethodName) jdk_32_method_3_code (1 : Nat) (Option.some (Jvm.ClassFile.FieldType.object "java/util/Optional"))).before args0 about1 = true := code_word (m := ⟨19, 2⟩) (meth := k19m2) (c := k19c2) (by decide +kernel) rfl rfl rfl (by decide +kernel)
set_option maxRecDepth 65536 in
theorem w_c15 : (Jvm.Cond.code ({ cls := "java/util/Objects", name := "requireNonNull", desc := "(Ljava/lang/Object;)Ljava/lang/Object;" } : Jvm.MethodName) jdk_31_method_10_code (1 : Nat) (Option.some (Jvm.ClassFile.FieldType.object "java/lang/Object"))).before args0 about1 = true := code_word (m := ⟨20, 1⟩) (meth := k20m1) (c := k20c1) (by decide +kernel) rfl rfl rfl (by decide +kernel)
set_option maxRecDepth 65536 in
theorem w_c16 : (Jvm.Cond.code ({ cls := "java/util/Optional", name := "<init>", desc := "(Ljava/lang/Object;)V" } : Jvm.MethodName) jdk_32_method_2_code (2 : Nat) (Option.none : Option Jvm.ClassFile.FieldType)).before args0 about1 = true := code_word (m := ⟨19, 1⟩) (meth := k19m1) (c := k19c1) (by decide +kernel) rfl rfl rfl (by decide +kernel)
set_option maxRecDepth 65536 in
theorem w_c17 : (Jvm.Cond.code ({ cls := "com/example/brokerwright/brokerwright/kafka/UserLookup", name := "<init>", desc := "(Ljava/util/List;ZLjava/util/Optional;)V" } : Jvm.MethodName) prog_22_method_1_code (4 : Nat) (Option.none : Option Jvm.ClassFile.FieldType)).before args0 about1 = true := code_word (m := ⟨22, 0⟩) (meth := k22m0) (c := k22c0) (by decide +kernel) rfl rfl rfl (by decide +kernel)
set_option maxRecDepth 65536 in
theorem w_c18 : (Jvm.Cond.code ({ cls := "java/lang/Record", name := "<init>", desc := "()V" } : Jvm.MethodName) jdk_30_method_1_code (1 : Nat) (Option.none : Option Jvm.ClassFile.FieldType)).before args0 about1 = true := code_word (m := ⟨21, 0⟩) (meth := k21m0) (c := k21c0) (by decide +kernel) rfl rfl rfl (by decide +kernel)
set_option maxRecDepth 65536 in
theorem w_c19 : (Jvm.Cond.code ({ cls := "java/util/List", name := "copyOf", desc := "(Ljava/util/Collection;)Ljava/util/List;" } : Jvm.MethodName) jdk_40_method_48_code (1 : Nat) (Option.some (Jvm.ClassFile.FieldType.object "java/util/List"))).before args0 about1 = true := code_word (m := ⟨14, 3⟩) (meth := k14m3) (c := k14c3) (by decide +kernel) rfl rfl rfl (by decide +kernel)
set_option maxRecDepth 65536 in
theorem w_c20 : (Jvm.Cond.code ({ cls := "java/util/ImmutableCollections", name := "listCopy", desc := "(Ljava/util/Collection;)Ljava/util/List;" } : Jvm.MethodName) jdk_56_method_3_code (2 : Nat) (Option.some (Jvm.ClassFile.FieldType.object "java/util/List"))).before args0 about1 = true := code_word (m := ⟨23, 1⟩) (meth := k23m1) (c := k23c1) (by decide +kernel) rfl rfl rfl (by decide +kernel)
set_option maxRecDepth 65536 in
theorem w_c21 : (Jvm.Cond.code ({ cls := "java/util/ArrayList", name := "isEmpty", desc := "()Z" } : Jvm.MethodName) jdk_38_method_9_code (1 : Nat) (Option.some Jvm.ClassFile.FieldType.boolean)).before args0 about1 = true := code_word (m := ⟨18, 3⟩) (meth := k18m3) (c := k18c3) (by decide +kernel) rfl rfl rfl (by decide +kernel)
set_option maxRecDepth 65536 in
theorem w_c22 : (Jvm.Cond.code ({ cls := "java/util/List", name := "of", desc := "()Ljava/util/List;" } : Jvm.MethodName) jdk_40_method_36_code (0 : Nat) (Option.some (Jvm.ClassFile.FieldType.object "java/util/List"))).before args0 about1 = true := code_word (m := ⟨14, 1⟩) (meth := k14m1) (c := k14c1) (by decide +kernel) rfl rfl rfl (by decide +kernel)
set_option maxRecDepth 65536 in
theorem w_c23 : (Jvm.Cond.code ({ cls := "com/example/brokerwright/brokerwright/kafka/UserLookup", name := "holdsUser", desc := "()Z" } : Jvm.MethodName) prog_22_method_2_code (1 : Nat) (Option.some Jvm.ClassFile.FieldType.boolean)).before args0 about1 = true := code_word (m := ⟨22, 1⟩) (meth := k22m1) (c := k22c1) (by decide +kernel) rfl rfl rfl (by decide +kernel)
set_option maxRecDepth 65536 in
theorem w_c24 : (Jvm.Cond.code ({ cls := "java/util/ImmutableCollections$ListN", name := "isEmpty", desc := "()Z" } : Jvm.MethodName) jdk_45_method_2_code (1 : Nat) (Option.some Jvm.ClassFile.FieldType.boolean)).before args0 about1 = true := code_word (m := ⟨27, 1⟩) (meth := k27m1) (c := k27c1) (by decide +kernel) rfl rfl rfl (by decide +kernel)
set_option maxRecDepth 65536 in
theorem w_c25 : (Jvm.Cond.code ({ cls := "java/util/ArrayList", name := "add", desc := "(Ljava/lang/Object;)Z" } : Jvm.MethodName) jdk_38_method_25_code (2 : Nat) (Option.some Jvm.ClassFile.FieldType.boolean)).before args0 about1 = true := code_word (m := ⟨18, 6⟩) (meth := k18m6) (c := k18c6) (by decide +kernel) rfl rfl rfl (by decide +kernel)
set_option maxRecDepth 65536 in
theorem w_c26 : (Jvm.Cond.code ({ cls := "java/util/ArrayList", name := "add", desc := "(Ljava/lang/Object;[Ljava/lang/Object;I)V" } : Jvm.MethodName) jdk_38_method_24_code (4 : Nat) (Option.none : Option Jvm.ClassFile.FieldType)).before args0 about1 = true := code_word (m := ⟨18, 5⟩) (meth := k18m5) (c := k18c5) (by decide +kernel) rfl rfl rfl (by decide +kernel)
set_option maxRecDepth 65536 in
theorem w_c27 : (Jvm.Cond.code ({ cls := "java/util/ArrayList", name := "grow", desc := "()[Ljava/lang/Object;" } : Jvm.MethodName) jdk_38_method_7_code (1 : Nat) (Option.some (Jvm.ClassFile.FieldType.array (Jvm.ClassFile.FieldType.object "java/lang/Object")))).before args0 about1 = true := code_word (m := ⟨18, 2⟩) (meth := k18m2) (c := k18c2) (by decide +kernel) rfl rfl rfl (by decide +kernel)
set_option maxRecDepth 65536 in
theorem w_c28 : (Jvm.Cond.code ({ cls := "java/util/ArrayList", name := "grow", desc := "(I)[Ljava/lang/Object;" } : Jvm.MethodName) jdk_38_method_6_code (4 : Nat) (Option.some (Jvm.ClassFile.FieldType.array (Jvm.ClassFile.FieldType.object "java/lang/Object")))).before args0 about1 = true := code_word (m := ⟨18, 1⟩) (meth := k18m1) (c := k18c1) (by decide +kernel) rfl rfl rfl (by decide +kernel)
set_option maxRecDepth 65536 in
theorem w_c29 : (Jvm.Cond.code ({ cls := "java/lang/Math", name := "max", desc := "(II)I" } : Jvm.MethodName) jdk_29_method_65_code (2 : Nat) (Option.some Jvm.ClassFile.FieldType.int)).before args0 about1 = true := code_word (m := ⟨28, 1⟩) (meth := k28m1) (c := k28c1) (by decide +kernel) rfl rfl rfl (by decide +kernel)
set_option maxRecDepth 65536 in
theorem w_c30 : (Jvm.Cond.code ({ cls := "java/util/Optional", name := "empty", desc := "()Ljava/util/Optional;" } : Jvm.MethodName) jdk_32_method_1_code (1 : Nat) (Option.some (Jvm.ClassFile.FieldType.object "java/util/Optional"))).before args0 about1 = true := code_word (m := ⟨19, 0⟩) (meth := k19m0) (c := k19c0) (by decide +kernel) rfl rfl rfl (by decide +kernel)
set_option maxRecDepth 65536 in
theorem w_c31 : (Jvm.Cond.code ({ cls := "java/util/ArrayList", name := "toArray", desc := "()[Ljava/lang/Object;" } : Jvm.MethodName) jdk_38_method_16_code (1 : Nat) (Option.some (Jvm.ClassFile.FieldType.array (Jvm.ClassFile.FieldType.object "java/lang/Object")))).before args0 about1 = true := code_word (m := ⟨18, 4⟩) (meth := k18m4) (c := k18c4) (by decide +kernel) rfl rfl rfl (by decide +kernel)
set_option maxRecDepth 65536 in
theorem w_c32 : (Jvm.Cond.code ({ cls := "java/util/Arrays", name := "copyOf", desc := "([Ljava/lang/Object;I)[Ljava/lang/Object;" } : Jvm.MethodName) jdk_65_method_119_code (2 : Nat) (Option.some (Jvm.ClassFile.FieldType.array (Jvm.ClassFile.FieldType.object "java/lang/Object")))).before args0 about1 = true := code_word (m := ⟨29, 1⟩) (meth := k29m1) (c := k29c1) (by decide +kernel) rfl rfl rfl (by decide +kernel)
set_option maxRecDepth 65536 in
theorem w_c33 : (Jvm.Cond.code ({ cls := "java/util/Arrays", name := "copyOf", desc := "([Ljava/lang/Object;ILjava/lang/Class;)[Ljava/lang/Object;" } : Jvm.MethodName) jdk_65_method_120_code (4 : Nat) (Option.some (Jvm.ClassFile.FieldType.array (Jvm.ClassFile.FieldType.object "java/lang/Object")))).before args0 about1 = true := code_word (m := ⟨29, 2⟩) (meth := k29m2) (c := k29c2) (by decide +kernel) rfl rfl rfl (by decide +kernel)
set_option maxRecDepth 65536 in
theorem w_c34 : (Jvm.Cond.code ({ cls := "java/lang/Math", name := "min", desc := "(II)I" } : Jvm.MethodName) jdk_29_method_69_code (2 : Nat) (Option.some Jvm.ClassFile.FieldType.int)).before args0 about1 = true := code_word (m := ⟨28, 2⟩) (meth := k28m2) (c := k28c2) (by decide +kernel) rfl rfl rfl (by decide +kernel)
set_option maxRecDepth 65536 in
theorem w_c35 : (Jvm.Cond.code ({ cls := "java/util/List", name := "of", desc := "([Ljava/lang/Object;)Ljava/util/List;" } : Jvm.MethodName) jdk_40_method_47_code (2 : Nat) (Option.some (Jvm.ClassFile.FieldType.object "java/util/List"))).before args0 about1 = true := code_word (m := ⟨14, 2⟩) (meth := k14m2) (c := k14c2) (by decide +kernel) rfl rfl rfl (by decide +kernel)
set_option maxRecDepth 65536 in
theorem w_c36 : (Jvm.Cond.code ({ cls := "java/util/ImmutableCollections", name := "listFromArray", desc := "([Ljava/lang/Object;)Ljava/util/List;" } : Jvm.MethodName) jdk_56_method_4_code (3 : Nat) (Option.some (Jvm.ClassFile.FieldType.object "java/util/List"))).before args0 about1 = true := code_word (m := ⟨23, 2⟩) (meth := k23m2) (c := k23c2) (by decide +kernel) rfl rfl rfl (by decide +kernel)
set_option maxRecDepth 65536 in
theorem w_c37 : (Jvm.Cond.code ({ cls := "java/util/ImmutableCollections$ListN", name := "<init>", desc := "([Ljava/lang/Object;Z)V" } : Jvm.MethodName) jdk_45_method_1_code (3 : Nat) (Option.none : Option Jvm.ClassFile.FieldType)).before args0 about1 = true := code_word (m := ⟨27, 0⟩) (meth := k27m0) (c := k27c0) (by decide +kernel) rfl rfl rfl (by decide +kernel)
set_option maxRecDepth 65536 in
theorem w_c38 : (Jvm.Cond.code ({ cls := "java/util/ImmutableCollections$AbstractImmutableList", name := "<init>", desc := "()V" } : Jvm.MethodName) jdk_46_method_1_code (1 : Nat) (Option.none : Option Jvm.ClassFile.FieldType)).before args0 about1 = true := code_word (m := ⟨25, 0⟩) (meth := k25m0) (c := k25c0) (by decide +kernel) rfl rfl rfl (by decide +kernel)
set_option maxRecDepth 65536 in
theorem w_c39 : (Jvm.Cond.code ({ cls := "java/util/ImmutableCollections$AbstractImmutableCollection", name := "<init>", desc := "()V" } : Jvm.MethodName) jdk_47_method_1_code (1 : Nat) (Option.none : Option Jvm.ClassFile.FieldType)).before args0 about1 = true := code_word (m := ⟨24, 0⟩) (meth := k24m0) (c := k24c0) (by decide +kernel) rfl rfl rfl (by decide +kernel)
set_option maxRecDepth 65536 in
theorem w_c40 : (Jvm.Cond.code ({ cls := "java/util/ImmutableCollections$List12", name := "<init>", desc := "(Ljava/lang/Object;Ljava/lang/Object;)V" } : Jvm.MethodName) jdk_44_method_2_code (3 : Nat) (Option.none : Option Jvm.ClassFile.FieldType)).before args0 about1 = true := code_word (m := ⟨26, 1⟩) (meth := k26m1) (c := k26c1) (by decide +kernel) rfl rfl rfl (by decide +kernel)
set_option maxRecDepth 65536 in
theorem w_c41 : (Jvm.Cond.code ({ cls := "java/util/ImmutableCollections$List12", name := "isEmpty", desc := "()Z" } : Jvm.MethodName) jdk_44_method_4_code (1 : Nat) (Option.some Jvm.ClassFile.FieldType.boolean)).before args0 about1 = true := code_word (m := ⟨26, 2⟩) (meth := k26m2) (c := k26c2) (by decide +kernel) rfl rfl rfl (by decide +kernel)
set_option maxRecDepth 65536 in
theorem w_c42 : (Jvm.Cond.code ({ cls := "java/util/ImmutableCollections$List12", name := "<init>", desc := "(Ljava/lang/Object;)V" } : Jvm.MethodName) jdk_44_method_1_code (2 : Nat) (Option.none : Option Jvm.ClassFile.FieldType)).before args0 about1 = true := code_word (m := ⟨26, 0⟩) (meth := k26m0) (c := k26c0) (by decide +kernel) rfl rfl rfl (by decide +kernel)
def codes1 : List Jvm.Cond := [Jvm.Cond.code x code maxLocals ret, Jvm.Cond.code ({ cls := "java/lang/String", name := "<init>", desc := "([C)V" } : Jvm.MethodName) jdk_42_method_3_code (2 : Nat) (Option.none : Option Jvm.ClassFile.FieldType), Jvm.Cond.code ({ cls := "java/lang/String", name := "<init>", desc := "([CIILjava/lang/Void;)V" } : Jvm.MethodName) jdk_42_method_149_code (6 : Nat) (Option.none : Option Jvm.ClassFile.FieldType), Jvm.Cond.code ({ cls := "java/lang/Object", name := "<init>", desc := "()V" } : Jvm.MethodName) object_method_1_code (1 : Nat) (Option.none : Option Jvm.ClassFile.FieldType), Jvm.Cond.code ({ cls := "java/lang/StringUTF16", name := "compress", desc := "([CII)[B" } : Jvm.MethodName) jdk_52_method_16_code (6 : Nat) (Option.some (Jvm.ClassFile.FieldType.array Jvm.ClassFile.FieldType.byte)), Jvm.Cond.code ({ cls := "java/lang/StringUTF16", name := "compress", desc := "([CI[BII)I" } : Jvm.MethodName) jdk_52_method_21_code (7 : Nat) (Option.some Jvm.ClassFile.FieldType.int), Jvm.Cond.code ({ cls := "java/lang/StringUTF16", name := "coderFromArrayLen", desc := "([BI)B" } : Jvm.MethodName) jdk_52_method_15_code (2 : Nat) (Option.some Jvm.ClassFile.FieldType.byte), Jvm.Cond.code ({ cls := "java/lang/String", name := "valueOf", desc := "(C)Ljava/lang/String;" } : Jvm.MethodName) jdk_42_method_139_code (1 : Nat) (Option.some (Jvm.ClassFile.FieldType.object "java/lang/String")), Jvm.Cond.code ({ cls := "java/lang/StringLatin1", name := "canEncode", desc := "(C)Z" } : Jvm.MethodName) jdk_43_method_3_code (1 : Nat) (Option.some Jvm.ClassFile.FieldType.boolean), Jvm.Cond.code ({ cls := "java/lang/StringLatin1", name := "toBytes", desc := "(C)[B" } : Jvm.MethodName) jdk_43_method_46_code (1 : Nat) (Option.some (Jvm.ClassFile.FieldType.array Jvm.ClassFile.FieldType.byte)), Jvm.Cond.code ({ cls := "java/lang/String", name := "<init>", desc := "([BB)V" } : Jvm.MethodName) jdk_42_method_151_code (3 : Nat) (Option.none : Option Jvm.ClassFile.FieldType), Jvm.Cond.code ({ cls := "java/util/ArrayList", name := "<init>", desc := "()V" } : Jvm.MethodName) jdk_38_method_2_code (1 : Nat) (Option.none : Option Jvm.ClassFile.FieldType), Jvm.Cond.code ({ cls := "java/util/AbstractList", name := "<init>", desc := "()V" } : Jvm.MethodName) jdk_39_method_1_code (1 : Nat) (Option.none : Option Jvm.ClassFile.FieldType), Jvm.Cond.code ({ cls := "java/util/AbstractCollection", name := "<init>", desc := "()V" } : Jvm.MethodName) jdk_22_method_1_code (1 : Nat) (Option.none : Option Jvm.ClassFile.FieldType), Jvm.Cond.code ({ cls := "java/util/Optional", name := "of", desc := "(Ljava/lang/Object;)Ljava/util/Optional;" } : Jvm.MethodName) jdk_32_method_3_code (1 : Nat) (Option.some (Jvm.ClassFile.FieldType.object "java/util/Optional")), Jvm.Cond.code ({ cls := "java/util/Objects", name := "requireNonNull", desc := "(Ljava/lang/Object;)Ljava/lang/Object;" } : Jvm.MethodName) jdk_31_method_10_code (1 : Nat) (Option.some (Jvm.ClassFile.FieldType.object "java/lang/Object")), Jvm.Cond.code ({ cls := "java/util/Optional", name := "<init>", desc := "(Ljava/lang/Object;)V" } : Jvm.MethodName) jdk_32_method_2_code (2 : Nat) (Option.none : Option Jvm.ClassFile.FieldType), Jvm.Cond.code ({ cls := "com/example/brokerwright/brokerwright/kafka/UserLookup", name := "<init>", desc := "(Ljava/util/List;ZLjava/util/Optional;)V" } : Jvm.MethodName) prog_22_method_1_code (4 : Nat) (Option.none : Option Jvm.ClassFile.FieldType), Jvm.Cond.code ({ cls := "java/lang/Record", name := "<init>", desc := "()V" } : Jvm.MethodName) jdk_30_method_1_code (1 : Nat) (Option.none : Option Jvm.ClassFile.FieldType), Jvm.Cond.code ({ cls := "java/util/List", name := "copyOf", desc := "(Ljava/util/Collection;)Ljava/util/List;" } : Jvm.MethodName) jdk_40_method_48_code (1 : Nat) (Option.some (Jvm.ClassFile.FieldType.object "java/util/List")), Jvm.Cond.code ({ cls := "java/util/ImmutableCollections", name := "listCopy", desc := "(Ljava/util/Collection;)Ljava/util/List;" } : Jvm.MethodName) jdk_56_method_3_code (2 : Nat) (Option.some (Jvm.ClassFile.FieldType.object "java/util/List")), Jvm.Cond.code ({ cls := "java/util/ArrayList", name := "isEmpty", desc := "()Z" } : Jvm.MethodName) jdk_38_method_9_code (1 : Nat) (Option.some Jvm.ClassFile.FieldType.boolean), Jvm.Cond.code ({ cls := "java/util/List", name := "of", desc := "()Ljava/util/List;" } : Jvm.MethodName) jdk_40_method_36_code (0 : Nat) (Option.some (Jvm.ClassFile.FieldType.object "java/util/List")), Jvm.Cond.code ({ cls := "com/example/brokerwright/brokerwright/kafka/UserLookup", name := "holdsUser", desc := "()Z" } : Jvm.MethodName) prog_22_method_2_code (1 : Nat) (Option.some Jvm.ClassFile.FieldType.boolean), Jvm.Cond.code ({ cls := "java/util/ImmutableCollections$ListN", name := "isEmpty", desc := "()Z" } : Jvm.MethodName) jdk_45_method_2_code (1 : Nat) (Option.some Jvm.ClassFile.FieldType.boolean), Jvm.Cond.code ({ cls := "java/util/ArrayList", name := "add", desc := "(Ljava/lang/Object;)Z" } : Jvm.MethodName) jdk_38_method_25_code (2 : Nat) (Option.some Jvm.ClassFile.FieldType.boolean), Jvm.Cond.code ({ cls := "java/util/ArrayList", name := "add", desc := "(Ljava/lang/Object;[Ljava/lang/Object;I)V" } : Jvm.MethodName) jdk_38_method_24_code (4 : Nat) (Option.none : Option Jvm.ClassFile.FieldType), Jvm.Cond.code ({ cls := "java/util/ArrayList", name := "grow", desc := "()[Ljava/lang/Object;" } : Jvm.MethodName) jdk_38_method_7_code (1 : Nat) (Option.some (Jvm.ClassFile.FieldType.array (Jvm.ClassFile.FieldType.object "java/lang/Object"))), Jvm.Cond.code ({ cls := "java/util/ArrayList", name := "grow", desc := "(I)[Ljava/lang/Object;" } : Jvm.MethodName) jdk_38_method_6_code (4 : Nat) (Option.some (Jvm.ClassFile.FieldType.array (Jvm.ClassFile.FieldType.object "java/lang/Object"))), Jvm.Cond.code ({ cls := "java/lang/Math", name := "max", desc := "(II)I" } : Jvm.MethodName) jdk_29_method_65_code (2 : Nat) (Option.some Jvm.ClassFile.FieldType.int), Jvm.Cond.code ({ cls := "java/util/Optional", name := "empty", desc := "()Ljava/util/Optional;" } : Jvm.MethodName) jdk_32_method_1_code (1 : Nat) (Option.some (Jvm.ClassFile.FieldType.object "java/util/Optional")), Jvm.Cond.code ({ cls := "java/util/ArrayList", name := "toArray", desc := "()[Ljava/lang/Object;" } : Jvm.MethodName) jdk_38_method_16_code (1 : Nat) (Option.some (Jvm.ClassFile.FieldType.array (Jvm.ClassFile.FieldType.object "java/lang/Object"))), Jvm.Cond.code ({ cls := "java/util/Arrays", name := "copyOf", desc := "([Ljava/lang/Object;I)[Ljava/lang/Object;" } : Jvm.MethodName) jdk_65_method_119_code (2 : Nat) (Option.some (Jvm.ClassFile.FieldType.array (Jvm.ClassFile.FieldType.object "java/lang/Object"))), Jvm.Cond.code ({ cls := "java/util/Arrays", name := "copyOf", desc := "([Ljava/lang/Object;ILjava/lang/Class;)[Ljava/lang/Object;" } : Jvm.MethodName) jdk_65_method_120_code (4 : Nat) (Option.some (Jvm.ClassFile.FieldType.array (Jvm.ClassFile.FieldType.object "java/lang/Object"))), Jvm.Cond.code ({ cls := "java/lang/Math", name := "min", desc := "(II)I" } : Jvm.MethodName) jdk_29_method_69_code (2 : Nat) (Option.some Jvm.ClassFile.FieldType.int), Jvm.Cond.code ({ cls := "java/util/List", name := "of", desc := "([Ljava/lang/Object;)Ljava/util/List;" } : Jvm.MethodName) jdk_40_method_47_code (2 : Nat) (Option.some (Jvm.ClassFile.FieldType.object "java/util/List")), Jvm.Cond.code ({ cls := "java/util/ImmutableCollections", name := "listFromArray", desc := "([Ljava/lang/Object;)Ljava/util/List;" } : Jvm.MethodName) jdk_56_method_4_code (3 : Nat) (Option.some (Jvm.ClassFile.FieldType.object "java/util/List")), Jvm.Cond.code ({ cls := "java/util/ImmutableCollections$ListN", name := "<init>", desc := "([Ljava/lang/Object;Z)V" } : Jvm.MethodName) jdk_45_method_1_code (3 : Nat) (Option.none : Option Jvm.ClassFile.FieldType), Jvm.Cond.code ({ cls := "java/util/ImmutableCollections$AbstractImmutableList", name := "<init>", desc := "()V" } : Jvm.MethodName) jdk_46_method_1_code (1 : Nat) (Option.none : Option Jvm.ClassFile.FieldType), Jvm.Cond.code ({ cls := "java/util/ImmutableCollections$AbstractImmutableCollection", name := "<init>", desc := "()V" } : Jvm.MethodName) jdk_47_method_1_code (1 : Nat) (Option.none : Option Jvm.ClassFile.FieldType), Jvm.Cond.code ({ cls := "java/util/ImmutableCollections$List12", name := "<init>", desc := "(Ljava/lang/Object;Ljava/lang/Object;)V" } : Jvm.MethodName) jdk_44_method_2_code (3 : Nat) (Option.none : Option Jvm.ClassFile.FieldType), Jvm.Cond.code ({ cls := "java/util/ImmutableCollections$List12", name := "isEmpty", desc := "()Z" } : Jvm.MethodName) jdk_44_method_4_code (1 : Nat) (Option.some Jvm.ClassFile.FieldType.boolean), Jvm.Cond.code ({ cls := "java/util/ImmutableCollections$List12", name := "<init>", desc := "(Ljava/lang/Object;)V" } : Jvm.MethodName) jdk_44_method_1_code (2 : Nat) (Option.none : Option Jvm.ClassFile.FieldType)]
set_option maxRecDepth 65536 in
theorem codes_eq : words1.filter isCode = codes1 := rfl
theorem w_codes : ∀ c ∈ words1.filter isCode, c.before args0 about1 = true := by
  rw [codes_eq]
  intro c hc
  simp only [codes1, List.mem_cons, List.not_mem_nil, or_false] at hc
  rcases hc with rfl | rfl | rfl | rfl | rfl | rfl | rfl | rfl | rfl | rfl | rfl | rfl | rfl | rfl | rfl | rfl | rfl | rfl | rfl | rfl | rfl | rfl | rfl | rfl | rfl | rfl | rfl | rfl | rfl | rfl | rfl | rfl | rfl | rfl | rfl | rfl | rfl | rfl | rfl | rfl | rfl | rfl | rfl
  · exact w_c0
  · exact w_c1
  · exact w_c2
  · exact w_c3
  · exact w_c4
  · exact w_c5
  · exact w_c6
  · exact w_c7
  · exact w_c8
  · exact w_c9
  · exact w_c10
  · exact w_c11
  · exact w_c12
  · exact w_c13
  · exact w_c14
  · exact w_c15
  · exact w_c16
  · exact w_c17
  · exact w_c18
  · exact w_c19
  · exact w_c20
  · exact w_c21
  · exact w_c22
  · exact w_c23
  · exact w_c24
  · exact w_c25
  · exact w_c26
  · exact w_c27
  · exact w_c28
  · exact w_c29
  · exact w_c30
  · exact w_c31
  · exact w_c32
  · exact w_c33
  · exact w_c34
  · exact w_c35
  · exact w_c36
  · exact w_c37
  · exact w_c38
  · exact w_c39
  · exact w_c40
  · exact w_c41
  · exact w_c42
set_option maxRecDepth 65536 in
theorem w_t1 : (words1.take 24).all (fun c => isCode c || c.before args0 about1) = true := by decide +kernel
set_option maxRecDepth 65536 in
theorem w_t2 : ((words1.drop 24).take 24).all (fun c => isCode c || c.before args0 about1) = true := by decide +kernel
set_option maxRecDepth 65536 in
theorem w_t3 : (((words1.drop 24).drop 24).take 24).all (fun c => isCode c || c.before args0 about1) = true := by decide +kernel
set_option maxRecDepth 65536 in
theorem w_t4 : ((((words1.drop 24).drop 24).drop 24).take 24).all (fun c => isCode c || c.before args0 about1) = true := by decide +kernel
set_option maxRecDepth 65536 in
theorem w_t5 : (((((words1.drop 24).drop 24).drop 24).drop 24).take 24).all (fun c => isCode c || c.before args0 about1) = true := by decide +kernel
set_option maxRecDepth 65536 in
theorem w_t6 : ((((((words1.drop 24).drop 24).drop 24).drop 24).drop 24).take 24).all (fun c => isCode c || c.before args0 about1) = true := by decide +kernel
set_option maxRecDepth 65536 in
theorem w_t7 : (((((((words1.drop 24).drop 24).drop 24).drop 24).drop 24).drop 24).take 24).all (fun c => isCode c || c.before args0 about1) = true := by decide +kernel
set_option maxRecDepth 65536 in
theorem w_t8 : ((((((((words1.drop 24).drop 24).drop 24).drop 24).drop 24).drop 24).drop 24).take 24).all (fun c => isCode c || c.before args0 about1) = true := by decide +kernel
set_option maxRecDepth 65536 in
theorem w_t9 : (((((((((words1.drop 24).drop 24).drop 24).drop 24).drop 24).drop 24).drop 24).drop 24).take 24).all (fun c => isCode c || c.before args0 about1) = true := by decide +kernel
set_option maxRecDepth 65536 in
theorem w_t10 : ((((((((((words1.drop 24).drop 24).drop 24).drop 24).drop 24).drop 24).drop 24).drop 24).drop 24).take 24).all (fun c => isCode c || c.before args0 about1) = true := by decide +kernel
set_option maxRecDepth 65536 in
theorem w_t11 : (((((((((((words1.drop 24).drop 24).drop 24).drop 24).drop 24).drop 24).drop 24).drop 24).drop 24).drop 24).take 24).all (fun c => isCode c || c.before args0 about1) = true := by decide +kernel
set_option maxRecDepth 65536 in
theorem w_t12 : (((((((((((words1.drop 24).drop 24).drop 24).drop 24).drop 24).drop 24).drop 24).drop 24).drop 24).drop 24).drop 24).all (fun c => isCode c || c.before args0 about1) = true := by decide +kernel
theorem w_tables : (allAtoms (Jvm.Cond.code x code maxLocals ret :: tables_1)).before args0 about1 = true := by
  rw [allAtoms_all]
  show words1.all (fun c => c.before args0 about1) = true
  refine all_split ?_ w_codes
  rw [← List.take_append_drop 24 words1, List.all_append, w_t1, ← List.take_append_drop 24 (words1.drop 24), List.all_append, w_t2, ← List.take_append_drop 24 ((words1.drop 24).drop 24), List.all_append, w_t3, ← List.take_append_drop 24 (((words1.drop 24).drop 24).drop 24), List.all_append, w_t4, ← List.take_append_drop 24 ((((words1.drop 24).drop 24).drop 24).drop 24), List.all_append, w_t5, ← List.take_append_drop 24 (((((words1.drop 24).drop 24).drop 24).drop 24).drop 24), List.all_append, w_t6, ← List.take_append_drop 24 ((((((words1.drop 24).drop 24).drop 24).drop 24).drop 24).drop 24), List.all_append, w_t7, ← List.take_append_drop 24 (((((((words1.drop 24).drop 24).drop 24).drop 24).drop 24).drop 24).drop 24), List.all_append, w_t8, ← List.take_append_drop 24 ((((((((words1.drop 24).drop 24).drop 24).drop 24).drop 24).drop 24).drop 24).drop 24), List.all_append, w_t9, ← List.take_append_drop 24 (((((((((words1.drop 24).drop 24).drop 24).drop 24).drop 24).drop 24).drop 24).drop 24).drop 24), List.all_append, w_t10, ← List.take_append_drop 24 ((((((((((words1.drop 24).drop 24).drop 24).drop 24).drop 24).drop 24).drop 24).drop 24).drop 24).drop 24), List.all_append, w_t11, w_t12]
  rfl
set_option maxRecDepth 65536 in
theorem w_rest : rest_1_c.before args0 about1 = true := by decide +kernel
set_option maxRecDepth 65536 in
theorem w_case : (Jvm.Cond.and given_1 narrow_1).before args0 about1 = true := by decide +kernel
set_option maxRecDepth 65536 in
theorem w_consts : constsHeld consts_1 about1 := Jvm.Lit.constsHeldB_iff.mp (by decide +kernel)
theorem w_applies : (headSpec (Jvm.Cond.code x code maxLocals ret :: tables_1) room_1).applies x e0.platform about1 = true :=
  (Spec.applies_iff w_frames).mpr ⟨w_running, w_runnable, w_alone, w_named, w_hears, w_ripe, w_room, w_tables⟩
theorem atStart : AtStart classFile x code maxLocals ret World_1 tables_1 room_1 Calls_1 rest_1 Pre_1 launch0 p0 e0 about1 theMethod args0 below0 :=
  ⟨lists_1, trivial, launch0.admits_env _ _ _, launch0.least_env, fairChoices_fair.cas, fairChoices_fair.clock, w_frames, w_args, w_heap, w_applies, ⟨⟨40, k40, 5, by decide +kernel, rfl, rfl, _, rfl, rfl⟩, ⟨w_consts, trivial⟩⟩, w_rest, w_case⟩
end start1
theorem witness_1 : WitnessClaimed_1 := ⟨start1.p0, start1.e0, start1.about1, start1.theMethod, start1.args0, start1.below0, start1.atStart⟩
end Jvm.Pilot.@@N@@
