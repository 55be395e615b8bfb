import JvmDerived
import JvmDerived.Pilot.@@N@@Statement
import JvmDerived.Pilot.@@N@@Code
set_option linter.unusedVariables false
set_option linter.unusedSimpArgs false
namespace Jvm.RoadKit
open Sem ClassFile Op Lib Jvm.Stand Jvm.Free Jvm.LawKit
section New
variable {p : Program} {l : Launch} {e : Env} {R : Room} {s : State} {m : MethodId} {args : Array Value} {below : List Frame} {meth : Method} {c : Code} {T : State} {locs : List Loc} {cells slots : Nat}
theorem retI (X : Stand p l e R s m args below meth c T locs cells slots) (hx : p.tables.exec = Jvm.exec) {pc : Nat} {Ls : Array Slot} {z : Int32} {rest : List Value} (hret : meth.sig.returnType = some .int) (hd : decode c.code pc = .ok (.ireturn, 1)) {fs : List Frame}
    (hl : ∀ (f : JFrame) (acts : List Action), f.method = m → f.locked = none → f.entered = [] → (doReturn e (T.setTop f) acts (some (.int z))).1 = T.setFrames fs) : Steps p.tables e below (T.setTop (mkF m pc Ls (.int z :: rest))) (T.setFrames fs) := by
  have hm' : T.vm.method? m = some meth := X.method'
  have hn : narrow .int (.int z) = .int z := rfl
  show Steps p.tables e below (T.setTop { method := m, pc := pc, locals := Ls, stack := _ :: rest, locked := none }) _
  jvm_step X.here [X.here.top, hx, hd, hm', hret, hn]
  first | (intro acts; rw [hl _ acts rfl rfl rfl]) | rw [hl _ _ rfl rfl rfl]
  exact Steps.refl _
theorem own_retJ (X : Stand p l e R s m args below meth c T locs cells slots) (hx : p.tables.exec = Jvm.exec) {pc : Nat} {Ls : Array Slot} {z : Int64} {rest : List Value} (hret : meth.sig.returnType = some .long) (hd : decode c.code pc = .ok (.lreturn, 1)) {fs : List Frame}
    (hl : ∀ (f : JFrame) (acts : List Action), f.method = m → f.locked = none → f.entered = [] → (doReturn e (T.setTop f) acts (some (.long z))).1 = T.setFrames fs) : Steps p.tables e below (T.setTop (mkF m pc Ls (.long z :: rest))) (T.setFrames fs) :=
  retOut X hx hret rfl (Or.inr (Or.inl ⟨rfl, rfl, z, rfl⟩)) hd hl
theorem own_retA (X : Stand p l e R s m args below meth c T locs cells slots) (hx : p.tables.exec = Jvm.exec) {pc : Nat} {Ls : Array Slot} {w : Value} {t : FieldType} {rest : List Value} (hret : meth.sig.returnType = some t) (ht : t.isReference = true) (hw : w.isRef = true) (hd : decode c.code pc = .ok (.areturn, 1)) {fs : List Frame}
    (hl : ∀ (f : JFrame) (acts : List Action), f.method = m → f.locked = none → f.entered = [] → (doReturn e (T.setTop f) acts (some w)).1 = T.setFrames fs) : Steps p.tables e below (T.setTop (mkF m pc Ls (w :: rest))) (T.setFrames fs) :=
  retOut X hx hret (by rcases ref_cases hw with rfl | ⟨a, rfl⟩ <;> cases t <;> first | rfl | (simp [FieldType.isReference] at ht)) (Or.inr (Or.inr (Or.inr (Or.inr ⟨rfl, ht, hw⟩)))) hd hl
theorem own_retN (X : Stand p l e R s m args below meth c T locs cells slots) (hx : p.tables.exec = Jvm.exec) {pc : Nat} {Ls : Array Slot} {z z' : Int32} {t : FieldType} {rest : List Value} (hret : meth.sig.returnType = some t) (ht : t = .boolean ∨ t = .byte ∨ t = .char ∨ t = .short) (hz : nar t z = z')
    (hd : decode c.code pc = .ok (.ireturn, 1)) {fs : List Frame} (hl : ∀ (f : JFrame) (acts : List Action), f.method = m → f.locked = none → f.entered = [] → (doReturn e (T.setTop f) acts (some (.int z'))).1 = T.setFrames fs) :
    Steps p.tables e below (T.setTop (mkF m pc Ls (.int z :: rest))) (T.setFrames fs) := by subst hz; exact retN X hx hret ht hd hl
/-- from a state, some run leads to an end that F takes -/
def own_Gl (tb : Tables) (e : Env) (below : List Frame) (F : State → Outcome → Prop) (st : State) : Prop := ∃ s₂ o, Steps tb e below st s₂ ∧ F s₂ o
theorem own_go {tb : Tables} {F : State → Outcome → Prop} {st st' : State} (h : ∀ t, Steps tb e below st' t → Steps tb e below st t) (g : own_Gl tb e below F st') : own_Gl tb e below F st := by
  obtain ⟨t, o, k, r⟩ := g; exact ⟨t, o, h t k, r⟩
theorem own_fin {tb : Tables} {F : State → Outcome → Prop} {st t : State} {o : Outcome} (h : Steps tb e below st t) (r : F t o) : own_Gl tb e below F st := ⟨t, o, h, r⟩
theorem own_start {tb : Tables} {G : State → Outcome → Prop} {g g' : JFrame} (q : g = g') (k : ∀ F, F = G → own_Gl tb e below F (T.setTop g')) : ∃ s₂ o, Steps tb e below (T.setTop g) s₂ ∧ G s₂ o := by subst q; exact k G rfl
/-- the counts of a stand as plain numbers -/
theorem own_sn {k k' n n' : Nat} {L : List Loc} (X : Stand p l e R s m args below meth c T L k n) (hk : k = k') (hn : n = n') : Stand p l e R s m args below meth c T L k' n' := by subst hk hn; exact X
theorem own_fr {n0 : Nat} {L A B : List Loc} (q : L = A ++ B) (NA : Fr n0 A) (NB : Fr n0 B) : Fr n0 L := by subst q; exact Fr.app NA NB
theorem own_frn {n0 : Nat} {L : List Loc} (q : L = []) : Fr n0 L := by subst q; exact Fr.nil n0
end New
/-- an array of length z whose place j holds g j -/
def own_A (Z : State) (h : Heap) (a : Addr) (ty : FieldType) (z : Int32) (g : Nat → Value) : Prop := ∃ c : Cell, Arr Z h a c ty ∧ c.slots.size = z.toNatClampNeg ∧ ¬ z < 0 ∧ ∀ j, j < c.slots.size → c.slots[j]? = some (g j)
section OwnA
variable {Z : State} {h h' : Heap} {a b : Addr} {ty : FieldType} {z : Int32} {g : Nat → Value} {sl : Nat} {v : Value} {ws : List Addr}
theorem own_A.lt (F : own_A Z h a ty z g) : a < h.size := by obtain ⟨c, A, -⟩ := F; exact A.lt
theorem own_A.ext (F : own_A Z h a ty z g) (E : Ext h h') : own_A Z h' a ty z g := by obtain ⟨c, A, r⟩ := F; exact ⟨c, A.ext E, r⟩
theorem own_A.other (F : own_A Z h b ty z g) (W : Wr h h' a sl v) (q : b ≠ a) : own_A Z h' b ty z g := by obtain ⟨c, A, r⟩ := F; exact ⟨c, A.other W q, r⟩
theorem own_A.keep (F : own_A Z h a ty z g) (K : Keep h h' ws) (q : a ∉ ws) : own_A Z h' a ty z g := by obtain ⟨c, A, r⟩ := F; exact ⟨c, ⟨K.2.1 a c A.1 q, A.2⟩, r⟩
theorem own_A.set (F : own_A Z h a ty z g) {i : Nat} (W : Wr h h' a i v) : own_A Z h' a ty z (fun k => if k = i then v else g k) := by
  obtain ⟨c, A, S, N, H⟩ := F
  refine ⟨_, A.same W, by rw [sz_set]; exact S, N, fun j hj => ?_⟩
  rw [sz_set] at hj
  by_cases u : j = i
  · subst u; simp [Cell.setSlot, hj]
  · show _ = some (if j = i then v else g j)
    rw [if_neg u]; simp only [Cell.setSlot]; rw [Array.getElem?_setIfInBounds_ne (fun q => u q.symm)]; exact H j hj
theorem own_A.new {k : ClassId} (A : Arr Z h a (newA k ty z) ty) (q : ¬ z < 0) : own_A Z h a ty z (fun _ => defaultValue ty) := by
  obtain ⟨c, A', -, S, N, H, -⟩ := Arv.new A q
  exact ⟨c, A', S, N, fun j hj => H j hj⟩
theorem own_A.of (F : own_A Z h a ty z g) {g' : Nat → Value} (q : ∀ j, j < z.toNatClampNeg → g j = g' j) : own_A Z h a ty z g' := by
  obtain ⟨c, A, S, N, H⟩ := F; exact ⟨c, A, S, N, fun j hj => by rw [← q j (S ▸ hj)]; exact H j hj⟩
end OwnA
end Jvm.RoadKit
/- laws to paste: Road.backV (cut by pick.py; bodies as the Statement names them) -/
namespace Jvm.Pilot.@@N@@
namespace StrChars
open Jvm Sem ClassFile Op Lib Jvm.Stand Jvm.Free.XT Jvm.Free.ALB Jvm.Free.JM Jvm.Free
open Jvm.Lib.Cold (StaticIs)
/-- a char array whose places are chars -/
def Ch (a : Addr) (A : Cell) (U : State) : Prop := Arr .char a A U ∧ Typed .char A
theorem Ch.mv {a : Addr} {A : Cell} {U U' : State} (h : Ch a A U) (hal : U.vm.Alike U'.vm) (hh : U'.heap = U.heap) : Ch a A U' := ⟨h.1.mv hal hh, h.2⟩
theorem Ch.keep {a : Addr} {A : Cell} {U U' : State} (h : Ch a A U) (hal : U.vm.Alike U'.vm) (hk : U'.heap[a]? = some A) : Ch a A U' := ⟨h.1.keep hal hk, h.2⟩
/-- what place i of a char[]'s cell holds -/
def cv (A : Cell) (i : Nat) : Int32 := match A.slots[i]? with | some (.int x) => x | _ => 0
theorem Ch.get {a : Addr} {A : Cell} {U : State} (h : Ch a A U) {i : Nat} (hi : i < A.slots.size) : A.slots[i]? = some (.int (cv A i)) := by
  have e := Array.getElem?_eq_getElem hi
  have f := h.2 i _ e
  unfold cv; rw [e]
  generalize A.slots[i] = v at f
  cases v <;> simp [fits] at f ⊢
/-- the byte that i2b leaves of a char -/
def lo8 (x : Int32) : Int32 := x.toInt8.toInt32
theorem fits_lo8 (y : Int32) : fits .byte (.int (lo8 y)) = true := by
  have h1 := y.toInt8.le_toInt
  have h2 := y.toInt8.toInt_lt
  simp only [lo8, fits, Bool.and_eq_true, decide_eq_true_eq, Int32.le_iff_toInt_le, Int8.toInt_toInt32, show (-128 : Int32).toInt = -128 from by decide, show (127 : Int32).toInt = 127 from by decide]
  omega
/-- A' is A but that each place j of lo .. hi - 1 holds f j -/
def Laid (A A' : Cell) (lo hi : Nat) (f : Nat → Value) : Prop := A'.cls = A.cls ∧ A'.vm = A.vm ∧ A'.slots.size = A.slots.size ∧ ∀ i, A'.slots[i]? = if lo ≤ i ∧ i < hi then some (f i) else A.slots[i]?
theorem Laid.zero (A : Cell) (lo : Nat) (f : Nat → Value) : Laid A A lo (lo + 0) f := ⟨rfl, rfl, rfl, fun i => by rw [if_neg (by omega)]⟩
theorem Laid.step {A Ak : Cell} {lo k : Nat} {f : Nat → Value} {v : Value} (h : Laid A Ak lo k f) (hlo : lo ≤ k) (hk : k < Ak.slots.size) (hv : v = f k) : Laid A (Ak.setSlot k v) lo (k + 1) f := by
  refine ⟨h.1, h.2.1, by simpa [Cell.setSlot] using h.2.2.1, fun i => ?_⟩
  by_cases e : k = i
  · subst e; rw [Cell.slots_setSlot_self v hk, if_pos (by omega), hv]
  · rw [Cell.slots_setSlot_ne v e, h.2.2.2 i]
    by_cases q : lo ≤ i ∧ i < k
    · rw [if_pos q, if_pos (by omega)]
    · rw [if_neg q, if_neg (by omega)]
def U16 : String := "java/lang/StringUTF16"
namespace Cmp5
def yN : MethodName := ⟨"java/lang/StringUTF16", "compress", "([CI[BII)I"⟩
abbrev yB : ByteArray := jdk_52_method_21_code
theorem d0 : decode yB 0 = .ok (.iconst 0, 1) := by decide +kernel
theorem d1 : decode yB 1 = .ok (.istore 5, 2) := by decide +kernel
theorem d3 : decode yB 3 = .ok (.iload 5, 2) := by decide +kernel
theorem d5 : decode yB 5 = .ok (.iload 4, 2) := by decide +kernel
theorem d7 : decode yB 7 = .ok (.if_icmp (.ge) 37, 3) := by decide +kernel
theorem d10 : decode yB 10 = .ok (.aload_n 0, 1) := by decide +kernel
theorem d11 : decode yB 11 = .ok (.iload_n 1, 1) := by decide +kernel
theorem d12 : decode yB 12 = .ok (.caload, 1) := by decide +kernel
theorem d13 : decode yB 13 = .ok (.istore 6, 2) := by decide +kernel
theorem d15 : decode yB 15 = .ok (.iload 6, 2) := by decide +kernel
theorem d17 : decode yB 17 = .ok (.sipush 255, 3) := by decide +kernel
theorem d20 : decode yB 20 = .ok (.if_icmp (.le) 6, 3) := by decide +kernel
theorem d26 : decode yB 26 = .ok (.aload_n 2, 1) := by decide +kernel
theorem d27 : decode yB 27 = .ok (.iload_n 3, 1) := by decide +kernel
theorem d28 : decode yB 28 = .ok (.iload 6, 2) := by decide +kernel
theorem d30 : decode yB 30 = .ok (.i2b, 1) := by decide +kernel
theorem d31 : decode yB 31 = .ok (.bastore, 1) := by decide +kernel
theorem d32 : decode yB 32 = .ok (.iinc 1 1, 3) := by decide +kernel
theorem d35 : decode yB 35 = .ok (.iinc 3 1, 3) := by decide +kernel
theorem d38 : decode yB 38 = .ok (.iinc 5 1, 3) := by decide +kernel
theorem d41 : decode yB 41 = .ok (.goto (-38), 3) := by decide +kernel
theorem d44 : decode yB 44 = .ok (.iload 4, 2) := by decide +kernel
theorem d46 : decode yB 46 = .ok (.ireturn, 1) := by decide +kernel
def site : List Cond := []
def tab : Cond := tabOf yN yB 7 (some .int) site
def P (b : Addr) (A : Cell) (d : Addr) (B : Cell) (o q len : Nat) (args : Array Value) (s : State) : Prop := args = #[.ref b, .int (Int32.ofNat o), .ref d, .int (Int32.ofNat q), .int (Int32.ofNat len)] ∧ Ch b A s ∧ Arr .byte d B s ∧ b ≠ d ∧ o + len ≤ A.slots.size ∧ q + len ≤ B.slots.size ∧ ∀ i, i < len → ¬ 255 < cv A (o + i)
def E (b : Addr) (A : Cell) (d : Addr) (B : Cell) (o q len : Nat) (r : Option Value) (s u : State) : Prop := r = some (.int (Int32.ofNat len)) ∧ ∃ B', Put d B' s u ∧ Laid B B' q (q + len) (fun j => Value.int (lo8 (cv A (o + (j - q)))))
/-- no char of the range above 255: len; the places written hold each char's low byte -/
theorem law (l : Launch) (b : Addr) (A : Cell) (d : Addr) (B : Cell) (o q len : Nat) : Law l yN 5 5 0 0 yB 7 (some .int) site (P b A d B o q len) (E b A d B o q len) (copyLocs d q len) 0 0 := by
  refine Law.of_walk (plainFor_of_name (by decide +kernel)) (by decide +kernel) (by decide +kernel) (by decide) (fun _ _ h => by rw [h.1]; rfl) (fun _ U U' hal hh h => ⟨h.1, h.2.1.mv hal hh, h.2.2.1.mv hal hh, h.2.2.2⟩) (fun r U U' V V' h1 hal h2 h => ⟨h.1, h.2.elim fun B' q => ⟨B', q.1.mv h1 h2, q.2⟩⟩) ?_
  intro p e s m args below meth c s₁ X0 hexec hbytes hml hret hlk hnm hown hh0 W hP
  obtain ⟨rfl, hA, hB, hne, l1, l2, hp⟩ := hP
  have c1 : Steps p.tables e below (s₁.setTop (entryFrame m #[.ref b, .int (Int32.ofNat o), .ref d, .int (Int32.ofNat q), .int (Int32.ofNat len)] 7)) (s₁.setTop (mkF m 0 #[.val (.ref b), .val (.int (Int32.ofNat o)), .val (.ref d), .val (.int (Int32.ofNat q)), .val (.int (Int32.ofNat len)), .unset, .unset] [])) := entry rfl
  have hA0 := hA.1.mv X0.warmed.alike hh0
  have hB0 := hB.mv X0.warmed.alike hh0
  have a31 := hA.1.2.2.2
  have c2 : Steps p.tables e below (s₁.setTop (entryFrame m #[.ref b, .int (Int32.ofNat o), .ref d, .int (Int32.ofNat q), .int (Int32.ofNat len)] 7)) (s₁.setTop (mkF m 3 #[.val (.ref b), .val (.int (Int32.ofNat o)), .val (.ref d), .val (.int (Int32.ofNat q)), .val (.int (Int32.ofNat len)), .val (.int 0), .unset] [])) := c1.trans (by
    refine iconstV X0.here hexec rfl 0 (hb hbytes d0) (by decide) ?_
    refine XS.istore X0.here hexec rfl (hb hbytes d1) rfl rfl ?_
    exact Steps.refl _)
  have loop : ∀ (r i : Nat), i + r = len → ∀ (z : Slot), (z = .unset ∨ ∃ w, z = .val w ∧ w.category = 1) → ∀ (Tl : State) (Bk : Cell), Stand p l e { frames := 0, locals := 0, cells := 0, slots := 0 } s m #[.ref b, .int (Int32.ofNat o), .ref d, .int (Int32.ofNat q), .int (Int32.ofNat len)] below meth c Tl ([] ++ copyLocs d q i) 0 0 → Put d Bk s₁ Tl → Laid B Bk q (q + i) (fun j => Value.int (lo8 (cv A (o + (j - q))))) →
      Steps p.tables e below (s₁.setTop (entryFrame m #[.ref b, .int (Int32.ofNat o), .ref d, .int (Int32.ofNat q), .int (Int32.ofNat len)] 7)) (Tl.setTop (mkF m 3 #[.val (.ref b), .val (.int (Int32.ofNat (o + i))), .val (.ref d), .val (.int (Int32.ofNat (q + i))), .val (.int (Int32.ofNat len)), .val (.int (Int32.ofNat i)), z] [])) → ∃ (T' : State) (B' : Cell) (z' : Slot), Stand p l e { frames := 0, locals := 0, cells := 0, slots := 0 } s m #[.ref b, .int (Int32.ofNat o), .ref d, .int (Int32.ofNat q), .int (Int32.ofNat len)] below meth c T' ([] ++ copyLocs d q len) 0 0 ∧ Put d B' s₁ T' ∧ Laid B B' q (q + len) (fun j => Value.int (lo8 (cv A (o + (j - q))))) ∧
      Steps p.tables e below (s₁.setTop (entryFrame m #[.ref b, .int (Int32.ofNat o), .ref d, .int (Int32.ofNat q), .int (Int32.ofNat len)] 7)) (T'.setTop (mkF m 3 #[.val (.ref b), .val (.int (Int32.ofNat (o + len))), .val (.ref d), .val (.int (Int32.ofNat (q + len))), .val (.int (Int32.ofNat len)), .val (.int (Int32.ofNat len)), z'] [])) := by
    intro r
    induction r with
    | zero =>
      intro i hi z hz Tl Bk Xl pl fl cl
      have hil : i = len := by omega
      rw [hil] at Xl fl cl
      exact ⟨Tl, Bk, z, Xl, pl, fl, cl⟩
    | succ r ih =>
      intro i hi z hz Tl Bk Xl pl fl cl
      have all := X0.warmed.alike.symm.trans Xl.warmed.alike
      have hAl := hA0.keep all (pl.other hne hA0.1)
      have hBk := hB0.like all pl.1 fl.1 fl.2.1 fl.2.2.1
      have hlt : q + i < Bk.slots.size := by rw [fl.2.2.1]; omega
      have c3 : Steps p.tables e below (s₁.setTop (entryFrame m #[.ref b, .int (Int32.ofNat o), .ref d, .int (Int32.ofNat q), .int (Int32.ofNat len)] 7)) (Tl.setTop (mkF m 12 #[.val (.ref b), .val (.int (Int32.ofNat (o + i))), .val (.ref d), .val (.int (Int32.ofNat (q + i))), .val (.int (Int32.ofNat len)), .val (.int (Int32.ofNat i)), z] [.int (Int32.ofNat (o + i)), .ref b])) := cl.trans (by
        refine XS.iload Xl.here hexec rfl (hb hbytes d3) rfl ?_
        refine XS.iload Xl.here hexec rfl (hb hbytes d5) rfl ?_
        refine XS.icmpNo Xl.here hexec rfl (hb hbytes d7) rfl (ii_ge_f (lt32 (by omega) (by omega))) ?_
        refine XS.aloadN Xl.here hexec rfl (hb hbytes d10) rfl rfl ?_
        refine XS.iloadN Xl.here hexec rfl (hb hbytes d11) rfl ?_
        exact Steps.refl _)
      have c4 : Steps p.tables e below (s₁.setTop (entryFrame m #[.ref b, .int (Int32.ofNat o), .ref d, .int (Int32.ofNat q), .int (Int32.ofNat len)] 7)) (Tl.setTop (mkF m 13 #[.val (.ref b), .val (.int (Int32.ofNat (o + i))), .val (.ref d), .val (.int (Int32.ofNat (q + i))), .val (.int (Int32.ofNat len)), .val (.int (Int32.ofNat i)), z] [.int (cv A (o + i))])) := c3.trans (by
        refine Xl.aget hexec hAl rfl (hA.get (i := o + i) (by omega)) rfl rfl (hb hbytes d12) ?_
        exact Steps.refl _)
      have c5 : Steps p.tables e below (s₁.setTop (entryFrame m #[.ref b, .int (Int32.ofNat o), .ref d, .int (Int32.ofNat q), .int (Int32.ofNat len)] 7)) (Tl.setTop (mkF m 15 #[.val (.ref b), .val (.int (Int32.ofNat (o + i))), .val (.ref d), .val (.int (Int32.ofNat (q + i))), .val (.int (Int32.ofNat len)), .val (.int (Int32.ofNat i)), .val (.int (cv A (o + i)))] [])) := c4.trans (by
        refine XS.istoreS Xl.here hexec rfl (hb hbytes d13) rfl rfl hz ?_
        exact Steps.refl _)
      have c6 : Steps p.tables e below (s₁.setTop (entryFrame m #[.ref b, .int (Int32.ofNat o), .ref d, .int (Int32.ofNat q), .int (Int32.ofNat len)] 7)) (Tl.setTop (mkF m 31 #[.val (.ref b), .val (.int (Int32.ofNat (o + i))), .val (.ref d), .val (.int (Int32.ofNat (q + i))), .val (.int (Int32.ofNat len)), .val (.int (Int32.ofNat i)), .val (.int (cv A (o + i)))] [.int (lo8 (cv A (o + i))), .int (Int32.ofNat (q + i)), .ref d])) := c5.trans (by
        refine XS.iload Xl.here hexec rfl (hb hbytes d15) rfl ?_
        refine sipushV Xl.here hexec rfl 255 (hb hbytes d17) (by decide) ?_
        refine XS.icmpYes Xl.here hexec rfl (pc0 := 20) rfl (hb hbytes d20) rfl (ii_le_t (hp i (by omega))) (by decide) rfl ?_
        refine XS.aloadN Xl.here hexec rfl (hb hbytes d26) rfl rfl ?_
        refine XS.iloadN Xl.here hexec rfl (hb hbytes d27) rfl ?_
        refine XS.iload Xl.here hexec rfl (hb hbytes d28) rfl ?_
        refine i2b Xl.here hexec rfl (hb hbytes d30) rfl ?_
        exact Steps.refl _)
      obtain ⟨T7, X7, p7, st7⟩ := Xl.aput hexec hBk rfl hlt rfl (fits_lo8 (cv A (o + i))) (g := (mkF m 31 #[.val (.ref b), .val (.int (Int32.ofNat (o + i))), .val (.ref d), .val (.int (Int32.ofNat (q + i))), .val (.int (Int32.ofNat len)), .val (.int (Int32.ofNat i)), .val (.int (cv A (o + i)))] [.int (lo8 (cv A (o + i))), .int (Int32.ofNat (q + i)), .ref d])) rfl (rest := []) rfl (hb hbytes d31)
      have c8 : Steps p.tables e below (s₁.setTop (entryFrame m #[.ref b, .int (Int32.ofNat o), .ref d, .int (Int32.ofNat q), .int (Int32.ofNat len)] 7)) (T7.setTop (mkF m 32 #[.val (.ref b), .val (.int (Int32.ofNat (o + i))), .val (.ref d), .val (.int (Int32.ofNat (q + i))), .val (.int (Int32.ofNat len)), .val (.int (Int32.ofNat i)), .val (.int (cv A (o + i)))] [])) := c6.trans (st7 _ (Steps.refl _))
      have c9 : Steps p.tables e below (s₁.setTop (entryFrame m #[.ref b, .int (Int32.ofNat o), .ref d, .int (Int32.ofNat q), .int (Int32.ofNat len)] 7)) (T7.setTop (mkF m 3 #[.val (.ref b), .val (.int (Int32.ofNat (o + i) + 1)), .val (.ref d), .val (.int (Int32.ofNat (q + i) + 1)), .val (.int (Int32.ofNat len)), .val (.int (Int32.ofNat i + 1)), .val (.int (cv A (o + i)))] [])) := c8.trans (by
        refine iincV X7.here hexec rfl 1 (hb hbytes d32) (by decide) rfl rfl ?_
        refine iincV X7.here hexec rfl 1 (hb hbytes d35) (by decide) rfl rfl ?_
        refine iincV X7.here hexec rfl 1 (hb hbytes d38) (by decide) rfl rfl ?_
        refine XS.goto X7.here hexec rfl (pc0 := 41) rfl (hb hbytes d41) (by decide) rfl ?_
        exact Steps.refl _)
      have c10 : Steps p.tables e below (s₁.setTop (entryFrame m #[.ref b, .int (Int32.ofNat o), .ref d, .int (Int32.ofNat q), .int (Int32.ofNat len)] 7)) (T7.setTop (mkF m 3 #[.val (.ref b), .val (.int (Int32.ofNat (o + (i + 1)))), .val (.ref d), .val (.int (Int32.ofNat (q + (i + 1)))), .val (.int (Int32.ofNat len)), .val (.int (Int32.ofNat (i + 1))), .val (.int (cv A (o + i)))] [])) := by
        have := c9
        rw [succ32, succ32, succ32] at this
        exact this
      exact ih (i + 1) (by omega) _ (Or.inr ⟨_, rfl, rfl⟩) T7 _ (by rw [copyLocs_step, ← List.append_assoc]; exact X7) (pl.trans p7) (fl.step (by omega) hlt (by simp)) c10
  obtain ⟨T9, B9, z9, X9, p9, f9, g9⟩ := loop len 0 (by omega) .unset (Or.inl rfl) s₁ B (by simpa [copyLocs] using X0) ⟨hB0.1, fun _ _ => rfl, rfl⟩ (Laid.zero _ _ _) c2
  have c11 : Steps p.tables e below (s₁.setTop (entryFrame m #[.ref b, .int (Int32.ofNat o), .ref d, .int (Int32.ofNat q), .int (Int32.ofNat len)] 7)) (T9.setTop (mkF m 46 #[.val (.ref b), .val (.int (Int32.ofNat (o + len))), .val (.ref d), .val (.int (Int32.ofNat (q + len))), .val (.int (Int32.ofNat len)), .val (.int (Int32.ofNat len)), z9] [.int (Int32.ofNat len)])) := g9.trans (by
    refine XS.iload X9.here hexec rfl (hb hbytes d3) rfl ?_
    refine XS.iload X9.here hexec rfl (hb hbytes d5) rfl ?_
    refine XS.icmpYes X9.here hexec rfl (pc0 := 7) rfl (hb hbytes d7) rfl (ii_ge_t (nlt32 (by omega) (Nat.le_refl _))) (by decide) rfl ?_
    refine XS.iload X9.here hexec rfl (hb hbytes d44) rfl ?_
    exact Steps.refl _)
  exact ⟨T9, some (.int (Int32.ofNat len)), _, _, _, X9, by simp, rfl, rfl, (fun h => by cases h), ⟨rfl, B9, p9.from hh0, f9⟩, fun fs hl => c11.trans (X9.ireturnOut hexec hret rfl (Or.inl rfl) (hb hbytes d46) hl)⟩
end Cmp5
namespace Cmp3
def yN : MethodName := ⟨"java/lang/StringUTF16", "compress", "([CII)[B"⟩
abbrev yB : ByteArray := jdk_52_method_16_code
theorem d0 : decode yB 0 = .ok (.iload_n 2, 1) := by decide +kernel
theorem d1 : decode yB 1 = .ok (.newarray .byte, 2) := by decide +kernel
theorem d3 : decode yB 3 = .ok (.astore_n 3, 1) := by decide +kernel
theorem d4 : decode yB 4 = .ok (.aload_n 0, 1) := by decide +kernel
theorem d5 : decode yB 5 = .ok (.iload_n 1, 1) := by decide +kernel
theorem d6 : decode yB 6 = .ok (.aload_n 3, 1) := by decide +kernel
theorem d7 : decode yB 7 = .ok (.iconst 0, 1) := by decide +kernel
theorem d8 : decode yB 8 = .ok (.iload_n 2, 1) := by decide +kernel
theorem d9 : decode yB 9 = .ok (.invokestatic 115, 3) := by decide +kernel
theorem d12 : decode yB 12 = .ok (.istore 4, 2) := by decide +kernel
theorem d14 : decode yB 14 = .ok (.iload 4, 2) := by decide +kernel
theorem d16 : decode yB 16 = .ok (.iload_n 2, 1) := by decide +kernel
theorem d17 : decode yB 17 = .ok (.if_icmp (.eq) 40, 3) := by decide +kernel
theorem d57 : decode yB 57 = .ok (.aload_n 3, 1) := by decide +kernel
theorem d58 : decode yB 58 = .ok (.areturn, 1) := by decide +kernel
def site : List Cond := [.arrayClass .byte, Cmp5.tab] ++ staticW U16 115 Cmp5.yN
def tab : Cond := tabOf yN yB 6 (some (.array .byte)) site
def P (b : Addr) (A : Cell) (o len : Nat) (args : Array Value) (s : State) : Prop := args = #[.ref b, .int (Int32.ofNat o), .int (Int32.ofNat len)] ∧ Ch b A s ∧ o + len ≤ A.slots.size ∧ len ≤ 536870912 ∧ ∀ i, i < len → ¬ 255 < cv A (o + i)
def E (b : Addr) (A : Cell) (o len : Nat) (r : Option Value) (s u : State) : Prop := NewArr .byte "[B" len (fun j => .int (lo8 (cv A (o + j)))) r s u ∧ u.heap.size = s.heap.size + 1
/-- no char of the range above 255: a new byte[] of their low bytes -/
theorem law (l : Launch) (b : Addr) (A : Cell) (o len : Nat) : Law l yN 3 3 1 18 yB 6 (some (.array .byte)) site (P b A o len) (E b A o len) [] 1 len := by
  refine Law.of_walk (plainFor_of_name (by decide +kernel)) (by decide +kernel) (by decide +kernel) (by decide) (fun _ _ h => by rw [h.1]; rfl) (fun _ U U' hal hh h => ⟨h.1, h.2.1.mv hal hh, h.2.2⟩) (fun r U U' V V' h1 hal h2 h => ⟨NewArr.mv r U U' V V' h1 hal h2 h.1, by rw [h1, h2]; exact h.2⟩) ?_
  intro p e s m args below meth c s₁ X0 hexec hbytes hml hret hlk hnm hown hh0 W hP
  obtain ⟨rfl, hA, l1, l2, hp⟩ := hP
  have a31 := hA.1.2.2.2
  have c1 : Steps p.tables e below (s₁.setTop (entryFrame m #[.ref b, .int (Int32.ofNat o), .int (Int32.ofNat len)] 6)) (s₁.setTop (mkF m 0 #[.val (.ref b), .val (.int (Int32.ofNat o)), .val (.int (Int32.ofNat len)), .unset, .unset, .unset] [])) := entry rfl
  have c2 : Steps p.tables e below (s₁.setTop (entryFrame m #[.ref b, .int (Int32.ofNat o), .int (Int32.ofNat len)] 6)) (s₁.setTop (mkF m 1 #[.val (.ref b), .val (.int (Int32.ofNat o)), .val (.int (Int32.ofNat len)), .unset, .unset, .unset] [.int (Int32.ofNat len)])) := c1.trans (by
    refine XS.iloadN X0.here hexec rfl (hb hbytes d0) rfl ?_
    exact Steps.refl _)
  obtain ⟨T3, B3, X3, ba3, bs3, bv3, bh3, bf3, st3⟩ := X0.anew hexec (atype := .byte) (wk W (.arrayClass .byte)) rfl (by show len * 1 ≤ _; omega) (by omega) (g := (mkF m 1 #[.val (.ref b), .val (.int (Int32.ofNat o)), .val (.int (Int32.ofNat len)), .unset, .unset, .unset] [.int (Int32.ofNat len)])) rfl (hb hbytes d1) (rest := []) rfl (Nat.le_refl _) (by show 0 + len ≤ len; omega)
  rw [hh0] at ba3 st3
  have kp3 : XT.Kept s T3 := (XT.Kept.of_eq hh0).push bh3
  have hA3 := hA.keep X3.warmed.alike (kp3 _ _ hA.1.1)
  have hne : b ≠ s.heap.size := hA.1.ne
  have c4 : Steps p.tables e below (s₁.setTop (entryFrame m #[.ref b, .int (Int32.ofNat o), .int (Int32.ofNat len)] 6)) (T3.setTop (mkF m 3 #[.val (.ref b), .val (.int (Int32.ofNat o)), .val (.int (Int32.ofNat len)), .unset, .unset, .unset] [.ref s.heap.size])) := c2.trans (st3 _ (Steps.refl _))
  have c5 : Steps p.tables e below (s₁.setTop (entryFrame m #[.ref b, .int (Int32.ofNat o), .int (Int32.ofNat len)] 6)) (T3.setTop (mkF m 9 #[.val (.ref b), .val (.int (Int32.ofNat o)), .val (.int (Int32.ofNat len)), .val (.ref s.heap.size), .unset, .unset] [.int (Int32.ofNat len), .int 0, .ref s.heap.size, .int (Int32.ofNat o), .ref b])) := c4.trans (by
    refine XS.astoreN X3.here hexec rfl (hb hbytes d3) rfl rfl rfl ?_
    refine XS.aloadN X3.here hexec rfl (hb hbytes d4) rfl rfl ?_
    refine XS.iloadN X3.here hexec rfl (hb hbytes d5) rfl ?_
    refine XS.aloadN X3.here hexec rfl (hb hbytes d6) rfl rfl ?_
    refine iconstV X3.here hexec rfl 0 (hb hbytes d7) (by decide) ?_
    refine XS.iloadN X3.here hexec rfl (hb hbytes d8) rfl ?_
    exact Steps.refl _)
  obtain ⟨v6, T6, X6, E6, g6⟩ := X3.callS hexec (Cmp5.law l b A s.heap.size B3 o 0 len) hown (wks W (staticW U16 115 Cmp5.yN)) (wk W Cmp5.tab) (W := 0) (Nat.le_of_ble_eq_true rfl) (Nat.le_of_ble_eq_true rfl) (Nat.le_refl _) (by show 0 + len + 0 ≤ len; omega) (g := (mkF m 9 #[.val (.ref b), .val (.int (Int32.ofNat o)), .val (.int (Int32.ofNat len)), .val (.ref s.heap.size), .unset, .unset] [.int (Int32.ofNat len), .int (Int32.ofNat 0), .ref s.heap.size, .int (Int32.ofNat o), .ref b])) rfl (by rw [hml]; rfl) c5 (argsL := [.ref b, .int (Int32.ofNat o), .ref s.heap.size, .int (Int32.ofNat 0), .int (Int32.ofNat len)]) (rest := []) rfl rfl (by show 2 * 0 + 0 ≤ _; decide) (hb hbytes d9) (⟨rfl, hA3, ba3, hne, l1, by rw [bs3]; simp, hp⟩)
  obtain ⟨rfl, B6, p6, f6⟩ := E6
  have c7 : Steps p.tables e below (s₁.setTop (entryFrame m #[.ref b, .int (Int32.ofNat o), .int (Int32.ofNat len)] 6)) (T6.setTop (mkF m 12 #[.val (.ref b), .val (.int (Int32.ofNat o)), .val (.int (Int32.ofNat len)), .val (.ref s.heap.size), .unset, .unset] [.int (Int32.ofNat len)])) := g6
  have c8 : Steps p.tables e below (s₁.setTop (entryFrame m #[.ref b, .int (Int32.ofNat o), .int (Int32.ofNat len)] 6)) (T6.setTop (mkF m 58 #[.val (.ref b), .val (.int (Int32.ofNat o)), .val (.int (Int32.ofNat len)), .val (.ref s.heap.size), .val (.int (Int32.ofNat len)), .unset] [.ref s.heap.size])) := c7.trans (by
    refine XS.istore X6.here hexec rfl (hb hbytes d12) rfl rfl ?_
    refine XS.iload X6.here hexec rfl (hb hbytes d14) rfl ?_
    refine XS.iloadN X6.here hexec rfl (hb hbytes d16) rfl ?_
    refine XS.icmpYes X6.here hexec rfl (pc0 := 17) rfl (hb hbytes d17) rfl (ii_eq_t rfl) (by decide) rfl ?_
    refine XS.aloadN X6.here hexec rfl (hb hbytes d57) rfl rfl ?_
    exact Steps.refl _)
  have X8 := X6.wide (L' := []) (cells' := 1) (slots' := len) (fun x hx hlt => by
    simp only [List.nil_append, copyLocs, List.mem_map, List.mem_range] at hx
    obtain ⟨i, -, rfl⟩ := hx
    exact absurd hlt (Nat.lt_irrefl _)) (Nat.le_refl _) (by omega)
  exact ⟨T6, some (.ref s.heap.size), _, _, _, X8, rfl, rfl, rfl, (fun h => by cases h), ⟨⟨rfl, B6, ba3.like (X3.warmed.alike.symm.trans X6.warmed.alike) p6.1 f6.1 f6.2.1 f6.2.2.1, f6.2.1.trans bv3, by rw [X6.warmed.alike.findClass, f6.1]; exact bf3, by rw [f6.2.2.1, bs3]; simp, fun j hj => by rw [f6.2.2.2 j, if_pos (by omega)]; rfl, kp3.put p6 (Nat.le_refl _)⟩, by rw [p6.2.2, bh3, hh0]; simp⟩, fun fs hl => c8.trans (X8.areturnOut hexec rfl hret rfl (hb hbytes d58) hl)⟩
end Cmp3
namespace CodL
def yN : MethodName := ⟨"java/lang/StringUTF16", "coderFromArrayLen", "([BI)B"⟩
abbrev yB : ByteArray := jdk_52_method_15_code
theorem d0 : decode yB 0 = .ok (.iload_n 1, 1) := by decide +kernel
theorem d1 : decode yB 1 = .ok (.aload_n 0, 1) := by decide +kernel
theorem d2 : decode yB 2 = .ok (.arraylength, 1) := by decide +kernel
theorem d3 : decode yB 3 = .ok (.isub, 1) := by decide +kernel
theorem d4 : decode yB 4 = .ok (.bipush 31, 2) := by decide +kernel
theorem d6 : decode yB 6 = .ok (.iushr, 1) := by decide +kernel
theorem d7 : decode yB 7 = .ok (.i2b, 1) := by decide +kernel
theorem d8 : decode yB 8 = .ok (.ireturn, 1) := by decide +kernel
def site : List Cond := []
def tab : Cond := tabOf yN yB 2 (some .byte) site
def P (d : Addr) (B : Cell) (args : Array Value) (s : State) : Prop := args = #[.ref d, .int (Int32.ofNat B.slots.size)] ∧ Arr .byte d B s
def E (r : Option Value) (s u : State) : Prop := XT.PureE (some (.int 0)) r s u
/-- an array as long as the number of chars: LATIN1 -/
theorem law (l : Launch) (d : Addr) (B : Cell) : Law l yN 2 2 0 0 yB 2 (some .byte) site (P d B) E [] 0 0 := by
  refine Law.of_walk (plainFor_of_name (by decide +kernel)) (by decide +kernel) (by decide +kernel) (by decide) (fun _ _ h => by rw [h.1]; rfl) (fun _ U U' hal hh h => ⟨h.1, h.2.mv hal hh⟩) (fun r U U' V V' h1 hal h2 h => XT.PureE.mv r U U' V V' h1 hal h2 h) ?_
  intro p e s m args below meth c s₁ X0 hexec hbytes hml hret hlk hnm hown hh0 W hP
  obtain ⟨rfl, hB⟩ := hP
  have hB0 := hB.mv X0.warmed.alike hh0
  have c1 : Steps p.tables e below (s₁.setTop (entryFrame m #[.ref d, .int (Int32.ofNat B.slots.size)] 2)) (s₁.setTop (mkF m 0 #[.val (.ref d), .val (.int (Int32.ofNat B.slots.size))] [])) := entry rfl
  have c2 : Steps p.tables e below (s₁.setTop (entryFrame m #[.ref d, .int (Int32.ofNat B.slots.size)] 2)) (s₁.setTop (mkF m 2 #[.val (.ref d), .val (.int (Int32.ofNat B.slots.size))] [.ref d, .int (Int32.ofNat B.slots.size)])) := c1.trans (by
    refine XS.iloadN X0.here hexec rfl (hb hbytes d0) rfl ?_
    refine XS.aloadN X0.here hexec rfl (hb hbytes d1) rfl rfl ?_
    exact Steps.refl _)
  have c3 : Steps p.tables e below (s₁.setTop (entryFrame m #[.ref d, .int (Int32.ofNat B.slots.size)] 2)) (s₁.setTop (mkF m 8 #[.val (.ref d), .val (.int (Int32.ofNat B.slots.size))] [.int (lo8 (ushr (Int32.ofNat B.slots.size - Int32.ofNat B.slots.size) 31))])) := c2.trans (by
    refine X0.alen hexec hB0 rfl rfl (hb hbytes d2) ?_
    refine XS.isub X0.here hexec rfl (hb hbytes d3) rfl ?_
    refine bipushV X0.here hexec rfl 31 (hb hbytes d4) (by decide) ?_
    refine iushr X0.here hexec rfl (hb hbytes d6) rfl ?_
    refine i2b X0.here hexec rfl (hb hbytes d7) rfl ?_
    exact Steps.refl _)
  have e0 : lo8 (ushr (Int32.ofNat B.slots.size - Int32.ofNat B.slots.size) 31) = 0 := by rw [Int32.sub_self]; decide
  rw [e0] at c3
  exact ⟨s₁, some (.int 0), _, _, _, X0, rfl, rfl, rfl, (fun h => by cases h), ⟨rfl, hh0⟩, fun fs hl => c3.trans (X0.ireturnOut hexec hret rfl (Or.inr (Or.inr (Or.inl rfl))) (hb hbytes d8) hl)⟩
end CodL
/-- the String at a is Latin-1 over a new byte[] (the heap's one new cell): the low bytes of the len chars of A from o on; every cell but a is kept -/
def Got (a : Addr) (D : Cell) (fV fC : Field) (A : Cell) (o len : Nat) (r : Option Value) (s u : State) : Prop := r = none ∧ ∃ D' V : Cell, Blank "java/lang/String" a D' u ∧ Same D D' [fV.slot, fC.slot] ∧ D'.slots[fV.slot]? = some (.ref s.heap.size) ∧ D'.slots[fC.slot]? = some (.int 0) ∧ Arr .byte s.heap.size V u ∧ V.vm = .none ∧ u.vm.findClass "[B" = some V.cls ∧ V.slots.size = len ∧ (∀ j, j < len → V.slots[j]? = some (.int (lo8 (cv A (o + j))))) ∧ (∀ (y : Addr) (c : Cell), y ≠ a → s.heap[y]? = some c → u.heap[y]? = some c) ∧ u.heap.size = s.heap.size + 1
theorem Got.mv {a : Addr} {D A : Cell} {fV fC : Field} {o len : Nat} : ∀ r (U U' V V' : State), U'.heap = U.heap → V.vm.Alike V'.vm → V'.heap = V.heap → Got a D fV fC A o len r U V → Got a D fV fC A o len r U' V' :=
  fun r U U' V V' h1 hal h2 ⟨e0, D', X, a1, a2, a3, a4, a5, a6, a7, a8, a9, a10, a11⟩ => ⟨e0, D', X, a1.mv hal h2, a2, by rw [h1]; exact a3, a4, by rw [h1]; exact a5.mv hal h2, a6, by rw [hal.findClass]; exact a7, a8, a9, by rw [h1, h2]; exact a10, by rw [h1, h2]; exact a11⟩
namespace New4
def yN : MethodName := ⟨"java/lang/String", "<init>", "([CIILjava/lang/Void;)V"⟩
abbrev yB : ByteArray := jdk_42_method_149_code
theorem d0 : decode yB 0 = .ok (.aload_n 0, 1) := by decide +kernel
theorem d1 : decode yB 1 = .ok (.invokespecial 1, 3) := by decide +kernel
theorem d4 : decode yB 4 = .ok (.iload_n 3, 1) := by decide +kernel
theorem d5 : decode yB 5 = .ok (.ifCond (.ne) 22, 3) := by decide +kernel
theorem d27 : decode yB 27 = .ok (.getstatic 38, 3) := by decide +kernel
theorem d30 : decode yB 30 = .ok (.ifCond (.eq) 28, 3) := by decide +kernel
theorem d33 : decode yB 33 = .ok (.aload_n 1, 1) := by decide +kernel
theorem d34 : decode yB 34 = .ok (.iload_n 2, 1) := by decide +kernel
theorem d35 : decode yB 35 = .ok (.iload_n 3, 1) := by decide +kernel
theorem d36 : decode yB 36 = .ok (.invokestatic 177, 3) := by decide +kernel
theorem d39 : decode yB 39 = .ok (.astore 5, 2) := by decide +kernel
theorem d41 : decode yB 41 = .ok (.aload_n 0, 1) := by decide +kernel
theorem d42 : decode yB 42 = .ok (.aload 5, 2) := by decide +kernel
theorem d44 : decode yB 44 = .ok (.iload_n 3, 1) := by decide +kernel
theorem d45 : decode yB 45 = .ok (.invokestatic 47, 3) := by decide +kernel
theorem d48 : decode yB 48 = .ok (.putfield 15, 3) := by decide +kernel
theorem d51 : decode yB 51 = .ok (.aload_n 0, 1) := by decide +kernel
theorem d52 : decode yB 52 = .ok (.aload 5, 2) := by decide +kernel
theorem d54 : decode yB 54 = .ok (.putfield 9, 3) := by decide +kernel
theorem d57 : decode yB 57 = .ok (.return_, 1) := by decide +kernel
def site : List Cond := [.fieldLink "java/lang/String" 38 "java/lang/String" "COMPACT_STRINGS" "Z", Cmp3.tab, CodL.tab, .laysFinal "java/lang/String" "java/lang/String" "value" "[B", .fieldLink "java/lang/String" 9 "java/lang/String" "value" "[B", .laysFinal "java/lang/String" "java/lang/String" "coder" "B", .fieldLink "java/lang/String" 15 "java/lang/String" "coder" "B"] ++ objW "java/lang/String" 1 ++ staticW "java/lang/String" 177 Cmp3.yN ++ staticW "java/lang/String" 47 CodL.yN
def tab : Cond := tabOf yN yB 6 none site
def P (a : Addr) (D : Cell) (fV fC : Field) (b : Addr) (A : Cell) (z : Int32) (o len : Nat) (args : Array Value) (s : State) : Prop := args = #[.ref a, .ref b, .int (Int32.ofNat o), .int (Int32.ofNat len), .null] ∧ Blank "java/lang/String" a D s ∧ Found "java/lang/String" "value" "[B" fV s ∧ Found "java/lang/String" "coder" "B" fC s ∧ Ch b A s ∧ StaticIs s "java/lang/String" "COMPACT_STRINGS" "Z" (.int z) ∧ ¬ z = 0 ∧ 0 < len ∧ o + len ≤ A.slots.size ∧ len ≤ 536870912 ∧ ∀ i, i < len → ¬ 255 < cv A (o + i)
def E (a : Addr) (D : Cell) (fV fC : Field) (A : Cell) (o len : Nat) (r : Option Value) (s u : State) : Prop := Got a D fV fC A o len r s u
/-- len > 0, no char of the range above 255: a Latin-1 String of their low bytes -/
theorem law (l : Launch) (a : Addr) (D : Cell) (fV fC : Field) (b : Addr) (A : Cell) (z : Int32) (o len : Nat) : Law l yN 5 4 2 35 yB 6 none site (P a D fV fC b A z o len) (E a D fV fC A o len) [⟨a, fC.slot⟩, ⟨a, fV.slot⟩] 1 len := by
  refine Law.of_walk (plainFor_of_name (by decide +kernel)) (by decide +kernel) (by decide +kernel) (by decide) (fun _ _ h => by rw [h.1]; rfl) (fun _ U U' hal hh h => ⟨h.1, h.2.1.mv hal hh, h.2.2.1.al hal, h.2.2.2.1.al hal, h.2.2.2.2.1.mv hal hh, h.2.2.2.2.2.1.there hal hh, h.2.2.2.2.2.2⟩) (fun r U U' V V' h1 hal h2 h => Got.mv r U U' V V' h1 hal h2 h) ?_
  intro p e s m args below meth c s₁ X0 hexec hbytes hml hret hlk hnm hown hh0 W hP
  obtain ⟨rfl, hB, f1, f2, hA, s1, hz, l0, l1, l2, hp⟩ := hP
  have a31 := hA.1.2.2.2
  have c1 : Steps p.tables e below (s₁.setTop (entryFrame m #[.ref a, .ref b, .int (Int32.ofNat o), .int (Int32.ofNat len), .null] 6)) (s₁.setTop (mkF m 0 #[.val (.ref a), .val (.ref b), .val (.int (Int32.ofNat o)), .val (.int (Int32.ofNat len)), .val .null, .unset] [])) := entry rfl
  have c2 : Steps p.tables e below (s₁.setTop (entryFrame m #[.ref a, .ref b, .int (Int32.ofNat o), .int (Int32.ofNat len), .null] 6)) (s₁.setTop (mkF m 1 #[.val (.ref a), .val (.ref b), .val (.int (Int32.ofNat o)), .val (.int (Int32.ofNat len)), .val .null, .unset] [.ref a])) := c1.trans (by
    refine XS.aloadN X0.here hexec rfl (hb hbytes d0) rfl rfl ?_
    exact Steps.refl _)
  obtain ⟨T3, X3, q3, st3⟩ := X0.oinit hexec hown (wks W (objW "java/lang/String" 1)) (g := (mkF m 1 #[.val (.ref a), .val (.ref b), .val (.int (Int32.ofNat o)), .val (.int (Int32.ofNat len)), .val .null, .unset] [.ref a])) rfl (by rw [hml]; rfl) (rest := []) rfl (hb hbytes d1) (W := 0) (by show 2 * 0 + 0 ≤ _; decide) (Nat.le_of_ble_eq_true rfl) (Nat.le_of_ble_eq_true rfl)
  have hh3 := q3.trans hh0
  have c4 : Steps p.tables e below (s₁.setTop (entryFrame m #[.ref a, .ref b, .int (Int32.ofNat o), .int (Int32.ofNat len), .null] 6)) (T3.setTop (mkF m 27 #[.val (.ref a), .val (.ref b), .val (.int (Int32.ofNat o)), .val (.int (Int32.ofNat len)), .val .null, .unset] [])) := (c2.trans (st3 _ (Steps.refl _))).trans (by
    refine XS.iloadN X3.here hexec rfl (hb hbytes d4) rfl ?_
    refine XS.ifYes X3.here hexec rfl (pc0 := 5) rfl (hb hbytes d5) rfl (i0_ne_t (nz32 (by omega) l0)) (by decide) rfl ?_
    exact Steps.refl _)
  obtain ⟨T5, X5, q5, st5⟩ := X3.sget hexec hown (wk W (.fieldLink "java/lang/String" 38 "java/lang/String" "COMPACT_STRINGS" "Z")) s1 (fun _ _ h => by rw [hh3]; exact h) (g := (mkF m 27 #[.val (.ref a), .val (.ref b), .val (.int (Int32.ofNat o)), .val (.int (Int32.ofNat len)), .val .null, .unset] [])) rfl (hb hbytes d27)
  have hh5 := q5.trans hh3
  have c6 : Steps p.tables e below (s₁.setTop (entryFrame m #[.ref a, .ref b, .int (Int32.ofNat o), .int (Int32.ofNat len), .null] 6)) (T5.setTop (mkF m 30 #[.val (.ref a), .val (.ref b), .val (.int (Int32.ofNat o)), .val (.int (Int32.ofNat len)), .val .null, .unset] [.int z])) := c4.trans (st5 _ (Steps.refl _))
  have c7 : Steps p.tables e below (s₁.setTop (entryFrame m #[.ref a, .ref b, .int (Int32.ofNat o), .int (Int32.ofNat len), .null] 6)) (T5.setTop (mkF m 36 #[.val (.ref a), .val (.ref b), .val (.int (Int32.ofNat o)), .val (.int (Int32.ofNat len)), .val .null, .unset] [.int (Int32.ofNat len), .int (Int32.ofNat o), .ref b])) := c6.trans (by
    refine XS.ifNo X5.here hexec rfl (hb hbytes d30) rfl (i0_eq_f hz) ?_
    refine XS.aloadN X5.here hexec rfl (hb hbytes d33) rfl rfl ?_
    refine XS.iloadN X5.here hexec rfl (hb hbytes d34) rfl ?_
    refine XS.iloadN X5.here hexec rfl (hb hbytes d35) rfl ?_
    exact Steps.refl _)
  obtain ⟨v8, T8, X8, E8, g8⟩ := X5.callS hexec (Cmp3.law l b A o len) hown (wks W (staticW "java/lang/String" 177 Cmp3.yN)) (wk W Cmp3.tab) (W := 0) (Nat.le_of_ble_eq_true rfl) (Nat.le_of_ble_eq_true rfl) (Nat.le_refl _) (by show 0 + len ≤ len; omega) (g := (mkF m 36 #[.val (.ref a), .val (.ref b), .val (.int (Int32.ofNat o)), .val (.int (Int32.ofNat len)), .val .null, .unset] [.int (Int32.ofNat len), .int (Int32.ofNat o), .ref b])) rfl (by rw [hml]; rfl) c7 (argsL := [.ref b, .int (Int32.ofNat o), .int (Int32.ofNat len)]) (rest := []) rfl rfl (by show 2 * 0 + 0 ≤ _; decide) (hb hbytes d36) (⟨rfl, hA.mv X5.warmed.alike hh5, l1, l2, hp⟩)
  obtain ⟨e8, z8⟩ := E8
  obtain ⟨rfl, N, n1, n2, n3, n4, n5, n6⟩ := NewArr.mv _ T5 s _ _ hh5.symm (Vm.Alike.refl _) rfl e8
  rw [hh5] at z8
  have hB1 := hB.keep X8.warmed.alike (n6 _ _ hB.1)
  have hne : s.heap.size ≠ a := (Nat.ne_of_lt (Array.getElem?_eq_some_iff.mp hB.1).1).symm
  have c9 : Steps p.tables e below (s₁.setTop (entryFrame m #[.ref a, .ref b, .int (Int32.ofNat o), .int (Int32.ofNat len), .null] 6)) (T8.setTop (mkF m 39 #[.val (.ref a), .val (.ref b), .val (.int (Int32.ofNat o)), .val (.int (Int32.ofNat len)), .val .null, .unset] [.ref s.heap.size])) := g8
  have c10 : Steps p.tables e below (s₁.setTop (entryFrame m #[.ref a, .ref b, .int (Int32.ofNat o), .int (Int32.ofNat len), .null] 6)) (T8.setTop (mkF m 45 #[.val (.ref a), .val (.ref b), .val (.int (Int32.ofNat o)), .val (.int (Int32.ofNat len)), .val .null, .val (.ref s.heap.size)] [.int (Int32.ofNat N.slots.size), .ref s.heap.size, .ref a])) := by
    have hc : Steps p.tables e below (s₁.setTop (entryFrame m #[.ref a, .ref b, .int (Int32.ofNat o), .int (Int32.ofNat len), .null] 6)) (T8.setTop (mkF m 45 #[.val (.ref a), .val (.ref b), .val (.int (Int32.ofNat o)), .val (.int (Int32.ofNat len)), .val .null, .val (.ref s.heap.size)] [.int (Int32.ofNat len), .ref s.heap.size, .ref a])) := c9.trans (by
      refine XS.astore X8.here hexec rfl (hb hbytes d39) rfl rfl rfl ?_
      refine XS.aloadN X8.here hexec rfl (hb hbytes d41) rfl rfl ?_
      refine XS.aload X8.here hexec rfl (hb hbytes d42) rfl rfl ?_
      refine XS.iloadN X8.here hexec rfl (hb hbytes d44) rfl ?_
      exact Steps.refl _)
    rw [n4]; exact hc
  obtain ⟨v11, T11, X11, E11, g11⟩ := X8.callS hexec (CodL.law l s.heap.size N) hown (wks W (staticW "java/lang/String" 47 CodL.yN)) (wk W CodL.tab) (W := 1) (Nat.le_of_ble_eq_true rfl) (Nat.le_of_ble_eq_true rfl) (Nat.le_refl _) (by show 0 + len + 0 ≤ len; omega) (g := (mkF m 45 #[.val (.ref a), .val (.ref b), .val (.int (Int32.ofNat o)), .val (.int (Int32.ofNat len)), .val .null, .val (.ref s.heap.size)] [.int (Int32.ofNat N.slots.size), .ref s.heap.size, .ref a])) rfl (by rw [hml]; rfl) c10 (argsL := [.ref s.heap.size, .int (Int32.ofNat N.slots.size)]) (rest := [.ref a]) rfl rfl (by show 2 * 0 + (1 + 0) ≤ _; decide) (hb hbytes d45) (⟨rfl, n1⟩)
  obtain ⟨rfl, q11⟩ := E11
  have hB11 := hB1.mv (X8.warmed.alike.symm.trans X11.warmed.alike) q11
  have c12 : Steps p.tables e below (s₁.setTop (entryFrame m #[.ref a, .ref b, .int (Int32.ofNat o), .int (Int32.ofNat len), .null] 6)) (T11.setTop (mkF m 48 #[.val (.ref a), .val (.ref b), .val (.int (Int32.ofNat o)), .val (.int (Int32.ofNat len)), .val .null, .val (.ref s.heap.size)] [.int 0, .ref a])) := g11
  obtain ⟨T13, X13, p13, bl13, sl13, st13⟩ := X11.finit hexec hown (wk W (.fieldLink "java/lang/String" 15 "java/lang/String" "coder" "B")) (Or.inr ⟨_, (wk W (.laysFinal "java/lang/String" "java/lang/String" "coder" "B"))⟩) (Or.inl ⟨rfl, hnm⟩) f2 (Or.inl rfl) hB11 (t := .byte) (by decide +kernel) rfl (g := (mkF m 48 #[.val (.ref a), .val (.ref b), .val (.int (Int32.ofNat o)), .val (.int (Int32.ofNat len)), .val .null, .val (.ref s.heap.size)] [.int 0, .ref a])) rfl (rest := []) rfl (hb hbytes d48)
  have c14 : Steps p.tables e below (s₁.setTop (entryFrame m #[.ref a, .ref b, .int (Int32.ofNat o), .int (Int32.ofNat len), .null] 6)) (T13.setTop (mkF m 54 #[.val (.ref a), .val (.ref b), .val (.int (Int32.ofNat o)), .val (.int (Int32.ofNat len)), .val .null, .val (.ref s.heap.size)] [.ref s.heap.size, .ref a])) := (c12.trans (st13 _ (Steps.refl _))).trans (by
    refine XS.aloadN X13.here hexec rfl (hb hbytes d51) rfl rfl ?_
    refine XS.aload X13.here hexec rfl (hb hbytes d52) rfl rfl ?_
    exact Steps.refl _)
  obtain ⟨T15, X15, p15, bl15, sl15, st15⟩ := X13.finit hexec hown (wk W (.fieldLink "java/lang/String" 9 "java/lang/String" "value" "[B")) (Or.inr ⟨_, (wk W (.laysFinal "java/lang/String" "java/lang/String" "value" "[B"))⟩) (Or.inl ⟨rfl, hnm⟩) f1 (Or.inl rfl) bl13 (t := (.array .byte)) (by decide +kernel) rfl (g := (mkF m 54 #[.val (.ref a), .val (.ref b), .val (.int (Int32.ofNat o)), .val (.int (Int32.ofNat len)), .val .null, .val (.ref s.heap.size)] [.ref s.heap.size, .ref a])) rfl (rest := []) rfl (hb hbytes d54)
  have c16 : Steps p.tables e below (s₁.setTop (entryFrame m #[.ref a, .ref b, .int (Int32.ofNat o), .int (Int32.ofNat len), .null] 6)) (T15.setTop (mkF m 57 #[.val (.ref a), .val (.ref b), .val (.int (Int32.ofNat o)), .val (.int (Int32.ofNat len)), .val .null, .val (.ref s.heap.size)] [])) := c14.trans (st15 _ (Steps.refl _))
  have ap := apart (Or.inr ⟨_, (wk W (.laysFinal "java/lang/String" "java/lang/String" "value" "[B"))⟩) (Or.inr ⟨_, (wk W (.laysFinal "java/lang/String" "java/lang/String" "coder" "B"))⟩) f1 f2 (t₁ := .array .byte) (t₂ := .byte) (by decide +kernel) (by decide +kernel) (by decide)
  have al := X8.warmed.alike.symm.trans X15.warmed.alike
  have n7 : T11.heap[s.heap.size]? = some N := by rw [q11]; exact n1.1
  exact ⟨T15, none, _, _, _, X15, by simp, rfl, by omega, (fun _ => rfl), ⟨rfl, _, N, bl15, ((Same.refl D _).set _ (by simp)).set _ (by simp), sl15, (Cell.slots_setSlot_ne _ ap).trans sl13, n1.keep al (p15.other hne (p13.other hne n7)), n2, by rw [al.findClass]; exact n3, n4, n5, fun y c h1 h2 => p15.other h1 (p13.other h1 (by rw [q11]; exact n6 y c h2)), by rw [p15.2.2, p13.2.2, q11]; exact z8⟩, fun fs hl => c16.trans (X15.returnOut hexec hret (hb hbytes d57) hl)⟩
end New4
namespace New1
def yN : MethodName := ⟨"java/lang/String", "<init>", "([C)V"⟩
abbrev yB : ByteArray := jdk_42_method_3_code
theorem d0 : decode yB 0 = .ok (.aload_n 0, 1) := by decide +kernel
theorem d1 : decode yB 1 = .ok (.aload_n 1, 1) := by decide +kernel
theorem d2 : decode yB 2 = .ok (.iconst 0, 1) := by decide +kernel
theorem d3 : decode yB 3 = .ok (.aload_n 1, 1) := by decide +kernel
theorem d4 : decode yB 4 = .ok (.arraylength, 1) := by decide +kernel
theorem d5 : decode yB 5 = .ok (.aconst_null, 1) := by decide +kernel
theorem d6 : decode yB 6 = .ok (.invokespecial 27, 3) := by decide +kernel
theorem d9 : decode yB 9 = .ok (.return_, 1) := by decide +kernel
def site : List Cond := [New4.tab] ++ initW "java/lang/String" 27 New4.yN
def tab : Cond := tabOf yN yB 2 none site
def P (a : Addr) (D : Cell) (fV fC : Field) (b : Addr) (A : Cell) (z : Int32) (args : Array Value) (s : State) : Prop := args = #[.ref a, .ref b] ∧ Blank "java/lang/String" a D s ∧ Found "java/lang/String" "value" "[B" fV s ∧ Found "java/lang/String" "coder" "B" fC s ∧ Ch b A s ∧ StaticIs s "java/lang/String" "COMPACT_STRINGS" "Z" (.int z) ∧ ¬ z = 0 ∧ 0 < A.slots.size ∧ A.slots.size ≤ 536870912 ∧ ∀ i, i < A.slots.size → ¬ 255 < cv A i
def E (a : Addr) (D : Cell) (fV fC : Field) (A : Cell) (r : Option Value) (s u : State) : Prop := Got a D fV fC A 0 A.slots.size r s u
/-- new String(chars), not empty, no char above 255: a Latin-1 String of their low bytes -/
theorem law (l : Launch) (a : Addr) (D : Cell) (fV fC : Field) (b : Addr) (A : Cell) (z : Int32) : Law l yN 2 1 3 52 yB 2 none site (P a D fV fC b A z) (E a D fV fC A) [⟨a, fC.slot⟩, ⟨a, fV.slot⟩] 1 A.slots.size := by
  refine Law.of_walk (plainFor_of_name (by decide +kernel)) (by decide +kernel) (by decide +kernel) (by decide) (fun _ _ h => by rw [h.1]; rfl) (fun _ U U' hal hh h => ⟨h.1, h.2.1.mv hal hh, h.2.2.1.al hal, h.2.2.2.1.al hal, h.2.2.2.2.1.mv hal hh, h.2.2.2.2.2.1.there hal hh, h.2.2.2.2.2.2⟩) (fun r U U' V V' h1 hal h2 h => Got.mv r U U' V V' h1 hal h2 h) ?_
  intro p e s m args below meth c s₁ X0 hexec hbytes hml hret hlk hnm hown hh0 W hP
  obtain ⟨rfl, hB, f1, f2, hA, s1, hz, l0, l2, hp⟩ := hP
  have c1 : Steps p.tables e below (s₁.setTop (entryFrame m #[.ref a, .ref b] 2)) (s₁.setTop (mkF m 0 #[.val (.ref a), .val (.ref b)] [])) := entry rfl
  have c2 : Steps p.tables e below (s₁.setTop (entryFrame m #[.ref a, .ref b] 2)) (s₁.setTop (mkF m 6 #[.val (.ref a), .val (.ref b)] [.null, .int (Int32.ofNat A.slots.size), .int 0, .ref b, .ref a])) := c1.trans (by
    refine XS.aloadN X0.here hexec rfl (hb hbytes d0) rfl rfl ?_
    refine XS.aloadN X0.here hexec rfl (hb hbytes d1) rfl rfl ?_
    refine iconstV X0.here hexec rfl 0 (hb hbytes d2) (by decide) ?_
    refine XS.aloadN X0.here hexec rfl (hb hbytes d3) rfl rfl ?_
    refine X0.alen hexec (hA.1.mv X0.warmed.alike hh0) rfl rfl (hb hbytes d4) ?_
    refine XS.aconstNull X0.here hexec rfl (hb hbytes d5) ?_
    exact Steps.refl _)
  obtain ⟨v3, T3, X3, E3, g3⟩ := X0.callN hexec (New4.law l a D fV fC b A z 0 A.slots.size) rfl hown (wks W (initW "java/lang/String" 27 New4.yN)) (W New4.tab (by simp only [site, List.mem_cons, List.mem_append, true_or, or_true])) (W := 0) (Nat.le_of_ble_eq_true rfl) (Nat.le_of_ble_eq_true rfl) (Nat.le_refl _) (by show 0 + A.slots.size ≤ A.slots.size; omega) (g := (mkF m 6 #[.val (.ref a), .val (.ref b)] [.null, .int (Int32.ofNat A.slots.size), .int (Int32.ofNat 0), .ref b, .ref a])) rfl (by rw [hml]; rfl) c2 (argsL := [.ref b, .int (Int32.ofNat 0), .int (Int32.ofNat A.slots.size), .null]) (rest := []) rfl rfl (by show 2 * 0 + 0 ≤ _; decide) (hb hbytes d6) (⟨rfl, hB.mv X0.warmed.alike hh0, f1.al X0.warmed.alike, f2.al X0.warmed.alike, hA.mv X0.warmed.alike hh0, s1.there X0.warmed.alike hh0, hz, l0, by omega, l2, fun i hi => by rw [Nat.zero_add]; exact hp i hi⟩)
  have e0 := Got.mv _ s₁ s _ _ hh0.symm (Vm.Alike.refl _) rfl E3
  obtain rfl := e0.1
  have c4 : Steps p.tables e below (s₁.setTop (entryFrame m #[.ref a, .ref b] 2)) (T3.setTop (mkF m 9 #[.val (.ref a), .val (.ref b)] [])) := g3
  exact ⟨T3, none, _, _, _, X3, by simp, rfl, by omega, (fun _ => rfl), e0, fun fs hl => c4.trans (X3.returnOut hexec hret (hb hbytes d9) hl)⟩
theorem pays {l : Launch} {R : Room} {p : Program} {e : Env} {below : List Frame} {s : State} {sargs : Array Value} {len W : Nat} (a : Addr) (D : Cell) (fV fC : Field) (b : Addr) (A : Cell) (z : Int32) (htab : tab.before sargs s = true) (hfr : 4 ≤ R.frames) (hlo : W + 65 ≤ R.locals) :
    Back l R p e below s sargs yN len W (fun A₁ a₁ => A₁.cells + 1 ≤ R.cells ∧ A₁.slots + A.slots.size ≤ R.slots ∧ P a D fV fC b A z a₁ A₁.U) (fun A₁ _ v₁ B₁ => E a D fV fC A v₁ A₁.U B₁.U ∧ B₁.locs = A₁.locs ++ [⟨a, fC.slot⟩, ⟨a, fV.slot⟩] ∧ B₁.cells = A₁.cells + 1 ∧ B₁.slots = A₁.slots + A.slots.size) :=
  (law l a D fV fC b A z).pays htab hfr (by omega)
end New1
end StrChars
namespace StrChars.Road
open Jvm Sem ClassFile Op Lib Jvm.Stand Jvm.Free Jvm.Free.XT
open Jvm.Lib.Cold (StaticIs)
abbrev ST : String := "java/lang/String"
/-- every table word that New1's law asks, flat -/
abbrev words : List Jvm.Cond := [.code New1.yN New1.yB 2 none, .initialized ST, .methodLink ST 27 New4.yN, .instanceMethod New4.yN,
  .code New4.yN New4.yB 6 none, .fieldLink ST 38 ST "COMPACT_STRINGS" "Z", .laysFinal ST ST "value" "[B", .fieldLink ST 9 ST "value" "[B", .laysFinal ST ST "coder" "B", .fieldLink ST 15 ST "coder" "B",
  .methodLink ST 1 Lib.objectInit, .instanceMethod Lib.objectInit, .code Lib.objectInit ⟨#[0xb1]⟩ 1 none, .methodLink ST 177 Cmp3.yN, .static Cmp3.yN, .methodLink ST 47 CodL.yN, .static CodL.yN,
  .code Cmp3.yN Cmp3.yB 6 (some (.array .byte)), .initialized U16, .arrayClass .byte, .methodLink U16 115 Cmp5.yN, .static Cmp5.yN, .code Cmp5.yN Cmp5.yB 7 (some .int), .code CodL.yN CodL.yB 2 (some .byte)]
theorem tab_of {a : Array Value} {s : State} (h : ∀ w ∈ words, w.before a s = true) : New1.tab.before a s = true := by
  have h5 : Cmp5.tab.before a s = true := unparts (wk h (.code Cmp5.yN Cmp5.yB 7 (some .int))) (wks h (.initialized Cmp5.yN.cls :: Cmp5.site))
  have hc : CodL.tab.before a s = true := unparts (wk h (.code CodL.yN CodL.yB 2 (some .byte))) (wks h (.initialized CodL.yN.cls :: CodL.site))
  have q5 : ∀ w ∈ Cmp5.tab :: words, w.before a s = true := fun w hw => (List.mem_cons.mp hw).elim (fun e => e ▸ h5) (h w)
  have h3 : Cmp3.tab.before a s = true := unparts (wk q5 (.code Cmp3.yN Cmp3.yB 6 (some (.array .byte)))) (wks q5 (.initialized Cmp3.yN.cls :: Cmp3.site))
  have q3 : ∀ w ∈ Cmp3.tab :: CodL.tab :: words, w.before a s = true := fun w hw => (List.mem_cons.mp hw).elim (fun e => e ▸ h3) fun hw => (List.mem_cons.mp hw).elim (fun e => e ▸ hc) (h w)
  have h4 : New4.tab.before a s = true := unparts (wk q3 (.code New4.yN New4.yB 6 none)) (wks q3 (.initialized New4.yN.cls :: New4.site))
  have q4 : ∀ w ∈ New4.tab :: words, w.before a s = true := fun w hw => (List.mem_cons.mp hw).elim (fun e => e ▸ h4) (h w)
  exact unparts (wk q4 (.code New1.yN New1.yB 2 none)) (wks q4 (.initialized New1.yN.cls :: New1.site))
/-- the words ride from the start Z to the walk's own state -/
theorem moved {Z s : State} {a0 args : Array Value} (hZ : Z.Warmed39 s.vm) (hw : ∀ d ∈ words, d.before a0 Z = true) : ∀ d ∈ words, d.before args s = true := fun d hd => by
  have q := hw d hd
  have t : ∀ d ∈ words, d = .arrayClass .byte ∨ (d.onTables && d.keepsFace) = true := by decide +kernel
  rcases t d hd with rfl | t
  · exact RoadKit.mvA hZ q
  · exact RoadKit.mv hZ q t
/-- WHAT COMES BACK, over the tables of the start Z: h the heap at the call, h' behind it -/
def Q (Z : State) (x : Addr) (A : Cell) (h : Heap) (v : Option Value) (h' : Heap) (L : List Loc) : Prop := v = none ∧ (∀ y ∈ L, y.base = x) ∧ RoadKit.Keep h h' [x] ∧ h'.size = h.size + 1 ∧ RoadKit.Exa Z h' x ST ∧ RoadKit.Fld Z h' x ST "value" "[B" (.ref h.size) ∧ RoadKit.Fld Z h' x ST "coder" "B" (.int 0) ∧
  (∃ V : Cell, RoadKit.Arr Z h' h.size V .byte ∧ V.vm = .none ∧ Z.vm.findClass "[B" = some V.cls ∧ V.slots.size = A.slots.size ∧ ∀ j, j < A.slots.size → V.slots[j]? = some (.int (lo8 (cv A j)))) ∧
  ∀ (O n d : String) (w : Value), RoadKit.Fld Z h x O n d w → RoadKit.slotOf Z O n d ≠ RoadKit.slotOf Z ST "value" "[B" → RoadKit.slotOf Z O n d ≠ RoadKit.slotOf Z ST "coder" "B" → RoadKit.Fld Z h' x O n d w
/-- **new String(chars) AT A CALL, IN THE ROAD'S FORM**: for specialBack behind newO: x the fresh String, b the char[] with the cell A -/
theorem back {p : Program} {l : Launch} {e : Env} {R : Room} {s : State} {args : Array Value} {below : List Frame} {len W : Nat} {Z : State} {a0 : Array Value} {h : Heap} (hZ : Z.Warmed39 s.vm) (hw : ∀ d ∈ words, d.before a0 Z = true) {kI : Nat} (wi : (Jvm.Cond.instantiable ST kI).before a0 Z = true)
    {x b : Addr} {A : Cell} {z : Int32} {v0 c0 : Value} (E : RoadKit.Exa Z h x ST) (V : RoadKit.Fld Z h x ST "value" "[B" v0) (C : RoadKit.Fld Z h x ST "coder" "B" c0) (K : RoadKit.Arr Z h b A .char) (hty : Typed .char A) (S : RoadKit.Sta Z h ST "COMPACT_STRINGS" "Z" (.int z)) (hz : ¬ z = 0)
    (l0 : 0 < A.slots.size) (l2 : A.slots.size ≤ 536870912) (hp : ∀ i, i < A.slots.size → ¬ 255 < cv A i) (hfr : 4 ≤ R.frames) (hlo : W + 65 ≤ R.locals) :
    Back l R p e below s args New1.yN len W (fun P a => a = #[.ref x, .ref b] ∧ P.U.heap = h ∧ P.cells + 1 ≤ R.cells ∧ P.slots + A.slots.size ≤ R.slots)
      (fun P _ v B => ∃ L, Q Z x A h v B.U.heap L ∧ B.locs = P.locs ++ L ∧ B.cells = P.cells + 1 ∧ B.slots = P.slots + A.slots.size) := by
  intro m meth c P g ig mk a X hg hsize hdg hW hn hp'
  obtain ⟨rfl, rfl, r1, r2⟩ := hp'
  have al : Z.vm.Alike P.U.vm := hZ.alike.trans X.warmed.alike
  obtain ⟨D, cfV, kV, iV, fV, hD, gV, stV, knV, obV, asV, slV⟩ := id V
  obtain ⟨D', cfC, kC, iC, fC, hD', gC, stC, -, -, asC, slC⟩ := id C
  cases hD.symm.trans hD'
  obtain ⟨D2, kD, e1, e2, e3, e4, e5⟩ := id E
  cases hD.symm.trans e1
  obtain ⟨c2, k2, i1, i2, i3, -⟩ := Cond.instantiable_spec wi
  cases e2.symm.trans i1
  cases e3.symm.trans i2
  obtain ⟨kU, u1, u2⟩ := al.2.2 _ _ e3
  have hB : Blank ST x D P.U := ⟨hD, ⟨knV, fun q hq => by rw [hq] at obV; cases obV⟩, by rw [al.findClass]; exact e2, kU, u1, by rw [u2]; exact i3, by rw [u2]; exact e5 i3⟩
  have F1 : Found ST "value" "[B" fV P.U := ⟨SBG.found_only al ⟨cfV, kV, iV, gV⟩, stV⟩
  have F2 : Found ST "coder" "B" fC P.U := ⟨SBG.found_only al ⟨cfC, kC, iC, gC⟩, stC⟩
  have hA : Ch b A P.U := ⟨⟨K.1, State.isArrayOf_alike al K.2.1, K.2.2, by omega⟩, hty⟩
  have hS : StaticIs P.U ST "COMPACT_STRINGS" "Z" (.int z) := by
    obtain ⟨cfS, iS, kS, fS, st, cS, t1, t2, t3, t4, t5, t6, t7⟩ := S
    exact StaticIs.there (s := { Z with heap := P.U.heap }) ⟨cfS, iS, kS, fS, st, cS, t1, t2, t3, t4, t5, (fun q => by rw [q] at t6; cases t6), t7⟩ al rfl
  obtain ⟨v, B, X', ⟨⟨hv, E', V', q1, q2, q3, q4, q5, q6, q7, q8, q9, q10, q11⟩, hl, hc, hs⟩, st⟩ := New1.pays x D fV fC b A z (tab_of (moved hZ hw)) hfr hlo m meth c P g ig mk _ X hg hsize hdg hW hn ⟨r1, r2, rfl, hB, F1, F2, hA, hS, hz, l0, l2, hp⟩
  have al' : Z.vm.Alike B.U.vm := hZ.alike.trans X'.warmed.alike
  have hsz : E'.slots.size = D.slots.size := by
    obtain ⟨-, -, -, kB, w1, w2, w3⟩ := q1
    obtain ⟨kB', y1, y2⟩ := al'.2.2 _ _ e3
    rw [q2.2.1] at w1
    cases w1.symm.trans y1
    rw [w3, e5 i3, y2]
  refine ⟨v, B, X', ⟨_, ⟨hv, ?_, ⟨by omega, fun y cy hy hn' => q10 y cy (by simpa using hn') hy, fun y cy hy => ?_⟩, q11, ⟨E', _, q1.1, by rw [q2.2.1]; exact e2, by rw [q2.2.1]; exact e3, by rw [q2.1]; exact obV, fun _ => by rw [hsz]; exact e5 i3⟩,
    ⟨E', cfV, kV, iV, fV, q1.1, gV, stV, by rw [q2.1]; exact knV, by rw [q2.1]; exact obV, by rw [q2.2.1]; exact asV, q3⟩, ⟨E', cfC, kC, iC, fC, q1.1, gC, stC, by rw [q2.1]; exact knV, by rw [q2.1]; exact obV, by rw [q2.2.1]; exact asC, q4⟩,
    ⟨V', ⟨q5.1, State.isArrayOf_alike al'.symm q5.2.1, q5.2.2.1⟩, q6, by rw [← al'.findClass]; exact q7, q8, fun j hj => by have := q9 j hj; rwa [Nat.zero_add] at this⟩, fun O n d w F n1 n2 => ?_⟩, hl, hc, hs⟩, st⟩
  · intro y hy
    simp only [List.mem_cons, List.not_mem_nil, or_false] at hy
    rcases hy with rfl | rfl <;> rfl
  · by_cases q : y = x
    · subst q
      cases hD.symm.trans hy
      exact ⟨E', q1.1, q2.2.1, q2.1, hsz⟩
    · exact ⟨cy, q10 y cy q hy, rfl, rfl, rfl⟩
  · obtain ⟨D3, cf, k, i, f, g1, g2, g3, g4, g5, g6, g7⟩ := F
    cases hD.symm.trans g1
    simp only [RoadKit.slotOf, g2, gV, gC, Option.map_some, Option.getD_some] at n1 n2
    exact ⟨E', cf, k, i, f, q1.1, g2, g3, by rw [q2.1]; exact g4, by rw [q2.1]; exact g5, by rw [q2.2.1]; exact g6, by rw [q2.2.2 f.slot (by simp [n1, n2])]; exact g7⟩
end StrChars.Road
namespace StrChars.Road
open Jvm Sem ClassFile Op Lib Jvm.Stand Jvm.Free Jvm.Free.XT
/-- WHAT COMES BACK, the byte[] as a list of values -/
def QA (Z : State) (x : Addr) (zn : Int32) (cs : List Int32) (h : Heap) (v : Option Value) (h' : Heap) (L : List Loc) : Prop := v = none ∧ (∀ y ∈ L, y.base = x) ∧ RoadKit.Keep h h' [x] ∧ h'.size = h.size + 1 ∧ RoadKit.Exa Z h' x ST ∧ RoadKit.Fld Z h' x ST "value" "[B" (.ref h.size) ∧ RoadKit.Fld Z h' x ST "coder" "B" (.int 0) ∧
  (∃ kb, Z.vm.findClass "[B" = some kb ∧ RoadKit.Arv Z h' h.size kb .byte zn (cs.map fun c => .int (lo8 c)) (.int 0)) ∧
  ∀ (O n d : String) (w : Value), RoadKit.Fld Z h x O n d w → RoadKit.slotOf Z O n d ≠ RoadKit.slotOf Z ST "value" "[B" → RoadKit.slotOf Z O n d ≠ RoadKit.slotOf Z ST "coder" "B" → RoadKit.Fld Z h' x O n d w
/-- **new String(chars) AT A CALL, THE ARRAYS AS LISTS**: the char[] at b holds cs, not empty, no char above 255 -/
theorem backArv {p : Program} {l : Launch} {e : Env} {R : Room} {s : State} {args : Array Value} {below : List Frame} {len W : Nat} {Z : State} {a0 : Array Value} {h : Heap} (hZ : Z.Warmed39 s.vm) (hw : ∀ d ∈ words, d.before a0 Z = true) {kI : Nat} (wi : (Jvm.Cond.instantiable ST kI).before a0 Z = true)
    {x b : Addr} {k : ClassId} {zn z : Int32} {cs : List Int32} {dv v0 c0 : Value} (E : RoadKit.Exa Z h x ST) (V : RoadKit.Fld Z h x ST "value" "[B" v0) (C : RoadKit.Fld Z h x ST "coder" "B" c0) (K : RoadKit.Arv Z h b k .char zn (cs.map Value.int) dv) (S : RoadKit.Sta Z h ST "COMPACT_STRINGS" "Z" (.int z)) (hz : ¬ z = 0)
    (hlen : zn.toNatClampNeg = cs.length) (h0 : 0 < cs.length) (hbig : cs.length ≤ 536870912) (hall : ∀ c ∈ cs, ¬ 255 < c) (hfr : 4 ≤ R.frames) (hlo : W + 65 ≤ R.locals) :
    Back l R p e below s args New1.yN len W (fun P a => a = #[.ref x, .ref b] ∧ P.U.heap = h ∧ P.cells + 1 ≤ R.cells ∧ P.slots + cs.length ≤ R.slots)
      (fun P _ v B => ∃ L, QA Z x zn cs h v B.U.heap L ∧ B.locs = P.locs ++ L ∧ B.cells = P.cells + 1 ∧ B.slots = P.slots + cs.length) := by
  obtain ⟨A, K1, K2, K3, K4, K5, K6⟩ := K
  have e : A.slots.size = cs.length := K3.trans hlen
  have hat : ∀ (i : Nat) (hi : i < cs.length), A.slots[i]? = some (.int cs[i]) := fun i hi => by rw [K5 i (by omega)]; simp [List.getD_eq_getElem?_getD, hi]
  have hcv : ∀ (i : Nat) (hi : i < cs.length), cv A i = cs[i] := fun i hi => by unfold cv; rw [hat i hi]
  have hty : Typed .char A := fun i v hv => by
    have hi : i < A.slots.size := (Array.getElem?_eq_some_iff.mp hv).1
    have q := K5 i hi
    rw [hv] at q
    rw [Option.some.inj q]
    exact K6 i hi
  refine Back.mono (back hZ hw wi E V C K1 hty S hz (by omega) (by omega) (fun i hi => by rw [hcv i (by omega)]; exact hall _ (List.getElem_mem _)) hfr hlo) (fun P a hp => ⟨hp.1, hp.2.1, hp.2.2.1, by rw [e]; exact hp.2.2.2⟩) (fun P a v B hp hq => ?_)
  obtain ⟨L, ⟨q1, q2, q3, q4, q5, q6, q7, ⟨V', v1, v2, v3, v4, v5⟩, q9⟩, hl, hc, hs⟩ := hq
  refine ⟨L, ⟨q1, q2, q3, q4, q5, q6, q7, ⟨V'.cls, v3, V', v1, rfl, by rw [v4, e, hlen], K4, fun i hi => ?_, fun i hi => ?_⟩, q9⟩, hl, hc, by rw [hs, e]⟩
  · have hi' : i < cs.length := by omega
    rw [v5 i (by omega), hcv i hi']; simp [List.getD_eq_getElem?_getD, hi']
  · have hi' : i < cs.length := by omega
    simp only [List.getD_eq_getElem?_getD, List.getElem?_map, List.getElem?_eq_getElem hi', Option.map_some, Option.getD_some]
    exact fits_lo8 _
end StrChars.Road
namespace StrChars.Road
open Jvm Sem ClassFile Op Lib Jvm.Stand Jvm.Free Jvm.Free.XT
/-- WHAT COMES BACK, in the writer's own shape -/
def QV (Z : State) (x : Addr) (N : Int32) (bs : List Int32) (h : Heap) (n0 : Nat) (v : Option Value) (h' : Heap) (L : List Loc) : Prop := v = none ∧ RoadKit.Fr n0 L ∧ RoadKit.Keep h h' [x] ∧ RoadKit.Exa Z h' x ST ∧ RoadKit.Fld Z h' x ST "coder" "B" (.int 0) ∧
  ∃ (t : Addr) (kb : ClassId), n0 ≤ t ∧ h.size ≤ t ∧ ¬ t = x ∧ RoadKit.Fld Z h' x ST "value" "[B" (.ref t) ∧ RoadKit.Arv Z h' t kb .byte N (bs.map Value.int) (.int 0)
/-- **new String(chars) AT A CALL, FOR THE WRITER**: a char[] of n known ints, each 0 to 255 -/
theorem backV {p : Program} {l : Launch} {e : Env} {R : Room} {s : State} {args : Array Value} {below : List Frame} {len W : Nat} {Z : State} {a0 : Array Value} {h : Heap} (hZ : Z.Warmed39 s.vm) (hw : ∀ d ∈ words, d.before a0 Z = true) {kI : Nat} (wi : (Jvm.Cond.instantiable ST kI).before a0 Z = true)
    {x b : Addr} {kC : ClassId} {cs bs : List Int32} {d v0 c0 : Value} {z N : Int32} {n n0 : Nat} (hx0 : n0 ≤ x) (hh0 : n0 ≤ h.size) (E : RoadKit.Exa Z h x ST) (V : RoadKit.Fld Z h x ST "value" "[B" v0) (C : RoadKit.Fld Z h x ST "coder" "B" c0) (K : RoadKit.Arv Z h b kC .char N (cs.map Value.int) d) (S : RoadKit.Sta Z h ST "COMPACT_STRINGS" "Z" (.int z)) (hz : ¬ z = 0)
    (hn : cs.length = n) (hN : N = Int32.ofNat n) (l0 : 0 < n) (l2 : n ≤ 4000) (hp : ∀ c ∈ cs, ¬ c < 0 ∧ ¬ (255 : Int32) < c) (hb : bs = cs.map (fun c => c.toInt8.toInt32)) (hfr : 4 ≤ R.frames) (hlo : W + 65 ≤ R.locals) :
    Back l R p e below s args (⟨"java/lang/String", "<init>", "([C)V"⟩ : MethodName) len W (fun P a => a = #[.ref x, .ref b] ∧ P.U.heap = h ∧ P.cells + 1 ≤ R.cells ∧ P.slots + n ≤ R.slots)
      (fun P _ v B => ∃ L, QV Z x N bs h n0 v B.U.heap L ∧ B.locs = P.locs ++ L ∧ B.cells = P.cells + 1 ∧ B.slots = P.slots + n) := by
  subst hn hN hb
  refine Back.mono (backArv hZ hw wi E V C K S hz (n32 (by omega)) l0 (by omega) (fun c hc => (hp c hc).2) hfr hlo) (fun P a hp => hp) (fun P a v B hp hq => ?_)
  obtain ⟨L, ⟨q1, q2, q3, q4, q5, q6, q7, ⟨kb, v1, v2⟩, q9⟩, hl, hc, hs⟩ := hq
  exact ⟨L, ⟨q1, fun y hy => by rw [q2 y hy]; exact hx0, q3, q5, q7, h.size, kb, hh0, Nat.le_refl _, Nat.ne_of_gt E.lt, q6, by rw [List.map_map]; exact v2⟩, hl, hc, hs⟩
end StrChars.Road
end Jvm.Pilot.@@N@@
namespace Jvm.Pilot.@@N@@
open Jvm Jvm.ClassFile Sem Op Lib Jvm.Free Jvm.Stand Jvm.LawKit Jvm.RoadKit Bundle Jvm.Pilot.@@N@@.Jvm.D

def own_EL : List (String × Nat) := [("java/lang/String", 7)]
theorem own_txt76 : (∀ c ∈ "".toList, c.toNat < 256) ∧ "".toList.map (fun c => Value.int (Jvm.Lit.byteI c.toNat.toUInt16)) = [] := ⟨fun c hc => by simp at hc, rfl⟩
theorem own_hEL {Z : State} {a0 : Array Value} (hw : ∀ d ∈ tables_1, d.before a0 Z = true) : EW Z a0 own_EL := EW.cons (hw _ (List.mem_of_getElem? (i := 76) rfl)) own_txt76.1 EW.nil
theorem own_wS {Z : State} {a0 : Array Value} (hw : ∀ d ∈ tables_1, d.before a0 Z = true) : ∀ a ∈ Bundle.stringAtoms, a.before a0 Z = true := by
  intro a ha
  simp only [Bundle.stringAtoms, List.mem_cons, List.not_mem_nil, or_false] at ha
  rcases ha with rfl | rfl | rfl | rfl | rfl | rfl | rfl
  · exact (hw _ (List.mem_of_getElem? (i := 3) rfl))
  · exact (hw _ (List.mem_of_getElem? (i := 2) rfl))
  · exact (hw _ (List.mem_of_getElem? (i := 19) rfl))
  · exact (hw _ (List.mem_of_getElem? (i := 29) rfl))
  · exact (hw _ (List.mem_of_getElem? (i := 27) rfl))
  · exact (hw _ (List.mem_of_getElem? (i := 77) rfl))
  · exact (hw _ (List.mem_of_getElem? (i := 78) rfl))
/-- a String whose value is null is no booked one -/
theorem own_safeN {Z : State} {EL : List (String × Nat)} {vm : Vm} {h : Heap} {x : Addr} (hal : Z.vm.Alike vm) (E : Exa Z h x "java/lang/String") (F : Fld Z h x "java/lang/String" "value" "[B" .null) : Safe Z EL vm h x := fun B => by
  obtain ⟨p, -, u, a, -, q, -, G, hy⟩ := B
  rcases hy with rfl | rfl
  · obtain ⟨cS, ⟨⟨s1, s2, s3, ⟨cv, kv, iv, s4, s4'⟩, ⟨cc, kc, ic, s5, s5'⟩, s6, s7, s8, s9, s10, s11, s12, s13, s14, s15, s16⟩, hfS, hcS⟩, ⟨kS, k1, k2, k3⟩, hB, hbyt⟩ := G
    obtain ⟨kv', z4⟩ := ff_back (U := Wst Z vm h) hal s4
    have G' : Fld Z h q.sa "java/lang/String" "value" "[B" (.ref q.sd) := ⟨q.sC, cv, kv', iv, q.fSV, s1, z4, s6, s2, s3, by rw [← hal.assignable]; exact s4', s8⟩
    exact Fld.ne F G' (by simp) rfl
  · obtain ⟨cell, k, e1, e2, e3, -, -⟩ := E
    cases (show h[q.sd]? = some q.SA from G.hd).symm.trans e1
    obtain ⟨cS, -, -, f, -⟩ := G
    have f' : vm.findClass "[B" = some q.SA.cls := f
    rw [hal.findClass] at f'
    obtain ⟨k1, a1, a2⟩ := Vm.findClass_spec f'
    obtain ⟨k2, b1, b2⟩ := Vm.findClass_spec e2
    cases a1.symm.trans b1
    exact absurd (a2.symm.trans b2) (by decide)
theorem own_ch255 (x : Int32) : ¬ nar .char ((x &&& (255 : Int32)).toUInt32.toUInt16.toUInt32.toInt32) < 0 ∧ ¬ (255 : Int32) < nar .char ((x &&& (255 : Int32)).toUInt32.toUInt16.toUInt32.toInt32) := by
  have t : ∀ k : Fin 256, ¬ nar .char ((Int32.ofNat k.val).toUInt32.toUInt16.toUInt32.toInt32) < 0 ∧ ¬ (255 : Int32) < nar .char ((Int32.ofNat k.val).toUInt32.toUInt16.toUInt32.toInt32) := by decide +kernel
  have h : (x &&& 255).toBitVec.toNat < 256 := by
    simp only [Int32.toBitVec_and, BitVec.toNat_and]
    exact Nat.lt_succ_of_le Nat.and_le_right
  have e : (x &&& 255) = Int32.ofNat (x &&& 255).toBitVec.toNat := by
    apply Int32.toBitVec_inj.mp
    show _ = BitVec.ofNat 32 _
    rw [BitVec.ofNat_toNat]; simp
  rw [e]
  exact t ⟨_, h⟩
theorem ef_rm2e (m : MethodId) (x0 : Addr) (x1 : Addr) (x2 : Int32) (x3 : Int32) : entryFrame m #[(.ref x0), (.ref x1), (.int x2), (.int x3), .null] 6 = mkF m 0 #[.val (.ref x0), .val (.ref x1), .val (.int x2), .val (.int x3), .val .null, .unset] [] := by first | (simp [entryFrame, mkF, argsToLocals, Value.category]; done) | rfl
theorem pn_0 : plainName "java/lang/String" = true := by first | (simp [plainName, overriddenIn]; done) | decide +kernel
theorem d2_0 : decode jdk_42_method_149_code 0 = .ok (.aload_n 0, 1) := by decide +kernel
theorem d2_1 : decode jdk_42_method_149_code 1 = .ok (.invokespecial 1, 3) := by decide +kernel
theorem d2_4 : decode jdk_42_method_149_code 4 = .ok (.iload_n 3, 1) := by decide +kernel
theorem d2_5 : decode jdk_42_method_149_code 5 = .ok (.ifCond .ne 22, 3) := by decide +kernel
theorem d2_8 : decode jdk_42_method_149_code 8 = .ok (.aload_n 0, 1) := by decide +kernel
theorem d2_9 : decode jdk_42_method_149_code 9 = .ok (.ldc 7, 2) := by decide +kernel
theorem d2_11 : decode jdk_42_method_149_code 11 = .ok (.getfield 9, 3) := by decide +kernel
theorem d2_14 : decode jdk_42_method_149_code 14 = .ok (.putfield 9, 3) := by decide +kernel
theorem d2_17 : decode jdk_42_method_149_code 17 = .ok (.aload_n 0, 1) := by decide +kernel
theorem d2_18 : decode jdk_42_method_149_code 18 = .ok (.ldc 7, 2) := by decide +kernel
theorem d2_20 : decode jdk_42_method_149_code 20 = .ok (.getfield 15, 3) := by decide +kernel
theorem d2_23 : decode jdk_42_method_149_code 23 = .ok (.putfield 15, 3) := by decide +kernel
theorem d2_26 : decode jdk_42_method_149_code 26 = .ok (.return_, 1) := by decide +kernel
def Q_rm2e (Z : State) (a b : Addr) (h0 : Heap) (n0 : Nat) (v : Option Value) (h : Heap) (L : List Loc) : Prop := v = none ∧ Fr n0 L ∧ Keep h0 h [a] ∧ Exa Z h a "java/lang/String" ∧ Fld Z h a "java/lang/String" "coder" "B" (.int 0) ∧ ∃ (t : Addr) (kb : ClassId), Fld Z h a "java/lang/String" "value" "[B" (.ref t) ∧ Arv Z h t kb .byte 0 [] (.int 0)
set_option maxRecDepth 65536 in
set_option maxHeartbeats 40000000 in
theorem rm2e (l : Launch) (Z : State) (a0 : Array Value) (hw : ∀ d ∈ tables_1, d.before a0 Z = true) (ws : List Jvm.Cond) (a b : Addr) (h0 : Heap) (n0 : Nat) (Z0 : n0 ≤ h0.size) (E_a : Exa Z h0 a "java/lang/String") (F_value : Fld Z h0 a "java/lang/String" "value" "[B" .null) (F_coder : Fld Z h0 a "java/lang/String" "coder" "B" (.int 0)) (g_a : n0 ≤ a) :
    MetFree l (⟨"java/lang/String", "<init>", "([CIILjava/lang/Void;)V"⟩ : MethodName) (head1 (Jvm.Cond.code (⟨"java/lang/String", "<init>", "([CIILjava/lang/Void;)V"⟩ : MethodName) jdk_42_method_149_code 6 none :: ws) ({ frames := 1, cells := 4, slots := 8, locals := 12 } : Room)) (fun ag U => ag = #[(.ref a), (.ref b), (.int (0 : Int32)), (.int (0 : Int32)), .null] ∧ Z.Warmed39 U.vm ∧ U.heap = h0 ∧ CHv Z own_EL U.vm h0) (fun _ _ _ _ _ => True) (fun _ U o U' => ∃ v L, o = .returned v ∧ Q_rm2e Z a b h0 n0 v U'.heap L ∧ CHr Z own_EL U.vm U.heap U'.vm U'.heap ∧ ReturnedEndW U o U' L ({ frames := 1, cells := 4, slots := 8, locals := 12 } : Room).cells ({ frames := 1, cells := 4, slots := 8, locals := 12 } : Room).slots) := by
  refine MetFree.of_bodySF (plainFor_of_name pn_0) hisR ?_
  intro p e s m args below meth c s₁ Bd hml0 hP hK
  obtain ⟨rfl, hZ, hh, hCH⟩ := hP
  have hx := Bd.exec
  have hby := Bd.bytes
  have hml : c.maxLocals = 6 := hml0
  have hown : s.vm.findClass "java/lang/String" = some m.cls := findClass_of_methodNamed Bd.named
  have hnm := (name_of_methodNamed Bd.named Bd.method).1
  have hZ0 : Z.Warmed39 (s.setVm s.vm).vm := hZ
  have hown0 : (s.setVm s.vm).vm.findClass "java/lang/String" = some m.cls := hown
  have hS0 : s.Since s.vm 0 := (State.WarmedH.refl s).since 0
  have hk0 : 0 ≤ h0.size := Nat.zero_le _
  have CR0 : CHr Z own_EL s.vm h0 s.vm h0 := CHr.refl hCH
  have hEL : EW Z a0 own_EL := own_hEL hw
  have wS := own_wS hw
  have X0 : Stand p l e ({ frames := 1, cells := 4, slots := 8, locals := 12 } : Room) (s.setVm s.vm) m #[(.ref a), (.ref b), (.int (0 : Int32)), (.int (0 : Int32)), .null] below meth c s₁ [] 0 0 := Stand.of_body Bd
  have e0 : s₁.heap = h0 := by rw [← hh, Bd.state]; rfl
  have N0 := Fr.nil n0
  refine own_start (ef_rm2e m a b (0 : Int32) (0 : Int32)) ?_
  intro F hF
  show own_Gl p.tables e below F (s₁.setTop (mkF m 0 #[.val (.ref a), .val (.ref b), .val (.int (0 : Int32)), .val (.int (0 : Int32)), .val .null, .unset] []))
  have SFa : Safe Z own_EL s.vm h0 a := own_safeN hZ0.alike E_a F_value
  refine own_go (fun _ k => XS.aloadN X0.here hx rfl (hb hby d2_0) rfl rfl k) ?_
  show own_Gl p.tables e below F (s₁.setTop (mkF m 1 #[.val (.ref a), .val (.ref b), .val (.int (0 : Int32)), .val (.int (0 : Int32)), .val .null, .unset] [(.ref a)]))
  obtain ⟨T1, X1, e1, st1⟩ := initO X0 hx hZ0 hown0 (hw _ (List.mem_of_getElem? (i := 11) rfl)) (hw _ (List.mem_of_getElem? (i := 12) rfl)) (hw _ (List.mem_of_getElem? (i := 13) rfl)) e0 (g := (mkF m 1 #[.val (.ref a), .val (.ref b), .val (.int (0 : Int32)), .val (.int (0 : Int32)), .val .null, .unset] [(.ref a)])) rfl (by rw [hml]; rfl) rfl (hb hby d2_1) (by decide) (W := 0) (by show 2 * 0 + _ ≤ _; exact Nat.le_of_eq rfl) (by decide)
  refine own_go st1 ?_
  show own_Gl p.tables e below F (T1.setTop (mkF m 4 #[.val (.ref a), .val (.ref b), .val (.int (0 : Int32)), .val (.int (0 : Int32)), .val .null, .unset] []))
  refine own_go (fun _ k => XS.iloadN X1.here hx rfl (hb hby d2_4) rfl k) ?_
  show own_Gl p.tables e below F (T1.setTop (mkF m 5 #[.val (.ref a), .val (.ref b), .val (.int (0 : Int32)), .val (.int (0 : Int32)), .val .null, .unset] [(.int (0 : Int32))]))
  refine own_go (fun _ k => XS.ifNo X1.here hx rfl (hb hby d2_5) rfl (XT.i0_ne_f rfl) k) ?_
  show own_Gl p.tables e below F (T1.setTop (mkF m 8 #[.val (.ref a), .val (.ref b), .val (.int (0 : Int32)), .val (.int (0 : Int32)), .val .null, .unset] []))
  refine own_go (fun _ k => XS.aloadN X1.here hx rfl (hb hby d2_8) rfl rfl k) ?_
  show own_Gl p.tables e below F (T1.setTop (mkF m 9 #[.val (.ref a), .val (.ref b), .val (.int (0 : Int32)), .val (.int (0 : Int32)), .val .null, .unset] [(.ref a)]))
  obtain ⟨la2, T2, h2, kk2, lb2, lk2, X2, e2, E2, hS2, hk2, hZ2, hown2, LE2, LC2, LV2, LA2, -, -, hC2, -, hN2, st2⟩ := ldcCH X1 hx hZ0 hown0 (hw _ (List.mem_of_getElem? (i := 76) rfl)) wS e1 hS0 hk0 hEL (by simp [own_EL]) CR0.1 (vs := []) (z := 0) own_txt76 (by decide) rfl (g := (mkF m 9 #[.val (.ref a), .val (.ref b), .val (.int (0 : Int32)), .val (.int (0 : Int32)), .val .null, .unset] [(.ref a)])) rfl (hb hby d2_9) (n := 0) (by decide) (by decide) (by first | decide | exact Nat.le_of_ble_eq_true rfl) (by first | decide | exact Nat.le_of_ble_eq_true rfl)
  have CR2 := CR0.trans hC2
  have sf2_0 := hC2.safe E_a.lt SFa
  have f2_0 := E_a.ext E2
  have f2_1 := F_value.ext E2
  have f2_2 := F_coder.ext E2
  have Z2 : n0 ≤ h2.size := Nat.le_trans Z0 E2.1
  have K2 := Keep.ext (Keep.refl h0 [a]) E2
  have X2 : Stand _ _ _ _ _ _ _ _ _ _ _ _ 2 4 := X2
  refine own_go st2 ?_
  show own_Gl p.tables e below F (T2.setTop (mkF m 11 #[.val (.ref a), .val (.ref b), .val (.int (0 : Int32)), .val (.int (0 : Int32)), .val .null, .unset] [(.ref la2), (.ref a)]))
  obtain ⟨T3, X3, e3, st3⟩ := getF X2 hx hZ2 hown2 (host := "") (Or.inl (hw _ (List.mem_of_getElem? (i := 28) rfl))) Via.refl e2 LV2 (g := (mkF m 11 #[.val (.ref a), .val (.ref b), .val (.int (0 : Int32)), .val (.int (0 : Int32)), .val .null, .unset] [(.ref la2), (.ref a)])) rfl rfl (hb hby d2_11)
  refine own_go st3 ?_
  show own_Gl p.tables e below F (T3.setTop (mkF m 14 #[.val (.ref a), .val (.ref b), .val (.int (0 : Int32)), .val (.int (0 : Int32)), .val .null, .unset] [(.ref lb2), (.ref a)]))
  obtain ⟨T4, h4, X4, e4, W4, st4⟩ := putF X3 hx hZ2 hown2 (host := "") (Or.inl (hw _ (List.mem_of_getElem? (i := 28) rfl))) Via.refl e3 f2_1 f2_0 (Or.inr ⟨(hw _ (List.mem_of_getElem? (i := 29) rfl)), rfl, hnm⟩) (hw _ (List.mem_of_getElem? (i := 2) rfl)) (ty := (.array .byte)) (by decide) rfl rfl (g := (mkF m 14 #[.val (.ref a), .val (.ref b), .val (.int (0 : Int32)), .val (.int (0 : Int32)), .val .null, .unset] [(.ref lb2), (.ref a)])) rfl rfl (hb hby d2_14)
  have Fw4 := f2_1.same W4
  have f4_1 := f2_0.wr W4
  have f4_3 := f2_2.other W4 (Or.inr (slot_ne (Or.inr (hw _ (List.mem_of_getElem? (i := 27) rfl))) (Or.inr (hw _ (List.mem_of_getElem? (i := 29) rfl))) (by decide) (t := .byte) (t' := (.array .byte)) (by decide) (by decide)))
  have f4_4 := LE2.wr W4
  have f4_5 := LC2.other W4 (Or.inl (Ne.symm (hN2 a sf2_0).1))
  have f4_6 := LV2.other W4 (Or.inl (Ne.symm (hN2 a sf2_0).1))
  have f4_7 := LA2.other W4 (Ne.symm (hN2 a sf2_0).2)
  have Z4 : n0 ≤ h4.size := by rw [W4.size]; exact Z2
  have K4 := Keep.wr K2 W4 (Or.inl (by simp))
  have sf4_0 := Safe.wr W4 sf2_0 CR2.1 sf2_0
  have CR4 := CR2.trans (CHr.wr W4 sf2_0 CR2.1)
  have hk4 : kk2 ≤ h4.size := by rw [W4.size]; exact hk2
  have N4 := Fr.snoc X4 N0 g_a
  refine own_go st4 ?_
  show own_Gl p.tables e below F (T4.setTop (mkF m 17 #[.val (.ref a), .val (.ref b), .val (.int (0 : Int32)), .val (.int (0 : Int32)), .val .null, .unset] []))
  refine own_go (fun _ k => XS.aloadN X4.here hx rfl (hb hby d2_17) rfl rfl k) ?_
  show own_Gl p.tables e below F (T4.setTop (mkF m 18 #[.val (.ref a), .val (.ref b), .val (.int (0 : Int32)), .val (.int (0 : Int32)), .val .null, .unset] [(.ref a)]))
  obtain ⟨la5, T5, h5, kk5, lb5, lk5, X5, e5, E5, hS5, hk5, hZ5, hown5, LE5, LC5, LV5, LA5, -, -, hC5, -, hN5, st5⟩ := ldcCH X4 hx hZ2 hown2 (hw _ (List.mem_of_getElem? (i := 76) rfl)) wS e4 hS2 hk4 hEL (by simp [own_EL]) CR4.1 (vs := []) (z := 0) own_txt76 (by decide) rfl (g := (mkF m 18 #[.val (.ref a), .val (.ref b), .val (.int (0 : Int32)), .val (.int (0 : Int32)), .val .null, .unset] [(.ref a)])) rfl (hb hby d2_18) (n := 0) (by decide) (by decide) (by first | decide | exact Nat.le_of_ble_eq_true rfl) (by first | decide | exact Nat.le_of_ble_eq_true rfl)
  have CR5 := CR4.trans hC5
  have sf5_0 := hC5.safe f4_1.lt sf4_0
  have f5_0 := f4_1.ext E5
  have f5_1 := Fw4.ext E5
  have f5_2 := f4_3.ext E5
  have f5_3 := f4_4.ext E5
  have f5_4 := f4_5.ext E5
  have f5_5 := f4_6.ext E5
  have f5_6 := f4_7.ext E5
  have Z5 : n0 ≤ h5.size := Nat.le_trans Z4 E5.1
  have K5 := Keep.ext K4 E5
  have X5 : Stand _ _ _ _ _ _ _ _ _ _ _ _ 4 8 := X5
  refine own_go st5 ?_
  show own_Gl p.tables e below F (T5.setTop (mkF m 20 #[.val (.ref a), .val (.ref b), .val (.int (0 : Int32)), .val (.int (0 : Int32)), .val .null, .unset] [(.ref la5), (.ref a)]))
  obtain ⟨T6, X6, e6, st6⟩ := getF X5 hx hZ5 hown5 (host := "") (Or.inl (hw _ (List.mem_of_getElem? (i := 26) rfl))) Via.refl e5 LC5 (g := (mkF m 20 #[.val (.ref a), .val (.ref b), .val (.int (0 : Int32)), .val (.int (0 : Int32)), .val .null, .unset] [(.ref la5), (.ref a)])) rfl rfl (hb hby d2_20)
  refine own_go st6 ?_
  show own_Gl p.tables e below F (T6.setTop (mkF m 23 #[.val (.ref a), .val (.ref b), .val (.int (0 : Int32)), .val (.int (0 : Int32)), .val .null, .unset] [(.int (0 : Int32)), (.ref a)]))
  obtain ⟨T7, h7, X7, e7, W7, st7⟩ := putFN X6 hx hZ5 hown5 (hw _ (List.mem_of_getElem? (i := 26) rfl)) Via.refl e6 f5_2 f5_0 (Or.inr ⟨(hw _ (List.mem_of_getElem? (i := 27) rfl)), rfl, hnm⟩) (hw _ (List.mem_of_getElem? (i := 2) rfl)) (ty := .byte) (v' := (.int (0 : Int32))) (by decide) rfl rfl (g := (mkF m 23 #[.val (.ref a), .val (.ref b), .val (.int (0 : Int32)), .val (.int (0 : Int32)), .val .null, .unset] [(.int (0 : Int32)), (.ref a)])) rfl rfl (hb hby d2_23)
  have Fw7 := f5_2.same W7
  have f7_1 := f5_0.wr W7
  have f7_2 := f5_1.other W7 (Or.inr (slot_ne (Or.inr (hw _ (List.mem_of_getElem? (i := 29) rfl))) (Or.inr (hw _ (List.mem_of_getElem? (i := 27) rfl))) (by decide) (t := (.array .byte)) (t' := .byte) (by decide) (by decide)))
  have f7_4 := f5_3.wr W7
  have f7_5 := f5_4.other W7 (Or.inl (Ne.symm (hN2 a sf2_0).1))
  have f7_6 := f5_5.other W7 (Or.inl (Ne.symm (hN2 a sf2_0).1))
  have f7_7 := f5_6.other W7 (Ne.symm (hN2 a sf2_0).2)
  have f7_8 := LE5.wr W7
  have f7_9 := LC5.other W7 (Or.inl (Ne.symm (hN5 a sf5_0).1))
  have f7_10 := LV5.other W7 (Or.inl (Ne.symm (hN5 a sf5_0).1))
  have f7_11 := LA5.other W7 (Ne.symm (hN5 a sf5_0).2)
  have Z7 : n0 ≤ h7.size := by rw [W7.size]; exact Z5
  have K7 := Keep.wr K5 W7 (Or.inl (by simp))
  have sf7_0 := Safe.wr W7 sf5_0 CR5.1 sf5_0
  have CR7 := CR5.trans (CHr.wr W7 sf5_0 CR5.1)
  have hk7 : kk5 ≤ h7.size := by rw [W7.size]; exact hk5
  have N7 := Fr.snoc X7 N4 g_a
  refine own_go st7 ?_
  show own_Gl p.tables e below F (T7.setTop (mkF m 26 #[.val (.ref a), .val (.ref b), .val (.int (0 : Int32)), .val (.int (0 : Int32)), .val .null, .unset] []))
  obtain ⟨fs, hr, hrun, hended, hRW⟩ := Jvm.Stand.leaveW X7 hS5 (by rw [e7]; exact hk7) (v := none) (fun _ => rfl)
  have CE : CHr Z own_EL s.vm s.heap T7.vm T7.heap := by rw [hh, e7]; exact CR7.trans (CHv.at X7 hZ5 hEL CR7.1)
  subst hF
  refine own_fin ?_ ⟨hrun, hended, _, _, rfl, ?_, CE, hRW.1, hRW.2.1, hRW.2.2.1, hRW.2.2.2.mono (by first | decide | exact Nat.le_of_ble_eq_true rfl) (by first | decide | exact Nat.le_of_ble_eq_true rfl)⟩
  · exact X7.returnOut hx Bd.returns (hb hby d2_26) hr
  · show Q_rm2e Z _ _ h0 n0 _ T7.heap _
    rw [e7]
    exact ⟨rfl, N7, K7, f7_1, Fw7, lb2, _, f7_2, f7_7⟩
theorem ef_rm1e (m : MethodId) (x0 : Addr) (x1 : Addr) : entryFrame m #[(.ref x0), (.ref x1)] 2 = mkF m 0 #[.val (.ref x0), .val (.ref x1)] [] := by first | (simp [entryFrame, mkF, argsToLocals, Value.category]; done) | rfl
theorem d1_0 : decode jdk_42_method_3_code 0 = .ok (.aload_n 0, 1) := by decide +kernel
theorem d1_1 : decode jdk_42_method_3_code 1 = .ok (.aload_n 1, 1) := by decide +kernel
theorem d1_2 : decode jdk_42_method_3_code 2 = .ok (.iconst 0, 1) := by decide +kernel
theorem d1_3 : decode jdk_42_method_3_code 3 = .ok (.aload_n 1, 1) := by decide +kernel
theorem d1_4 : decode jdk_42_method_3_code 4 = .ok (.arraylength, 1) := by decide +kernel
theorem d1_5 : decode jdk_42_method_3_code 5 = .ok (.aconst_null, 1) := by decide +kernel
theorem d1_6 : decode jdk_42_method_3_code 6 = .ok (.invokespecial 27, 3) := by decide +kernel
theorem pd_0 : parseMethodDescriptor "([CIILjava/lang/Void;)V" = some ⟨[(.array .char), .int, .int, (.object "java/lang/Void")], none⟩ := by decide +kernel
theorem d1_9 : decode jdk_42_method_3_code 9 = .ok (.return_, 1) := by decide +kernel
def Q_rm1e (Z : State) (a b : Addr) (kC : ClassId) (h0 : Heap) (n0 : Nat) (v : Option Value) (h : Heap) (L : List Loc) : Prop := v = none ∧ Fr n0 L ∧ Keep h0 h [a] ∧ Exa Z h a "java/lang/String" ∧ Fld Z h a "java/lang/String" "coder" "B" (.int 0) ∧ ∃ (t : Addr) (kb : ClassId), Fld Z h a "java/lang/String" "value" "[B" (.ref t) ∧ Arv Z h t kb .byte 0 [] (.int 0)
set_option maxRecDepth 65536 in
set_option maxHeartbeats 40000000 in
theorem rm1e (l : Launch) (Z : State) (a0 : Array Value) (hw : ∀ d ∈ tables_1, d.before a0 Z = true) (ws : List Jvm.Cond) (a b : Addr) (kC : ClassId) (h0 : Heap) (n0 : Nat) (Z0 : n0 ≤ h0.size) (E_a : Exa Z h0 a "java/lang/String") (F_value : Fld Z h0 a "java/lang/String" "value" "[B" .null) (F_coder : Fld Z h0 a "java/lang/String" "coder" "B" (.int 0)) (V_b : Arv Z h0 b kC .char 0 [] (.int 0)) (g_a : n0 ≤ a) :
    MetFree l (⟨"java/lang/String", "<init>", "([C)V"⟩ : MethodName) (head1 (Jvm.Cond.code (⟨"java/lang/String", "<init>", "([C)V"⟩ : MethodName) jdk_42_method_3_code 2 none :: ws) ({ frames := 2, cells := 4, slots := 8, locals := 29 } : Room)) (fun ag U => ag = #[(.ref a), (.ref b)] ∧ Z.Warmed39 U.vm ∧ U.heap = h0 ∧ CHv Z own_EL U.vm h0) (fun _ _ _ _ _ => True) (fun _ U o U' => ∃ v L, o = .returned v ∧ Q_rm1e Z a b kC h0 n0 v U'.heap L ∧ CHr Z own_EL U.vm U.heap U'.vm U'.heap ∧ ReturnedEndW U o U' L ({ frames := 2, cells := 4, slots := 8, locals := 29 } : Room).cells ({ frames := 2, cells := 4, slots := 8, locals := 29 } : Room).slots) := by
  refine MetFree.of_bodySF (plainFor_of_name pn_0) hisR ?_
  intro p e s m args below meth c s₁ Bd hml0 hP hK
  obtain ⟨rfl, hZ, hh, hCH⟩ := hP
  have hx := Bd.exec
  have hby := Bd.bytes
  have hml : c.maxLocals = 2 := hml0
  have hown : s.vm.findClass "java/lang/String" = some m.cls := findClass_of_methodNamed Bd.named
  have hnm := (name_of_methodNamed Bd.named Bd.method).1
  have hZ0 : Z.Warmed39 (s.setVm s.vm).vm := hZ
  have hown0 : (s.setVm s.vm).vm.findClass "java/lang/String" = some m.cls := hown
  have hS0 : s.Since s.vm 0 := (State.WarmedH.refl s).since 0
  have hk0 : 0 ≤ h0.size := Nat.zero_le _
  have CR0 : CHr Z own_EL s.vm h0 s.vm h0 := CHr.refl hCH
  have hEL : EW Z a0 own_EL := own_hEL hw
  have wS := own_wS hw
  have X0 : Stand p l e ({ frames := 2, cells := 4, slots := 8, locals := 29 } : Room) (s.setVm s.vm) m #[(.ref a), (.ref b)] below meth c s₁ [] 0 0 := Stand.of_body Bd
  have e0 : s₁.heap = h0 := by rw [← hh, Bd.state]; rfl
  have N0 := Fr.nil n0
  refine own_start (ef_rm1e m a b) ?_
  intro F hF
  show own_Gl p.tables e below F (s₁.setTop (mkF m 0 #[.val (.ref a), .val (.ref b)] []))
  refine own_go (fun _ k => XS.aloadN X0.here hx rfl (hb hby d1_0) rfl rfl k) ?_
  show own_Gl p.tables e below F (s₁.setTop (mkF m 1 #[.val (.ref a), .val (.ref b)] [(.ref a)]))
  refine own_go (fun _ k => XS.aloadN X0.here hx rfl (hb hby d1_1) rfl rfl k) ?_
  show own_Gl p.tables e below F (s₁.setTop (mkF m 2 #[.val (.ref a), .val (.ref b)] [(.ref b), (.ref a)]))
  refine own_go (fun _ k => XS.iconst X0.here hx rfl (hb hby d1_2) k) ?_
  show own_Gl p.tables e below F (s₁.setTop (mkF m 3 #[.val (.ref a), .val (.ref b)] [(.int (0 : Int32)), (.ref b), (.ref a)]))
  refine own_go (fun _ k => XS.aloadN X0.here hx rfl (hb hby d1_3) rfl rfl k) ?_
  show own_Gl p.tables e below F (s₁.setTop (mkF m 4 #[.val (.ref a), .val (.ref b)] [(.ref b), (.int (0 : Int32)), (.ref b), (.ref a)]))
  obtain ⟨cl1, Ar1, ak1, aS1, aN1, aH1, aG1⟩ := id V_b
  refine own_go (fun _ k => X0.arraylength hx (by rw [e0]; exact Ar1.1) (State.isArrayOf_alike hZ0.alike Ar1.2.1) (g := (mkF m 4 #[.val (.ref a), .val (.ref b)] [(.ref b), (.int (0 : Int32)), (.ref b), (.ref a)])) rfl rfl (hb hby d1_4) _ k) ?_
  rw [len_of aS1 aN1]
  show own_Gl p.tables e below F (s₁.setTop (mkF m 5 #[.val (.ref a), .val (.ref b)] [(.int (0 : Int32)), (.int (0 : Int32)), (.ref b), (.ref a)]))
  refine own_go (fun _ k => XS.aconstNull X0.here hx rfl (hb hby d1_5) k) ?_
  show own_Gl p.tables e below F (s₁.setTop (mkF m 6 #[.val (.ref a), .val (.ref b)] [.null, (.int (0 : Int32)), (.int (0 : Int32)), (.ref b), (.ref a)]))
  obtain ⟨_, _, ⟨T2, L2, k2, n2⟩, -, X2, hs2, hg2, ⟨Lc2, hQ2, l2, y2, z2, hC2⟩, st2⟩ := X0.specialBackS hx (y := (⟨"java/lang/String", "<init>", "([CIILjava/lang/Void;)V"⟩ : MethodName)) rfl hown0 (mvT hZ0 (hw _ (List.mem_of_getElem? (i := 7) rfl))) (mvT hZ0 (hw _ (List.mem_of_getElem? (i := 8) rfl))) (mvT hZ0 (hw _ (List.mem_of_getElem? (i := 10) rfl))) (by decide) (backOfSH (W := 0) (rm2e l Z a0 hw [] a b  h0 n0 Z0 E_a F_value F_coder g_a) hZ0 (hw _ (List.mem_of_getElem? (i := 10) rfl)) (hw _ (List.mem_of_getElem? (i := 3) rfl)) (by decide) (by decide) hEL CR0.1) (g := (mkF m 6 #[.val (.ref a), .val (.ref b)] [.null, (.int (0 : Int32)), (.int (0 : Int32)), (.ref b), (.ref a)])) rfl (by rw [hml]; rfl) (Steps.refl _) (a := a) (argsL := [(.ref b), (.int (0 : Int32)), (.int (0 : Int32)), .null]) (rest := []) (lenOf pd_0 rfl) rfl (by show 2 * 0 + _ ≤ _; exact Nat.le_of_eq rfl) (hb hby d1_6) (fun _ _ => ⟨rfl, e0, (by first | decide | exact Nat.le_of_ble_eq_true rfl), (by first | decide | exact Nat.le_of_ble_eq_true rfl)⟩)
  dsimp only [Pt.U, Pt.locs, Pt.cells, Pt.slots] at X2 l2 y2 z2 st2 hQ2 hs2 hg2 hC2
  have X2 := own_sn X2 (k' := 4) (n' := 8) y2 z2
  obtain ⟨hv2, N2, K2, GE2, GC2, t2, kb2, GV2, GA2⟩ := hQ2
  rw [hv2] at st2
  have NF2 := own_fr l2 N0 N2
  obtain ⟨XR2, hS2, hZ2, hown2⟩ := rebS hS0 (by rw [e0]; exact hk0) X2 hs2 hg2 hZ0 hown0
  have CR2 := CR0.trans hC2
  have f2_1 := E_a.keep K2
  have Z2 : n0 ≤ T2.heap.size := Nat.le_trans Z0 K2.1
  have KK2 := Keep.trans (Keep.refl h0 [a]) K2 (by intro z hz; simp at hz; rcases hz with rfl; all_goals first | (left; simp; done) | (right; assumption))
  have hk2 : T2.heap.size ≤ T2.heap.size := Nat.le_refl _
  refine own_go (fun _ k => st2.trans k) ?_
  show own_Gl p.tables e below F (T2.setTop (mkF m 9 #[.val (.ref a), .val (.ref b)] []))
  obtain ⟨fs, hr, hrun, hended, hRW⟩ := Jvm.Stand.leaveW XR2 hS2 (by exact hk2) (v := none) (fun _ => rfl)
  have CE : CHr Z own_EL s.vm s.heap T2.vm T2.heap := by rw [hh]; exact CR2.trans (CHv.at XR2 hZ2 hEL CR2.1)
  subst hF
  refine own_fin ?_ ⟨hrun, hended, _, _, rfl, ?_, CE, hRW.1, hRW.2.1, hRW.2.2.1, hRW.2.2.2.mono (by first | decide | exact Nat.le_of_ble_eq_true rfl) (by first | decide | exact Nat.le_of_ble_eq_true rfl)⟩
  · exact XR2.returnOut hx Bd.returns (hb hby d1_9) hr
  · show Q_rm1e Z _ _ _ h0 n0 _ T2.heap _
    exact ⟨rfl, NF2, KK2, GE2, GC2, t2, kb2, GV2, GA2⟩
theorem ef_rm9 (m : MethodId) (x0 : Addr) : entryFrame m #[(.ref x0)] 1 = mkF m 0 #[.val (.ref x0)] [] := by first | (simp [entryFrame, mkF, argsToLocals, Value.category]; done) | rfl
theorem pn_1 : plainName "java/util/AbstractMap" = true := by first | (simp [plainName, overriddenIn]; done) | decide +kernel
theorem d9_0 : decode jdk_71_method_1_code 0 = .ok (.aload_n 0, 1) := by decide +kernel
theorem d9_1 : decode jdk_71_method_1_code 1 = .ok (.invokespecial 1, 3) := by decide +kernel
theorem d9_4 : decode jdk_71_method_1_code 4 = .ok (.return_, 1) := by decide +kernel
def Q_rm9 (Z : State) (a : Addr) (h0 : Heap) (n0 : Nat) (v : Option Value) (h : Heap) (L : List Loc) : Prop := v = none ∧ Fr n0 L ∧ h = h0
set_option maxRecDepth 65536 in
set_option maxHeartbeats 40000000 in
theorem rm9 (l : Launch) (Z : State) (a0 : Array Value) (hw : ∀ d ∈ tables_1, d.before a0 Z = true) (ws : List Jvm.Cond) (a : Addr) (h0 : Heap) (n0 : Nat) (Z0 : n0 ≤ h0.size) :
    MetFree l (⟨"java/util/AbstractMap", "<init>", "()V"⟩ : MethodName) (head1 (Jvm.Cond.code (⟨"java/util/AbstractMap", "<init>", "()V"⟩ : MethodName) jdk_71_method_1_code 1 none :: ws) ({ frames := 1, cells := 0, slots := 0, locals := 12 } : Room)) (fun ag U => ag = #[(.ref a)] ∧ Z.Warmed39 U.vm ∧ U.heap = h0) (fun _ _ _ _ _ => True) (fun _ U o U' => ∃ v L, o = .returned v ∧ Q_rm9 Z a h0 n0 v U'.heap L ∧ FrameEnd U o U' L ({ frames := 1, cells := 0, slots := 0, locals := 12 } : Room).cells ({ frames := 1, cells := 0, slots := 0, locals := 12 } : Room).slots) := by
  refine MetFree.of_bodySF (plainFor_of_name pn_1) hisR ?_
  intro p e s m args below meth c s₁ Bd hml0 hP hK
  obtain ⟨rfl, hZ, hh⟩ := hP
  have hx := Bd.exec
  have hby := Bd.bytes
  have hml : c.maxLocals = 1 := hml0
  have hown : s.vm.findClass "java/util/AbstractMap" = some m.cls := findClass_of_methodNamed Bd.named
  have hnm := (name_of_methodNamed Bd.named Bd.method).1
  have X0 : Stand p l e ({ frames := 1, cells := 0, slots := 0, locals := 12 } : Room) s m #[(.ref a)] below meth c s₁ [] 0 0 := Stand.of_body Bd
  have e0 : s₁.heap = h0 := by rw [← hh, Bd.state]; rfl
  have N0 := Fr.nil n0
  refine own_start (ef_rm9 m a) ?_
  intro F hF
  show own_Gl p.tables e below F (s₁.setTop (mkF m 0 #[.val (.ref a)] []))
  refine own_go (fun _ k => XS.aloadN X0.here hx rfl (hb hby d9_0) rfl rfl k) ?_
  show own_Gl p.tables e below F (s₁.setTop (mkF m 1 #[.val (.ref a)] [(.ref a)]))
  obtain ⟨T1, X1, e1, st1⟩ := initO X0 hx hZ hown (hw _ (List.mem_of_getElem? (i := 49) rfl)) (hw _ (List.mem_of_getElem? (i := 12) rfl)) (hw _ (List.mem_of_getElem? (i := 13) rfl)) e0 (g := (mkF m 1 #[.val (.ref a)] [(.ref a)])) rfl (by rw [hml]; rfl) rfl (hb hby d9_1) (by decide) (W := 0) (by show 2 * 0 + _ ≤ _; exact Nat.le_of_eq rfl) (by decide)
  refine own_go st1 ?_
  show own_Gl p.tables e below F (T1.setTop (mkF m 4 #[.val (.ref a)] []))
  obtain ⟨fs, hr, hrun, hended, hW, hsame⟩ := X1.leave (v := none) (fun _ => rfl)
  subst hF
  refine own_fin ?_ ⟨hrun, hended, _, _, rfl, ?_, ⟨_, rfl⟩, hW, hsame.mono (by first | decide | exact Nat.le_of_ble_eq_true rfl) (by first | decide | exact Nat.le_of_ble_eq_true rfl)⟩
  · exact X1.returnOut hx Bd.returns (hb hby d9_4) hr
  · show Q_rm9 Z _ h0 n0 _ T1.heap _
    rw [e1]
    exact ⟨rfl, N0, rfl⟩
theorem ef_rm8 (m : MethodId) (x0 : Addr) : entryFrame m #[(.ref x0)] 1 = mkF m 0 #[.val (.ref x0)] [] := by first | (simp [entryFrame, mkF, argsToLocals, Value.category]; done) | rfl
theorem pn_2 : plainName "java/util/HashMap" = true := by first | (simp [plainName, overriddenIn]; done) | decide +kernel
theorem d8_0 : decode jdk_69_method_7_code 0 = .ok (.aload_n 0, 1) := by decide +kernel
theorem d8_1 : decode jdk_69_method_7_code 1 = .ok (.invokespecial 43, 3) := by decide +kernel
theorem pd_1 : parseMethodDescriptor "()V" = some ⟨[], none⟩ := by decide +kernel
theorem d8_4 : decode jdk_69_method_7_code 4 = .ok (.aload_n 0, 1) := by decide +kernel
theorem d8_5 : decode jdk_69_method_7_code 5 = .ok (.ldc 92, 2) := by decide +kernel
theorem d8_7 : decode jdk_69_method_7_code 7 = .ok (.putfield 81, 3) := by decide +kernel
theorem d8_10 : decode jdk_69_method_7_code 10 = .ok (.return_, 1) := by decide +kernel
def Q_rm8 (Z : State) (a : Addr) (h0 : Heap) (n0 : Nat) (v : Option Value) (h : Heap) (L : List Loc) : Prop := v = none ∧ Fr n0 L ∧ Keep h0 h [a] ∧ Exa Z h a "java/util/HashMap" ∧ Fld Z h a "java/util/HashMap" "loadFactor" "F" (.float (1061158912 : UInt32))
set_option maxRecDepth 65536 in
set_option maxHeartbeats 40000000 in
theorem rm8 (l : Launch) (Z : State) (a0 : Array Value) (hw : ∀ d ∈ tables_1, d.before a0 Z = true) (ws : List Jvm.Cond) (a : Addr) (h0 : Heap) (n0 : Nat) (Z0 : n0 ≤ h0.size) (E_a : Exa Z h0 a "java/util/HashMap") (F_loadFactor : Fld Z h0 a "java/util/HashMap" "loadFactor" "F" (.float 0)) (g_a : n0 ≤ a) :
    MetFree l (⟨"java/util/HashMap", "<init>", "()V"⟩ : MethodName) (head1 (Jvm.Cond.code (⟨"java/util/HashMap", "<init>", "()V"⟩ : MethodName) jdk_69_method_7_code 1 none :: ws) ({ frames := 2, cells := 0, slots := 0, locals := 24 } : Room)) (fun ag U => ag = #[(.ref a)] ∧ Z.Warmed39 U.vm ∧ U.heap = h0) (fun _ _ _ _ _ => True) (fun _ U o U' => ∃ v L, o = .returned v ∧ Q_rm8 Z a h0 n0 v U'.heap L ∧ FrameEnd U o U' L ({ frames := 2, cells := 0, slots := 0, locals := 24 } : Room).cells ({ frames := 2, cells := 0, slots := 0, locals := 24 } : Room).slots) := by
  refine MetFree.of_bodySF (plainFor_of_name pn_2) hisR ?_
  intro p e s m args below meth c s₁ Bd hml0 hP hK
  obtain ⟨rfl, hZ, hh⟩ := hP
  have hx := Bd.exec
  have hby := Bd.bytes
  have hml : c.maxLocals = 1 := hml0
  have hown : s.vm.findClass "java/util/HashMap" = some m.cls := findClass_of_methodNamed Bd.named
  have hnm := (name_of_methodNamed Bd.named Bd.method).1
  have X0 : Stand p l e ({ frames := 2, cells := 0, slots := 0, locals := 24 } : Room) s m #[(.ref a)] below meth c s₁ [] 0 0 := Stand.of_body Bd
  have e0 : s₁.heap = h0 := by rw [← hh, Bd.state]; rfl
  have N0 := Fr.nil n0
  refine own_start (ef_rm8 m a) ?_
  intro F hF
  show own_Gl p.tables e below F (s₁.setTop (mkF m 0 #[.val (.ref a)] []))
  refine own_go (fun _ k => XS.aloadN X0.here hx rfl (hb hby d8_0) rfl rfl k) ?_
  show own_Gl p.tables e below F (s₁.setTop (mkF m 1 #[.val (.ref a)] [(.ref a)]))
  obtain ⟨_, _, ⟨T1, L1, k1, n1⟩, -, X1, ⟨Lc1, hQ1, l1, y1, z1⟩, st1⟩ := X0.specialBack hx (y := (⟨"java/util/AbstractMap", "<init>", "()V"⟩ : MethodName)) rfl hown (mvT hZ (hw _ (List.mem_of_getElem? (i := 43) rfl))) (mvT hZ (hw _ (List.mem_of_getElem? (i := 44) rfl))) (mvT hZ (hw _ (List.mem_of_getElem? (i := 48) rfl))) (by decide) (backOf (W := 0) (rm9 l Z a0 hw [] a  h0 n0 Z0 ) hZ (hw _ (List.mem_of_getElem? (i := 48) rfl)) (hw _ (List.mem_of_getElem? (i := 47) rfl)) (by decide) (by decide)) (g := (mkF m 1 #[.val (.ref a)] [(.ref a)])) rfl (by rw [hml]; rfl) (Steps.refl _) (a := a) (argsL := []) (rest := []) (lenOf pd_1 rfl) rfl (by show 2 * 0 + _ ≤ _; exact Nat.le_of_eq rfl) (hb hby d8_1) (fun _ _ => ⟨rfl, e0, (by first | decide | exact Nat.le_of_ble_eq_true rfl), (by first | decide | exact Nat.le_of_ble_eq_true rfl)⟩)
  dsimp only [Pt.U, Pt.locs, Pt.cells, Pt.slots] at X1 l1 y1 z1 st1 hQ1
  have X1 := own_sn X1 (k' := 0) (n' := 0) y1 z1
  obtain ⟨hv1, N1, e1⟩ := hQ1
  rw [hv1] at st1
  have NF1 := own_fr l1 N0 N1
  refine own_go (fun _ k => st1.trans k) ?_
  show own_Gl p.tables e below F (T1.setTop (mkF m 4 #[.val (.ref a)] []))
  refine own_go (fun _ k => XS.aloadN X1.here hx rfl (hb hby d8_4) rfl rfl k) ?_
  show own_Gl p.tables e below F (T1.setTop (mkF m 5 #[.val (.ref a)] [(.ref a)]))
  refine own_go (fun _ k => (X1.ldcFloatC hx hown (mvT hZ (hw _ (List.mem_of_getElem? (i := 50) rfl))) (g := (mkF m 5 #[.val (.ref a)] [(.ref a)])) rfl (hb hby d8_5) _) k) ?_
  show own_Gl p.tables e below F (T1.setTop (mkF m 7 #[.val (.ref a)] [(.float (1061158912 : UInt32)), (.ref a)]))
  obtain ⟨T2, h2, X2, e2, W2, st2⟩ := putF X1 hx hZ hown (host := "") (Or.inl (hw _ (List.mem_of_getElem? (i := 51) rfl))) Via.refl e1 F_loadFactor E_a (Or.inr ⟨(hw _ (List.mem_of_getElem? (i := 52) rfl)), rfl, hnm⟩) (hw _ (List.mem_of_getElem? (i := 38) rfl)) (ty := .float) (by decide) rfl rfl (g := (mkF m 7 #[.val (.ref a)] [(.float (1061158912 : UInt32)), (.ref a)])) rfl rfl (hb hby d8_7)
  have Fw2 := F_loadFactor.same W2
  have f2_1 := E_a.wr W2
  have Z2 : n0 ≤ h2.size := by rw [W2.size]; exact Z0
  have K2 := Keep.wr (Keep.refl h0 [a]) W2 (Or.inl (by simp))
  have N2 := Fr.snoc X2 NF1 g_a
  refine own_go st2 ?_
  show own_Gl p.tables e below F (T2.setTop (mkF m 10 #[.val (.ref a)] []))
  obtain ⟨fs, hr, hrun, hended, hW, hsame⟩ := X2.leave (v := none) (fun _ => rfl)
  subst hF
  refine own_fin ?_ ⟨hrun, hended, _, _, rfl, ?_, ⟨_, rfl⟩, hW, hsame.mono (by first | decide | exact Nat.le_of_ble_eq_true rfl) (by first | decide | exact Nat.le_of_ble_eq_true rfl)⟩
  · exact X2.returnOut hx Bd.returns (hb hby d8_10) hr
  · show Q_rm8 Z _ h0 n0 _ T2.heap _
    rw [e2]
    exact ⟨rfl, N2, K2, f2_1, Fw2⟩
theorem ef_rm7 (m : MethodId) (x0 : Addr) (x1 : Addr) (x2 : Int32) : entryFrame m #[(.ref x0), (.ref x1), (.int x2)] 3 = mkF m 0 #[.val (.ref x0), .val (.ref x1), .val (.int x2)] [] := by first | (simp [entryFrame, mkF, argsToLocals, Value.category]; done) | rfl
theorem pn_3 : plainName "com/example/palimpsest/palimpsest/history/KeyHistory" = true := by first | (simp [plainName, overriddenIn]; done) | decide +kernel
theorem d7_0 : decode prog_139_method_1_code 0 = .ok (.aload_n 0, 1) := by decide +kernel
theorem d7_1 : decode prog_139_method_1_code 1 = .ok (.invokespecial 1, 3) := by decide +kernel
theorem d7_4 : decode prog_139_method_1_code 4 = .ok (.aload_n 0, 1) := by decide +kernel
theorem d7_5 : decode prog_139_method_1_code 5 = .ok (.new 7, 3) := by decide +kernel
theorem d7_8 : decode prog_139_method_1_code 8 = .ok (.dup, 1) := by decide +kernel
theorem d7_9 : decode prog_139_method_1_code 9 = .ok (.invokespecial 9, 3) := by decide +kernel
theorem d7_12 : decode prog_139_method_1_code 12 = .ok (.putfield 10, 3) := by decide +kernel
theorem d7_15 : decode prog_139_method_1_code 15 = .ok (.aload_n 0, 1) := by decide +kernel
theorem d7_16 : decode prog_139_method_1_code 16 = .ok (.bipush 8, 2) := by decide +kernel
theorem d7_18 : decode prog_139_method_1_code 18 = .ok (.newarray .long, 2) := by decide +kernel
theorem d7_20 : decode prog_139_method_1_code 20 = .ok (.putfield 16, 3) := by decide +kernel
theorem d7_23 : decode prog_139_method_1_code 23 = .ok (.aload_n 0, 1) := by decide +kernel
theorem d7_24 : decode prog_139_method_1_code 24 = .ok (.iconst (-1), 1) := by decide +kernel
theorem d7_25 : decode prog_139_method_1_code 25 = .ok (.putfield 20, 3) := by decide +kernel
theorem d7_28 : decode prog_139_method_1_code 28 = .ok (.aload_n 0, 1) := by decide +kernel
theorem d7_29 : decode prog_139_method_1_code 29 = .ok (.aload_n 1, 1) := by decide +kernel
theorem d7_30 : decode prog_139_method_1_code 30 = .ok (.putfield 24, 3) := by decide +kernel
theorem d7_33 : decode prog_139_method_1_code 33 = .ok (.aload_n 0, 1) := by decide +kernel
theorem d7_34 : decode prog_139_method_1_code 34 = .ok (.iload_n 2, 1) := by decide +kernel
theorem d7_35 : decode prog_139_method_1_code 35 = .ok (.putfield 28, 3) := by decide +kernel
theorem d7_38 : decode prog_139_method_1_code 38 = .ok (.return_, 1) := by decide +kernel
def Q_rm7 (Z : State) (a b : Addr) (p2 : Int32) (h0 : Heap) (n0 : Nat) (v : Option Value) (h : Heap) (L : List Loc) : Prop := v = none ∧ Fr n0 L ∧ Keep h0 h [a] ∧ Exa Z h a "com/example/palimpsest/palimpsest/history/KeyHistory" ∧ Fld Z h a "com/example/palimpsest/palimpsest/history/KeyHistory" "disorder" "Ljava/lang/String;" .null
set_option maxRecDepth 65536 in
set_option maxHeartbeats 40000000 in
theorem rm7 (l : Launch) (Z : State) (a0 : Array Value) (hw : ∀ d ∈ tables_1, d.before a0 Z = true) (ws : List Jvm.Cond) (a b : Addr) (p2 : Int32) (h0 : Heap) (n0 : Nat) (Z0 : n0 ≤ h0.size) (E_a : Exa Z h0 a "com/example/palimpsest/palimpsest/history/KeyHistory") (F_appends : Fld Z h0 a "com/example/palimpsest/palimpsest/history/KeyHistory" "appends" "Ljava/util/Map;" .null) (F_longest : Fld Z h0 a "com/example/palimpsest/palimpsest/history/KeyHistory" "longest" "[J" .null) (F_longestReader : Fld Z h0 a "com/example/palimpsest/palimpsest/history/KeyHistory" "longestReader" "I" (.int 0)) (F_name : Fld Z h0 a "com/example/palimpsest/palimpsest/history/KeyHistory" "name" "Ljava/lang/String;" .null) (F_number : Fld Z h0 a "com/example/palimpsest/palimpsest/history/KeyHistory" "number" "I" (.int 0)) (F_disorder : Fld Z h0 a "com/example/palimpsest/palimpsest/history/KeyHistory" "disorder" "Ljava/lang/String;" .null) (g_a : n0 ≤ a) :
    MetFree l (⟨"com/example/palimpsest/palimpsest/history/KeyHistory", "<init>", "(Ljava/lang/String;I)V"⟩ : MethodName) (head1 (Jvm.Cond.code (⟨"com/example/palimpsest/palimpsest/history/KeyHistory", "<init>", "(Ljava/lang/String;I)V"⟩ : MethodName) prog_139_method_1_code 3 none :: ws) ({ frames := 3, cells := 2, slots := 16, locals := 38 } : Room)) (fun ag U => ag = #[(.ref a), (.ref b), (.int p2)] ∧ Z.Warmed39 U.vm ∧ U.heap = h0) (fun _ _ _ _ _ => True) (fun _ U o U' => ∃ v L, o = .returned v ∧ Q_rm7 Z a b p2 h0 n0 v U'.heap L ∧ FrameEnd U o U' L ({ frames := 3, cells := 2, slots := 16, locals := 38 } : Room).cells ({ frames := 3, cells := 2, slots := 16, locals := 38 } : Room).slots) := by
  refine MetFree.of_bodySF (plainFor_of_name pn_3) hisR ?_
  intro p e s m args below meth c s₁ Bd hml0 hP hK
  obtain ⟨rfl, hZ, hh⟩ := hP
  have hx := Bd.exec
  have hby := Bd.bytes
  have hml : c.maxLocals = 3 := hml0
  have hown : s.vm.findClass "com/example/palimpsest/palimpsest/history/KeyHistory" = some m.cls := findClass_of_methodNamed Bd.named
  have hnm := (name_of_methodNamed Bd.named Bd.method).1
  have X0 : Stand p l e ({ frames := 3, cells := 2, slots := 16, locals := 38 } : Room) s m #[(.ref a), (.ref b), (.int p2)] below meth c s₁ [] 0 0 := Stand.of_body Bd
  have e0 : s₁.heap = h0 := by rw [← hh, Bd.state]; rfl
  have N0 := Fr.nil n0
  refine own_start (ef_rm7 m a b p2) ?_
  intro F hF
  show own_Gl p.tables e below F (s₁.setTop (mkF m 0 #[.val (.ref a), .val (.ref b), .val (.int p2)] []))
  refine own_go (fun _ k => XS.aloadN X0.here hx rfl (hb hby d7_0) rfl rfl k) ?_
  show own_Gl p.tables e below F (s₁.setTop (mkF m 1 #[.val (.ref a), .val (.ref b), .val (.int p2)] [(.ref a)]))
  obtain ⟨T1, X1, e1, st1⟩ := initO X0 hx hZ hown (hw _ (List.mem_of_getElem? (i := 36) rfl)) (hw _ (List.mem_of_getElem? (i := 12) rfl)) (hw _ (List.mem_of_getElem? (i := 13) rfl)) e0 (g := (mkF m 1 #[.val (.ref a), .val (.ref b), .val (.int p2)] [(.ref a)])) rfl (by rw [hml]; rfl) rfl (hb hby d7_1) (by decide) (W := 0) (by show 2 * 0 + _ ≤ _; exact Nat.le_of_eq rfl) (by decide)
  refine own_go st1 ?_
  show own_Gl p.tables e below F (T1.setTop (mkF m 4 #[.val (.ref a), .val (.ref b), .val (.int p2)] []))
  refine own_go (fun _ k => XS.aloadN X1.here hx rfl (hb hby d7_4) rfl rfl k) ?_
  show own_Gl p.tables e below F (T1.setTop (mkF m 5 #[.val (.ref a), .val (.ref b), .val (.int p2)] [(.ref a)]))
  obtain ⟨T2, h2, X2, e2, E2, A2, D2, -, st2⟩ := newO X1 hx hZ hown (hw _ (List.mem_of_getElem? (i := 37) rfl)) (hw _ (List.mem_of_getElem? (i := 38) rfl)) (hw _ (List.mem_of_getElem? (i := 39) rfl)) e1 (g := (mkF m 5 #[.val (.ref a), .val (.ref b), .val (.int p2)] [(.ref a)])) rfl (hb hby d7_5) (by first | decide | exact Nat.le_of_ble_eq_true rfl) (by first | decide | exact Nat.le_of_ble_eq_true rfl)
  obtain ⟨b2, g2⟩ : ∃ z, z = h0.size := ⟨_, rfl⟩
  rw [← g2] at A2 D2 st2
  have ne_a_b2 : a ≠ b2 := Nat.ne_of_lt (Nat.lt_of_lt_of_le E_a.lt (Nat.le_of_eq g2.symm))
  have ge_b2 : n0 ≤ b2 := Nat.le_trans Z0 (Nat.le_of_eq g2.symm)
  have sz_b2 : h0.size ≤ b2 := Nat.le_trans ((Keep.refl h0 [a])).1 (Nat.le_of_eq g2.symm)
  have f2_0 := E_a.ext E2
  have f2_1 := F_appends.ext E2
  have f2_2 := F_longest.ext E2
  have f2_3 := F_longestReader.ext E2
  have f2_4 := F_name.ext E2
  have f2_5 := F_number.ext E2
  have f2_6 := F_disorder.ext E2
  have Z2 : n0 ≤ h2.size := Nat.le_trans Z0 E2.1
  have K2 := Keep.ext (Keep.refl h0 [a]) E2
  have F2_loadFactor : Fld Z h2 b2 "java/util/HashMap" "loadFactor" "F" (.float 0) := D2 (Or.inr (hw _ (List.mem_of_getElem? (i := 52) rfl))) (ty := .float) (by decide)
  have X2 : Stand _ _ _ _ _ _ _ _ _ _ _ _ 1 8 := X2
  refine own_go st2 ?_
  show own_Gl p.tables e below F (T2.setTop (mkF m 8 #[.val (.ref a), .val (.ref b), .val (.int p2)] [(.ref b2), (.ref a)]))
  refine own_go (fun _ k => XS.dup X2.here hx rfl (hb hby d7_8) rfl rfl k) ?_
  show own_Gl p.tables e below F (T2.setTop (mkF m 9 #[.val (.ref a), .val (.ref b), .val (.int p2)] [(.ref b2), (.ref b2), (.ref a)]))
  obtain ⟨_, _, ⟨T3, L3, k3, n3⟩, -, X3, ⟨Lc3, hQ3, l3, y3, z3⟩, st3⟩ := X2.specialBack hx (y := (⟨"java/util/HashMap", "<init>", "()V"⟩ : MethodName)) rfl hown (mvT hZ (hw _ (List.mem_of_getElem? (i := 40) rfl))) (mvT hZ (hw _ (List.mem_of_getElem? (i := 41) rfl))) (mvT hZ (hw _ (List.mem_of_getElem? (i := 42) rfl))) (by decide) (backOf (W := 2) (rm8 l Z a0 hw [] b2  h2 n0 Z2 A2 F2_loadFactor ge_b2 ) hZ (hw _ (List.mem_of_getElem? (i := 42) rfl)) (hw _ (List.mem_of_getElem? (i := 39) rfl)) (by decide) (by decide)) (g := (mkF m 9 #[.val (.ref a), .val (.ref b), .val (.int p2)] [(.ref b2), (.ref b2), (.ref a)])) rfl (by rw [hml]; rfl) (Steps.refl _) (a := b2) (argsL := []) (rest := [(.ref b2), (.ref a)]) (lenOf pd_1 rfl) rfl (by show 2 * 0 + _ ≤ _; exact Nat.le_of_eq rfl) (hb hby d7_9) (fun _ _ => ⟨rfl, e2, (by first | decide | exact Nat.le_of_ble_eq_true rfl), (by first | decide | exact Nat.le_of_ble_eq_true rfl)⟩)
  dsimp only [Pt.U, Pt.locs, Pt.cells, Pt.slots] at X3 l3 y3 z3 st3 hQ3
  have X3 := own_sn X3 (k' := 1) (n' := 8) y3 z3
  obtain ⟨hv3, N3, K3, G3_E, G3_loadFactor⟩ := hQ3
  rw [hv3] at st3
  have NF3 := own_fr l3 N0 N3
  have f3_1 := f2_0.keep K3
  have f3_2 := f2_1.keep K3 (ninS ne_a_b2 nin0)
  have f3_3 := f2_2.keep K3 (ninS ne_a_b2 nin0)
  have f3_4 := f2_3.keep K3 (ninS ne_a_b2 nin0)
  have f3_5 := f2_4.keep K3 (ninS ne_a_b2 nin0)
  have f3_6 := f2_5.keep K3 (ninS ne_a_b2 nin0)
  have f3_7 := f2_6.keep K3 (ninS ne_a_b2 nin0)
  have f3_8 := A2.keep K3
  have Z3 : n0 ≤ T3.heap.size := Nat.le_trans Z2 K3.1
  have KK3 := Keep.trans K2 K3 (by intro z hz; simp at hz; rcases hz with rfl; all_goals first | (left; simp; done) | (right; assumption))
  refine own_go (fun _ k => st3.trans k) ?_
  show own_Gl p.tables e below F (T3.setTop (mkF m 12 #[.val (.ref a), .val (.ref b), .val (.int p2)] [(.ref b2), (.ref a)]))
  obtain ⟨T4, h4, X4, e4, W4, st4⟩ := putF X3 hx hZ hown (host := "") (Or.inl (hw _ (List.mem_of_getElem? (i := 53) rfl))) Via.refl rfl f3_2 f3_1 (Or.inr ⟨(hw _ (List.mem_of_getElem? (i := 54) rfl)), rfl, hnm⟩) (hw _ (List.mem_of_getElem? (i := 31) rfl)) (ty := (.object "java/util/Map")) (by decide) rfl rfl (g := (mkF m 12 #[.val (.ref a), .val (.ref b), .val (.int p2)] [(.ref b2), (.ref a)])) rfl rfl (hb hby d7_12)
  have Fw4 := f3_2.same W4
  have f4_1 := f3_1.wr W4
  have f4_3 := f3_3.other W4 (Or.inr (slot_ne (Or.inl (hw _ (List.mem_of_getElem? (i := 57) rfl))) (Or.inr (hw _ (List.mem_of_getElem? (i := 54) rfl))) (by decide) (t := (.array .long)) (t' := (.object "java/util/Map")) (by decide) (by decide)))
  have f4_4 := f3_4.other W4 (Or.inr (slot_ne (Or.inl (hw _ (List.mem_of_getElem? (i := 59) rfl))) (Or.inr (hw _ (List.mem_of_getElem? (i := 54) rfl))) (by decide) (t := .int) (t' := (.object "java/util/Map")) (by decide) (by decide)))
  have f4_5 := f3_5.other W4 (Or.inr (slot_ne (Or.inr (hw _ (List.mem_of_getElem? (i := 61) rfl))) (Or.inr (hw _ (List.mem_of_getElem? (i := 54) rfl))) (by decide) (t := (.object "java/lang/String")) (t' := (.object "java/util/Map")) (by decide) (by decide)))
  have f4_6 := f3_6.other W4 (Or.inr (slot_ne (Or.inr (hw _ (List.mem_of_getElem? (i := 63) rfl))) (Or.inr (hw _ (List.mem_of_getElem? (i := 54) rfl))) (by decide) (t := .int) (t' := (.object "java/util/Map")) (by decide) (by decide)))
  have f4_7 := f3_7.other W4 (Or.inr (slot_ne (Or.inl (hw _ (List.mem_of_getElem? (i := 70) rfl))) (Or.inr (hw _ (List.mem_of_getElem? (i := 54) rfl))) (by decide) (t := (.object "java/lang/String")) (t' := (.object "java/util/Map")) (by decide) (by decide)))
  have f4_8 := G3_E.wr W4
  have f4_9 := G3_loadFactor.other W4 (Or.inl (Ne.symm ne_a_b2))
  have Z4 : n0 ≤ h4.size := by rw [W4.size]; exact Z3
  have K4 := Keep.wr KK3 W4 (Or.inl (by simp))
  have N4 := Fr.snoc X4 NF3 g_a
  refine own_go st4 ?_
  show own_Gl p.tables e below F (T4.setTop (mkF m 15 #[.val (.ref a), .val (.ref b), .val (.int p2)] []))
  refine own_go (fun _ k => XS.aloadN X4.here hx rfl (hb hby d7_15) rfl rfl k) ?_
  show own_Gl p.tables e below F (T4.setTop (mkF m 16 #[.val (.ref a), .val (.ref b), .val (.int p2)] [(.ref a)]))
  refine own_go (fun _ k => XS.bipush X4.here hx rfl (hb hby d7_16) k) ?_
  show own_Gl p.tables e below F (T4.setTop (mkF m 18 #[.val (.ref a), .val (.ref b), .val (.int p2)] [(.int (8 : Int32)), (.ref a)]))
  obtain ⟨T5, h5, k5, X5, e5, E5, A5, st5⟩ := newP X4 hx hZ (hw _ (List.mem_of_getElem? (i := 55) rfl)) e4 (g := (mkF m 18 #[.val (.ref a), .val (.ref b), .val (.int p2)] [(.int (8 : Int32)), (.ref a)])) rfl (hb hby d7_18) rfl (by decide) (cap := 8) (by decide) (by decide) (by decide) (by decide)
  obtain ⟨b5, g5⟩ : ∃ z, z = h4.size := ⟨_, rfl⟩
  rw [← g5] at A5 st5
  have ne_a_b5 : a ≠ b5 := Nat.ne_of_lt (Nat.lt_of_lt_of_le f4_1.lt (Nat.le_of_eq g5.symm))
  have ne_b2_b5 : b2 ≠ b5 := Nat.ne_of_lt (Nat.lt_of_lt_of_le f4_8.lt (Nat.le_of_eq g5.symm))
  have ge_b5 : n0 ≤ b5 := Nat.le_trans Z4 (Nat.le_of_eq g5.symm)
  have sz_b5 : h0.size ≤ b5 := Nat.le_trans (K4).1 (Nat.le_of_eq g5.symm)
  have f5_0 := f4_1.ext E5
  have f5_1 := Fw4.ext E5
  have f5_2 := f4_3.ext E5
  have f5_3 := f4_4.ext E5
  have f5_4 := f4_5.ext E5
  have f5_5 := f4_6.ext E5
  have f5_6 := f4_7.ext E5
  have f5_7 := f4_8.ext E5
  have f5_8 := f4_9.ext E5
  have Z5 : n0 ≤ h5.size := Nat.le_trans Z4 E5.1
  have K5 := Keep.ext K4 E5
  have V5 : Arv Z h5 b5 k5 .long (8 : Int32) [(.long (0 : Int64)), (.long (0 : Int64)), (.long (0 : Int64)), (.long (0 : Int64)), (.long (0 : Int64)), (.long (0 : Int64)), (.long (0 : Int64)), (.long (0 : Int64))] (.long (0 : Int64)) := (Arv.new A5 (by decide)).pad (pad_rep [] (.long (0 : Int64)) 8)
  have X5 : Stand _ _ _ _ _ _ _ _ _ _ _ _ 2 16 := X5
  refine own_go st5 ?_
  show own_Gl p.tables e below F (T5.setTop (mkF m 20 #[.val (.ref a), .val (.ref b), .val (.int p2)] [(.ref b5), (.ref a)]))
  obtain ⟨T6, h6, X6, e6, W6, st6⟩ := putF X5 hx hZ hown (host := "") (Or.inl (hw _ (List.mem_of_getElem? (i := 56) rfl))) Via.refl e5 f5_2 f5_0 (Or.inl (hw _ (List.mem_of_getElem? (i := 57) rfl))) (hw _ (List.mem_of_getElem? (i := 31) rfl)) (ty := (.array .long)) (by decide) rfl rfl (g := (mkF m 20 #[.val (.ref a), .val (.ref b), .val (.int p2)] [(.ref b5), (.ref a)])) rfl rfl (hb hby d7_20)
  have Fw6 := f5_2.same W6
  have f6_1 := f5_0.wr W6
  have f6_2 := f5_1.other W6 (Or.inr (slot_ne (Or.inr (hw _ (List.mem_of_getElem? (i := 54) rfl))) (Or.inl (hw _ (List.mem_of_getElem? (i := 57) rfl))) (by decide) (t := (.object "java/util/Map")) (t' := (.array .long)) (by decide) (by decide)))
  have f6_4 := f5_3.other W6 (Or.inr (slot_ne (Or.inl (hw _ (List.mem_of_getElem? (i := 59) rfl))) (Or.inl (hw _ (List.mem_of_getElem? (i := 57) rfl))) (by decide) (t := .int) (t' := (.array .long)) (by decide) (by decide)))
  have f6_5 := f5_4.other W6 (Or.inr (slot_ne (Or.inr (hw _ (List.mem_of_getElem? (i := 61) rfl))) (Or.inl (hw _ (List.mem_of_getElem? (i := 57) rfl))) (by decide) (t := (.object "java/lang/String")) (t' := (.array .long)) (by decide) (by decide)))
  have f6_6 := f5_5.other W6 (Or.inr (slot_ne (Or.inr (hw _ (List.mem_of_getElem? (i := 63) rfl))) (Or.inl (hw _ (List.mem_of_getElem? (i := 57) rfl))) (by decide) (t := .int) (t' := (.array .long)) (by decide) (by decide)))
  have f6_7 := f5_6.other W6 (Or.inr (slot_ne (Or.inl (hw _ (List.mem_of_getElem? (i := 70) rfl))) (Or.inl (hw _ (List.mem_of_getElem? (i := 57) rfl))) (by decide) (t := (.object "java/lang/String")) (t' := (.array .long)) (by decide) (by decide)))
  have f6_8 := f5_7.wr W6
  have f6_9 := f5_8.other W6 (Or.inl (Ne.symm ne_a_b2))
  have f6_10 := V5.other W6 (Ne.symm ne_a_b5)
  have Z6 : n0 ≤ h6.size := by rw [W6.size]; exact Z5
  have K6 := Keep.wr K5 W6 (Or.inl (by simp))
  have N6 := Fr.snoc X6 N4 g_a
  refine own_go st6 ?_
  show own_Gl p.tables e below F (T6.setTop (mkF m 23 #[.val (.ref a), .val (.ref b), .val (.int p2)] []))
  refine own_go (fun _ k => XS.aloadN X6.here hx rfl (hb hby d7_23) rfl rfl k) ?_
  show own_Gl p.tables e below F (T6.setTop (mkF m 24 #[.val (.ref a), .val (.ref b), .val (.int p2)] [(.ref a)]))
  refine own_go (fun _ k => XS.iconst X6.here hx rfl (hb hby d7_24) k) ?_
  show own_Gl p.tables e below F (T6.setTop (mkF m 25 #[.val (.ref a), .val (.ref b), .val (.int p2)] [(.int (-1 : Int32)), (.ref a)]))
  obtain ⟨T7, h7, X7, e7, W7, st7⟩ := putF X6 hx hZ hown (host := "") (Or.inl (hw _ (List.mem_of_getElem? (i := 58) rfl))) Via.refl e6 f6_4 f6_1 (Or.inl (hw _ (List.mem_of_getElem? (i := 59) rfl))) (hw _ (List.mem_of_getElem? (i := 31) rfl)) (ty := .int) (by decide) rfl rfl (g := (mkF m 25 #[.val (.ref a), .val (.ref b), .val (.int p2)] [(.int (-1 : Int32)), (.ref a)])) rfl rfl (hb hby d7_25)
  have Fw7 := f6_4.same W7
  have f7_1 := f6_1.wr W7
  have f7_2 := f6_2.other W7 (Or.inr (slot_ne (Or.inr (hw _ (List.mem_of_getElem? (i := 54) rfl))) (Or.inl (hw _ (List.mem_of_getElem? (i := 59) rfl))) (by decide) (t := (.object "java/util/Map")) (t' := .int) (by decide) (by decide)))
  have f7_3 := Fw6.other W7 (Or.inr (slot_ne (Or.inl (hw _ (List.mem_of_getElem? (i := 57) rfl))) (Or.inl (hw _ (List.mem_of_getElem? (i := 59) rfl))) (by decide) (t := (.array .long)) (t' := .int) (by decide) (by decide)))
  have f7_5 := f6_5.other W7 (Or.inr (slot_ne (Or.inr (hw _ (List.mem_of_getElem? (i := 61) rfl))) (Or.inl (hw _ (List.mem_of_getElem? (i := 59) rfl))) (by decide) (t := (.object "java/lang/String")) (t' := .int) (by decide) (by decide)))
  have f7_6 := f6_6.other W7 (Or.inr (slot_ne (Or.inr (hw _ (List.mem_of_getElem? (i := 63) rfl))) (Or.inl (hw _ (List.mem_of_getElem? (i := 59) rfl))) (by decide) (t := .int) (t' := .int) (by decide) (by decide)))
  have f7_7 := f6_7.other W7 (Or.inr (slot_ne (Or.inl (hw _ (List.mem_of_getElem? (i := 70) rfl))) (Or.inl (hw _ (List.mem_of_getElem? (i := 59) rfl))) (by decide) (t := (.object "java/lang/String")) (t' := .int) (by decide) (by decide)))
  have f7_8 := f6_8.wr W7
  have f7_9 := f6_9.other W7 (Or.inl (Ne.symm ne_a_b2))
  have f7_10 := f6_10.other W7 (Ne.symm ne_a_b5)
  have Z7 : n0 ≤ h7.size := by rw [W7.size]; exact Z6
  have K7 := Keep.wr K6 W7 (Or.inl (by simp))
  have N7 := Fr.snoc X7 N6 g_a
  refine own_go st7 ?_
  show own_Gl p.tables e below F (T7.setTop (mkF m 28 #[.val (.ref a), .val (.ref b), .val (.int p2)] []))
  refine own_go (fun _ k => XS.aloadN X7.here hx rfl (hb hby d7_28) rfl rfl k) ?_
  show own_Gl p.tables e below F (T7.setTop (mkF m 29 #[.val (.ref a), .val (.ref b), .val (.int p2)] [(.ref a)]))
  refine own_go (fun _ k => XS.aloadN X7.here hx rfl (hb hby d7_29) rfl rfl k) ?_
  show own_Gl p.tables e below F (T7.setTop (mkF m 30 #[.val (.ref a), .val (.ref b), .val (.int p2)] [(.ref b), (.ref a)]))
  obtain ⟨T8, h8, X8, e8, W8, st8⟩ := putF X7 hx hZ hown (host := "") (Or.inl (hw _ (List.mem_of_getElem? (i := 60) rfl))) Via.refl e7 f7_5 f7_1 (Or.inr ⟨(hw _ (List.mem_of_getElem? (i := 61) rfl)), rfl, hnm⟩) (hw _ (List.mem_of_getElem? (i := 31) rfl)) (ty := (.object "java/lang/String")) (by decide) rfl rfl (g := (mkF m 30 #[.val (.ref a), .val (.ref b), .val (.int p2)] [(.ref b), (.ref a)])) rfl rfl (hb hby d7_30)
  have Fw8 := f7_5.same W8
  have f8_1 := f7_1.wr W8
  have f8_2 := f7_2.other W8 (Or.inr (slot_ne (Or.inr (hw _ (List.mem_of_getElem? (i := 54) rfl))) (Or.inr (hw _ (List.mem_of_getElem? (i := 61) rfl))) (by decide) (t := (.object "java/util/Map")) (t' := (.object "java/lang/String")) (by decide) (by decide)))
  have f8_3 := f7_3.other W8 (Or.inr (slot_ne (Or.inl (hw _ (List.mem_of_getElem? (i := 57) rfl))) (Or.inr (hw _ (List.mem_of_getElem? (i := 61) rfl))) (by decide) (t := (.array .long)) (t' := (.object "java/lang/String")) (by decide) (by decide)))
  have f8_4 := Fw7.other W8 (Or.inr (slot_ne (Or.inl (hw _ (List.mem_of_getElem? (i := 59) rfl))) (Or.inr (hw _ (List.mem_of_getElem? (i := 61) rfl))) (by decide) (t := .int) (t' := (.object "java/lang/String")) (by decide) (by decide)))
  have f8_6 := f7_6.other W8 (Or.inr (slot_ne (Or.inr (hw _ (List.mem_of_getElem? (i := 63) rfl))) (Or.inr (hw _ (List.mem_of_getElem? (i := 61) rfl))) (by decide) (t := .int) (t' := (.object "java/lang/String")) (by decide) (by decide)))
  have f8_7 := f7_7.other W8 (Or.inr (slot_ne (Or.inl (hw _ (List.mem_of_getElem? (i := 70) rfl))) (Or.inr (hw _ (List.mem_of_getElem? (i := 61) rfl))) (by decide) (t := (.object "java/lang/String")) (t' := (.object "java/lang/String")) (by decide) (by decide)))
  have f8_8 := f7_8.wr W8
  have f8_9 := f7_9.other W8 (Or.inl (Ne.symm ne_a_b2))
  have f8_10 := f7_10.other W8 (Ne.symm ne_a_b5)
  have Z8 : n0 ≤ h8.size := by rw [W8.size]; exact Z7
  have K8 := Keep.wr K7 W8 (Or.inl (by simp))
  have N8 := Fr.snoc X8 N7 g_a
  refine own_go st8 ?_
  show own_Gl p.tables e below F (T8.setTop (mkF m 33 #[.val (.ref a), .val (.ref b), .val (.int p2)] []))
  refine own_go (fun _ k => XS.aloadN X8.here hx rfl (hb hby d7_33) rfl rfl k) ?_
  show own_Gl p.tables e below F (T8.setTop (mkF m 34 #[.val (.ref a), .val (.ref b), .val (.int p2)] [(.ref a)]))
  refine own_go (fun _ k => XS.iloadN X8.here hx rfl (hb hby d7_34) rfl k) ?_
  show own_Gl p.tables e below F (T8.setTop (mkF m 35 #[.val (.ref a), .val (.ref b), .val (.int p2)] [(.int p2), (.ref a)]))
  obtain ⟨T9, h9, X9, e9, W9, st9⟩ := putF X8 hx hZ hown (host := "") (Or.inl (hw _ (List.mem_of_getElem? (i := 62) rfl))) Via.refl e8 f8_6 f8_1 (Or.inr ⟨(hw _ (List.mem_of_getElem? (i := 63) rfl)), rfl, hnm⟩) (hw _ (List.mem_of_getElem? (i := 31) rfl)) (ty := .int) (by decide) rfl rfl (g := (mkF m 35 #[.val (.ref a), .val (.ref b), .val (.int p2)] [(.int p2), (.ref a)])) rfl rfl (hb hby d7_35)
  have Fw9 := f8_6.same W9
  have f9_1 := f8_1.wr W9
  have f9_2 := f8_2.other W9 (Or.inr (slot_ne (Or.inr (hw _ (List.mem_of_getElem? (i := 54) rfl))) (Or.inr (hw _ (List.mem_of_getElem? (i := 63) rfl))) (by decide) (t := (.object "java/util/Map")) (t' := .int) (by decide) (by decide)))
  have f9_3 := f8_3.other W9 (Or.inr (slot_ne (Or.inl (hw _ (List.mem_of_getElem? (i := 57) rfl))) (Or.inr (hw _ (List.mem_of_getElem? (i := 63) rfl))) (by decide) (t := (.array .long)) (t' := .int) (by decide) (by decide)))
  have f9_4 := f8_4.other W9 (Or.inr (slot_ne (Or.inl (hw _ (List.mem_of_getElem? (i := 59) rfl))) (Or.inr (hw _ (List.mem_of_getElem? (i := 63) rfl))) (by decide) (t := .int) (t' := .int) (by decide) (by decide)))
  have f9_5 := Fw8.other W9 (Or.inr (slot_ne (Or.inr (hw _ (List.mem_of_getElem? (i := 61) rfl))) (Or.inr (hw _ (List.mem_of_getElem? (i := 63) rfl))) (by decide) (t := (.object "java/lang/String")) (t' := .int) (by decide) (by decide)))
  have f9_7 := f8_7.other W9 (Or.inr (slot_ne (Or.inl (hw _ (List.mem_of_getElem? (i := 70) rfl))) (Or.inr (hw _ (List.mem_of_getElem? (i := 63) rfl))) (by decide) (t := (.object "java/lang/String")) (t' := .int) (by decide) (by decide)))
  have f9_8 := f8_8.wr W9
  have f9_9 := f8_9.other W9 (Or.inl (Ne.symm ne_a_b2))
  have f9_10 := f8_10.other W9 (Ne.symm ne_a_b5)
  have Z9 : n0 ≤ h9.size := by rw [W9.size]; exact Z8
  have K9 := Keep.wr K8 W9 (Or.inl (by simp))
  have N9 := Fr.snoc X9 N8 g_a
  refine own_go st9 ?_
  show own_Gl p.tables e below F (T9.setTop (mkF m 38 #[.val (.ref a), .val (.ref b), .val (.int p2)] []))
  obtain ⟨fs, hr, hrun, hended, hW, hsame⟩ := X9.leave (v := none) (fun _ => rfl)
  subst hF
  refine own_fin ?_ ⟨hrun, hended, _, _, rfl, ?_, ⟨_, rfl⟩, hW, hsame.mono (by first | decide | exact Nat.le_of_ble_eq_true rfl) (by first | decide | exact Nat.le_of_ble_eq_true rfl)⟩
  · exact X9.returnOut hx Bd.returns (hb hby d7_38) hr
  · show Q_rm7 Z _ _ _ h0 n0 _ T9.heap _
    rw [e9]
    exact ⟨rfl, N9, K9, f9_1, f9_7⟩
theorem ef_rm10 (m : MethodId) (x0 : Addr) : entryFrame m #[(.ref x0)] 1 = mkF m 0 #[.val (.ref x0)] [] := by first | (simp [entryFrame, mkF, argsToLocals, Value.category]; done) | rfl
theorem d10_0 : decode prog_139_method_6_code 0 = .ok (.aload_n 0, 1) := by decide +kernel
theorem d10_1 : decode prog_139_method_6_code 1 = .ok (.getfield 59, 3) := by decide +kernel
theorem d10_4 : decode prog_139_method_6_code 4 = .ok (.areturn, 1) := by decide +kernel
def Q_rm10 (Z : State) (a : Addr) (x : Value) (h0 : Heap) (n0 : Nat) (v : Option Value) (h : Heap) (L : List Loc) : Prop := v = some x ∧ Fr n0 L ∧ h = h0
set_option maxRecDepth 65536 in
set_option maxHeartbeats 40000000 in
theorem rm10 (l : Launch) (Z : State) (a0 : Array Value) (hw : ∀ d ∈ tables_1, d.before a0 Z = true) (ws : List Jvm.Cond) (a : Addr) (x : Value) (h0 : Heap) (n0 : Nat) (Z0 : n0 ≤ h0.size) (hr0 : x.isRef = true) (F0 : Fld Z h0 a "com/example/palimpsest/palimpsest/history/KeyHistory" "disorder" "Ljava/lang/String;" x) :
    MetFree l (⟨"com/example/palimpsest/palimpsest/history/KeyHistory", "disorder", "()Ljava/lang/String;"⟩ : MethodName) (head1 (Jvm.Cond.code (⟨"com/example/palimpsest/palimpsest/history/KeyHistory", "disorder", "()Ljava/lang/String;"⟩ : MethodName) prog_139_method_6_code 1 (some (.object "java/lang/String")) :: ws) ({ frames := 0, cells := 0, slots := 0, locals := 0 } : Room)) (fun ag U => ag = #[(.ref a)] ∧ Z.Warmed39 U.vm ∧ U.heap = h0) (fun _ _ _ _ _ => True) (fun _ U o U' => ∃ v L, o = .returned v ∧ Q_rm10 Z a x h0 n0 v U'.heap L ∧ FrameEnd U o U' L ({ frames := 0, cells := 0, slots := 0, locals := 0 } : Room).cells ({ frames := 0, cells := 0, slots := 0, locals := 0 } : Room).slots) := by
  refine MetFree.of_bodySF (plainFor_of_name pn_3) hisR ?_
  intro p e s m args below meth c s₁ Bd hml0 hP hK
  obtain ⟨rfl, hZ, hh⟩ := hP
  have hx := Bd.exec
  have hby := Bd.bytes
  have hml : c.maxLocals = 1 := hml0
  have hown : s.vm.findClass "com/example/palimpsest/palimpsest/history/KeyHistory" = some m.cls := findClass_of_methodNamed Bd.named
  have hnm := (name_of_methodNamed Bd.named Bd.method).1
  have X0 : Stand p l e ({ frames := 0, cells := 0, slots := 0, locals := 0 } : Room) s m #[(.ref a)] below meth c s₁ [] 0 0 := Stand.of_body Bd
  have e0 : s₁.heap = h0 := by rw [← hh, Bd.state]; rfl
  have N0 := Fr.nil n0
  refine own_start (ef_rm10 m a) ?_
  intro F hF
  show own_Gl p.tables e below F (s₁.setTop (mkF m 0 #[.val (.ref a)] []))
  refine own_go (fun _ k => XS.aloadN X0.here hx rfl (hb hby d10_0) rfl rfl k) ?_
  show own_Gl p.tables e below F (s₁.setTop (mkF m 1 #[.val (.ref a)] [(.ref a)]))
  obtain ⟨T1, X1, e1, st1⟩ := getF X0 hx hZ hown (host := "") (Or.inl (hw _ (List.mem_of_getElem? (i := 69) rfl))) Via.refl e0 F0 (g := (mkF m 1 #[.val (.ref a)] [(.ref a)])) rfl rfl (hb hby d10_1)
  refine own_go st1 ?_
  show own_Gl p.tables e below F (T1.setTop (mkF m 4 #[.val (.ref a)] [x]))
  obtain ⟨fs, hr, hrun, hended, hW, hsame⟩ := X1.leave (v := some x) (fun h => by rw [Bd.returns] at h; cases h)
  subst hF
  refine own_fin ?_ ⟨hrun, hended, _, _, rfl, ?_, ⟨_, rfl⟩, hW, hsame.mono (by first | decide | exact Nat.le_of_ble_eq_true rfl) (by first | decide | exact Nat.le_of_ble_eq_true rfl)⟩
  · exact own_retA X1 hx Bd.returns rfl hr0 (hb hby d10_4) hr
  · show Q_rm10 Z _ _ h0 n0 _ T1.heap _
    rw [e1]
    exact ⟨rfl, N0, rfl⟩
theorem ef_rm11_NN (m : MethodId) (x0 : Addr) : entryFrame m #[(.ref x0), .null] 2 = mkF m 0 #[.val (.ref x0), .val .null] [] := by first | (simp [entryFrame, mkF, argsToLocals, Value.category]; done) | rfl
theorem d11_0 : decode prog_139_method_7_code 0 = .ok (.aload_n 0, 1) := by decide +kernel
theorem d11_1 : decode prog_139_method_7_code 1 = .ok (.getfield 59, 3) := by decide +kernel
theorem d11_4 : decode prog_139_method_7_code 4 = .ok (.ifnonnull 8, 3) := by decide +kernel
theorem d11_7 : decode prog_139_method_7_code 7 = .ok (.aload_n 0, 1) := by decide +kernel
theorem d11_8 : decode prog_139_method_7_code 8 = .ok (.aload_n 1, 1) := by decide +kernel
theorem d11_9 : decode prog_139_method_7_code 9 = .ok (.putfield 59, 3) := by decide +kernel
theorem d11_12 : decode prog_139_method_7_code 12 = .ok (.return_, 1) := by decide +kernel
def Q_rm11_NN (Z : State) (a : Addr) (h0 : Heap) (n0 : Nat) (v : Option Value) (h : Heap) (L : List Loc) : Prop := v = none ∧ Fr n0 L ∧ Keep h0 h [a] ∧ Exa Z h a "com/example/palimpsest/palimpsest/history/KeyHistory" ∧ Fld Z h a "com/example/palimpsest/palimpsest/history/KeyHistory" "disorder" "Ljava/lang/String;" .null
set_option maxRecDepth 65536 in
set_option maxHeartbeats 40000000 in
theorem rm11_NN (l : Launch) (Z : State) (a0 : Array Value) (hw : ∀ d ∈ tables_1, d.before a0 Z = true) (ws : List Jvm.Cond) (a : Addr) (h0 : Heap) (n0 : Nat) (Z0 : n0 ≤ h0.size) (E_a : Exa Z h0 a "com/example/palimpsest/palimpsest/history/KeyHistory") (F0 : Fld Z h0 a "com/example/palimpsest/palimpsest/history/KeyHistory" "disorder" "Ljava/lang/String;" .null) (g_a : n0 ≤ a) :
    MetFree l (⟨"com/example/palimpsest/palimpsest/history/KeyHistory", "disorder", "(Ljava/lang/String;)V"⟩ : MethodName) (head1 (Jvm.Cond.code (⟨"com/example/palimpsest/palimpsest/history/KeyHistory", "disorder", "(Ljava/lang/String;)V"⟩ : MethodName) prog_139_method_7_code 2 none :: ws) ({ frames := 0, cells := 0, slots := 0, locals := 0 } : Room)) (fun ag U => ag = #[(.ref a), .null] ∧ Z.Warmed39 U.vm ∧ U.heap = h0) (fun _ _ _ _ _ => True) (fun _ U o U' => ∃ v L, o = .returned v ∧ Q_rm11_NN Z a h0 n0 v U'.heap L ∧ FrameEnd U o U' L ({ frames := 0, cells := 0, slots := 0, locals := 0 } : Room).cells ({ frames := 0, cells := 0, slots := 0, locals := 0 } : Room).slots) := by
  refine MetFree.of_bodySF (plainFor_of_name pn_3) hisR ?_
  intro p e s m args below meth c s₁ Bd hml0 hP hK
  obtain ⟨rfl, hZ, hh⟩ := hP
  have hx := Bd.exec
  have hby := Bd.bytes
  have hml : c.maxLocals = 2 := hml0
  have hown : s.vm.findClass "com/example/palimpsest/palimpsest/history/KeyHistory" = some m.cls := findClass_of_methodNamed Bd.named
  have hnm := (name_of_methodNamed Bd.named Bd.method).1
  have X0 : Stand p l e ({ frames := 0, cells := 0, slots := 0, locals := 0 } : Room) s m #[(.ref a), .null] below meth c s₁ [] 0 0 := Stand.of_body Bd
  have e0 : s₁.heap = h0 := by rw [← hh, Bd.state]; rfl
  have N0 := Fr.nil n0
  refine own_start (ef_rm11_NN m a) ?_
  intro F hF
  show own_Gl p.tables e below F (s₁.setTop (mkF m 0 #[.val (.ref a), .val .null] []))
  refine own_go (fun _ k => XS.aloadN X0.here hx rfl (hb hby d11_0) rfl rfl k) ?_
  show own_Gl p.tables e below F (s₁.setTop (mkF m 1 #[.val (.ref a), .val .null] [(.ref a)]))
  obtain ⟨T1, X1, e1, st1⟩ := getF X0 hx hZ hown (host := "") (Or.inl (hw _ (List.mem_of_getElem? (i := 69) rfl))) Via.refl e0 F0 (g := (mkF m 1 #[.val (.ref a), .val .null] [(.ref a)])) rfl rfl (hb hby d11_1)
  refine own_go st1 ?_
  show own_Gl p.tables e below F (T1.setTop (mkF m 4 #[.val (.ref a), .val .null] [.null]))
  refine own_go (fun _ k => XS.ifnonnullNo X1.here hx rfl (hb hby d11_4) rfl k) ?_
  show own_Gl p.tables e below F (T1.setTop (mkF m 7 #[.val (.ref a), .val .null] []))
  refine own_go (fun _ k => XS.aloadN X1.here hx rfl (hb hby d11_7) rfl rfl k) ?_
  show own_Gl p.tables e below F (T1.setTop (mkF m 8 #[.val (.ref a), .val .null] [(.ref a)]))
  refine own_go (fun _ k => XS.aloadN X1.here hx rfl (hb hby d11_8) rfl rfl k) ?_
  show own_Gl p.tables e below F (T1.setTop (mkF m 9 #[.val (.ref a), .val .null] [.null, (.ref a)]))
  obtain ⟨T2, h2, X2, e2, W2, st2⟩ := putF X1 hx hZ hown (host := "") (Or.inl (hw _ (List.mem_of_getElem? (i := 69) rfl))) Via.refl e1 F0 E_a (Or.inl (hw _ (List.mem_of_getElem? (i := 70) rfl))) (hw _ (List.mem_of_getElem? (i := 31) rfl)) (ty := (.object "java/lang/String")) (by decide) rfl rfl (g := (mkF m 9 #[.val (.ref a), .val .null] [.null, (.ref a)])) rfl rfl (hb hby d11_9)
  have Fw2 := F0.same W2
  have f2_1 := E_a.wr W2
  have Z2 : n0 ≤ h2.size := by rw [W2.size]; exact Z0
  have K2 := Keep.wr (Keep.refl h0 [a]) W2 (Or.inl (by simp))
  have N2 := Fr.snoc X2 N0 g_a
  refine own_go st2 ?_
  show own_Gl p.tables e below F (T2.setTop (mkF m 12 #[.val (.ref a), .val .null] []))
  obtain ⟨fs, hr, hrun, hended, hW, hsame⟩ := X2.leave (v := none) (fun _ => rfl)
  subst hF
  refine own_fin ?_ ⟨hrun, hended, _, _, rfl, ?_, ⟨_, rfl⟩, hW, hsame.mono (by first | decide | exact Nat.le_of_ble_eq_true rfl) (by first | decide | exact Nat.le_of_ble_eq_true rfl)⟩
  · exact X2.returnOut hx Bd.returns (hb hby d11_12) hr
  · show Q_rm11_NN Z _ h0 n0 _ T2.heap _
    rw [e2]
    exact ⟨rfl, N2, K2, f2_1, Fw2⟩
theorem ef_rm11_NR (m : MethodId) (x0 : Addr) (x1 : Addr) : entryFrame m #[(.ref x0), (.ref x1)] 2 = mkF m 0 #[.val (.ref x0), .val (.ref x1)] [] := by first | (simp [entryFrame, mkF, argsToLocals, Value.category]; done) | rfl
def Q_rm11_NR (Z : State) (a : Addr) (b : Addr) (h0 : Heap) (n0 : Nat) (v : Option Value) (h : Heap) (L : List Loc) : Prop := v = none ∧ Fr n0 L ∧ Keep h0 h [a] ∧ Exa Z h a "com/example/palimpsest/palimpsest/history/KeyHistory" ∧ Fld Z h a "com/example/palimpsest/palimpsest/history/KeyHistory" "disorder" "Ljava/lang/String;" (.ref b)
set_option maxRecDepth 65536 in
set_option maxHeartbeats 40000000 in
theorem rm11_NR (l : Launch) (Z : State) (a0 : Array Value) (hw : ∀ d ∈ tables_1, d.before a0 Z = true) (ws : List Jvm.Cond) (a : Addr) (b : Addr) (h0 : Heap) (n0 : Nat) (Z0 : n0 ≤ h0.size) (E_a : Exa Z h0 a "com/example/palimpsest/palimpsest/history/KeyHistory") (F0 : Fld Z h0 a "com/example/palimpsest/palimpsest/history/KeyHistory" "disorder" "Ljava/lang/String;" .null) (g_a : n0 ≤ a) :
    MetFree l (⟨"com/example/palimpsest/palimpsest/history/KeyHistory", "disorder", "(Ljava/lang/String;)V"⟩ : MethodName) (head1 (Jvm.Cond.code (⟨"com/example/palimpsest/palimpsest/history/KeyHistory", "disorder", "(Ljava/lang/String;)V"⟩ : MethodName) prog_139_method_7_code 2 none :: ws) ({ frames := 0, cells := 0, slots := 0, locals := 0 } : Room)) (fun ag U => ag = #[(.ref a), (.ref b)] ∧ Z.Warmed39 U.vm ∧ U.heap = h0) (fun _ _ _ _ _ => True) (fun _ U o U' => ∃ v L, o = .returned v ∧ Q_rm11_NR Z a b h0 n0 v U'.heap L ∧ FrameEnd U o U' L ({ frames := 0, cells := 0, slots := 0, locals := 0 } : Room).cells ({ frames := 0, cells := 0, slots := 0, locals := 0 } : Room).slots) := by
  refine MetFree.of_bodySF (plainFor_of_name pn_3) hisR ?_
  intro p e s m args below meth c s₁ Bd hml0 hP hK
  obtain ⟨rfl, hZ, hh⟩ := hP
  have hx := Bd.exec
  have hby := Bd.bytes
  have hml : c.maxLocals = 2 := hml0
  have hown : s.vm.findClass "com/example/palimpsest/palimpsest/history/KeyHistory" = some m.cls := findClass_of_methodNamed Bd.named
  have hnm := (name_of_methodNamed Bd.named Bd.method).1
  have X0 : Stand p l e ({ frames := 0, cells := 0, slots := 0, locals := 0 } : Room) s m #[(.ref a), (.ref b)] below meth c s₁ [] 0 0 := Stand.of_body Bd
  have e0 : s₁.heap = h0 := by rw [← hh, Bd.state]; rfl
  have N0 := Fr.nil n0
  refine own_start (ef_rm11_NR m a b) ?_
  intro F hF
  show own_Gl p.tables e below F (s₁.setTop (mkF m 0 #[.val (.ref a), .val (.ref b)] []))
  refine own_go (fun _ k => XS.aloadN X0.here hx rfl (hb hby d11_0) rfl rfl k) ?_
  show own_Gl p.tables e below F (s₁.setTop (mkF m 1 #[.val (.ref a), .val (.ref b)] [(.ref a)]))
  obtain ⟨T1, X1, e1, st1⟩ := getF X0 hx hZ hown (host := "") (Or.inl (hw _ (List.mem_of_getElem? (i := 69) rfl))) Via.refl e0 F0 (g := (mkF m 1 #[.val (.ref a), .val (.ref b)] [(.ref a)])) rfl rfl (hb hby d11_1)
  refine own_go st1 ?_
  show own_Gl p.tables e below F (T1.setTop (mkF m 4 #[.val (.ref a), .val (.ref b)] [.null]))
  refine own_go (fun _ k => XS.ifnonnullNo X1.here hx rfl (hb hby d11_4) rfl k) ?_
  show own_Gl p.tables e below F (T1.setTop (mkF m 7 #[.val (.ref a), .val (.ref b)] []))
  refine own_go (fun _ k => XS.aloadN X1.here hx rfl (hb hby d11_7) rfl rfl k) ?_
  show own_Gl p.tables e below F (T1.setTop (mkF m 8 #[.val (.ref a), .val (.ref b)] [(.ref a)]))
  refine own_go (fun _ k => XS.aloadN X1.here hx rfl (hb hby d11_8) rfl rfl k) ?_
  show own_Gl p.tables e below F (T1.setTop (mkF m 9 #[.val (.ref a), .val (.ref b)] [(.ref b), (.ref a)]))
  obtain ⟨T2, h2, X2, e2, W2, st2⟩ := putF X1 hx hZ hown (host := "") (Or.inl (hw _ (List.mem_of_getElem? (i := 69) rfl))) Via.refl e1 F0 E_a (Or.inl (hw _ (List.mem_of_getElem? (i := 70) rfl))) (hw _ (List.mem_of_getElem? (i := 31) rfl)) (ty := (.object "java/lang/String")) (by decide) rfl rfl (g := (mkF m 9 #[.val (.ref a), .val (.ref b)] [(.ref b), (.ref a)])) rfl rfl (hb hby d11_9)
  have Fw2 := F0.same W2
  have f2_1 := E_a.wr W2
  have Z2 : n0 ≤ h2.size := by rw [W2.size]; exact Z0
  have K2 := Keep.wr (Keep.refl h0 [a]) W2 (Or.inl (by simp))
  have N2 := Fr.snoc X2 N0 g_a
  refine own_go st2 ?_
  show own_Gl p.tables e below F (T2.setTop (mkF m 12 #[.val (.ref a), .val (.ref b)] []))
  obtain ⟨fs, hr, hrun, hended, hW, hsame⟩ := X2.leave (v := none) (fun _ => rfl)
  subst hF
  refine own_fin ?_ ⟨hrun, hended, _, _, rfl, ?_, ⟨_, rfl⟩, hW, hsame.mono (by first | decide | exact Nat.le_of_ble_eq_true rfl) (by first | decide | exact Nat.le_of_ble_eq_true rfl)⟩
  · exact X2.returnOut hx Bd.returns (hb hby d11_12) hr
  · show Q_rm11_NR Z _ _ h0 n0 _ T2.heap _
    rw [e2]
    exact ⟨rfl, N2, K2, f2_1, Fw2⟩
theorem ef_rm11_RN (m : MethodId) (x0 : Addr) : entryFrame m #[(.ref x0), .null] 2 = mkF m 0 #[.val (.ref x0), .val .null] [] := by first | (simp [entryFrame, mkF, argsToLocals, Value.category]; done) | rfl
def Q_rm11_RN (Z : State) (a : Addr) (x : Addr) (h0 : Heap) (n0 : Nat) (v : Option Value) (h : Heap) (L : List Loc) : Prop := v = none ∧ Fr n0 L ∧ h = h0
set_option maxRecDepth 65536 in
set_option maxHeartbeats 40000000 in
theorem rm11_RN (l : Launch) (Z : State) (a0 : Array Value) (hw : ∀ d ∈ tables_1, d.before a0 Z = true) (ws : List Jvm.Cond) (a : Addr) (x : Addr) (h0 : Heap) (n0 : Nat) (Z0 : n0 ≤ h0.size) (E_a : Exa Z h0 a "com/example/palimpsest/palimpsest/history/KeyHistory") (F0 : Fld Z h0 a "com/example/palimpsest/palimpsest/history/KeyHistory" "disorder" "Ljava/lang/String;" (.ref x)) (g_a : n0 ≤ a) :
    MetFree l (⟨"com/example/palimpsest/palimpsest/history/KeyHistory", "disorder", "(Ljava/lang/String;)V"⟩ : MethodName) (head1 (Jvm.Cond.code (⟨"com/example/palimpsest/palimpsest/history/KeyHistory", "disorder", "(Ljava/lang/String;)V"⟩ : MethodName) prog_139_method_7_code 2 none :: ws) ({ frames := 0, cells := 0, slots := 0, locals := 0 } : Room)) (fun ag U => ag = #[(.ref a), .null] ∧ Z.Warmed39 U.vm ∧ U.heap = h0) (fun _ _ _ _ _ => True) (fun _ U o U' => ∃ v L, o = .returned v ∧ Q_rm11_RN Z a x h0 n0 v U'.heap L ∧ FrameEnd U o U' L ({ frames := 0, cells := 0, slots := 0, locals := 0 } : Room).cells ({ frames := 0, cells := 0, slots := 0, locals := 0 } : Room).slots) := by
  refine MetFree.of_bodySF (plainFor_of_name pn_3) hisR ?_
  intro p e s m args below meth c s₁ Bd hml0 hP hK
  obtain ⟨rfl, hZ, hh⟩ := hP
  have hx := Bd.exec
  have hby := Bd.bytes
  have hml : c.maxLocals = 2 := hml0
  have hown : s.vm.findClass "com/example/palimpsest/palimpsest/history/KeyHistory" = some m.cls := findClass_of_methodNamed Bd.named
  have hnm := (name_of_methodNamed Bd.named Bd.method).1
  have X0 : Stand p l e ({ frames := 0, cells := 0, slots := 0, locals := 0 } : Room) s m #[(.ref a), .null] below meth c s₁ [] 0 0 := Stand.of_body Bd
  have e0 : s₁.heap = h0 := by rw [← hh, Bd.state]; rfl
  have N0 := Fr.nil n0
  refine own_start (ef_rm11_RN m a) ?_
  intro F hF
  show own_Gl p.tables e below F (s₁.setTop (mkF m 0 #[.val (.ref a), .val .null] []))
  refine own_go (fun _ k => XS.aloadN X0.here hx rfl (hb hby d11_0) rfl rfl k) ?_
  show own_Gl p.tables e below F (s₁.setTop (mkF m 1 #[.val (.ref a), .val .null] [(.ref a)]))
  obtain ⟨T1, X1, e1, st1⟩ := getF X0 hx hZ hown (host := "") (Or.inl (hw _ (List.mem_of_getElem? (i := 69) rfl))) Via.refl e0 F0 (g := (mkF m 1 #[.val (.ref a), .val .null] [(.ref a)])) rfl rfl (hb hby d11_1)
  refine own_go st1 ?_
  show own_Gl p.tables e below F (T1.setTop (mkF m 4 #[.val (.ref a), .val .null] [(.ref x)]))
  refine own_go (fun _ k => XS.ifnonnullYes X1.here hx rfl (pc0 := 4) (pc' := 12) rfl (hb hby d11_4) rfl (by decide) (by decide) k) ?_
  show own_Gl p.tables e below F (T1.setTop (mkF m 12 #[.val (.ref a), .val .null] []))
  obtain ⟨fs, hr, hrun, hended, hW, hsame⟩ := X1.leave (v := none) (fun _ => rfl)
  subst hF
  refine own_fin ?_ ⟨hrun, hended, _, _, rfl, ?_, ⟨_, rfl⟩, hW, hsame.mono (by first | decide | exact Nat.le_of_ble_eq_true rfl) (by first | decide | exact Nat.le_of_ble_eq_true rfl)⟩
  · exact X1.returnOut hx Bd.returns (hb hby d11_12) hr
  · show Q_rm11_RN Z _ _ h0 n0 _ T1.heap _
    rw [e1]
    exact ⟨rfl, N0, rfl⟩
theorem ef_rm11_RR (m : MethodId) (x0 : Addr) (x1 : Addr) : entryFrame m #[(.ref x0), (.ref x1)] 2 = mkF m 0 #[.val (.ref x0), .val (.ref x1)] [] := by first | (simp [entryFrame, mkF, argsToLocals, Value.category]; done) | rfl
def Q_rm11_RR (Z : State) (a : Addr) (b : Addr) (x : Addr) (h0 : Heap) (n0 : Nat) (v : Option Value) (h : Heap) (L : List Loc) : Prop := v = none ∧ Fr n0 L ∧ h = h0
set_option maxRecDepth 65536 in
set_option maxHeartbeats 40000000 in
theorem rm11_RR (l : Launch) (Z : State) (a0 : Array Value) (hw : ∀ d ∈ tables_1, d.before a0 Z = true) (ws : List Jvm.Cond) (a : Addr) (b : Addr) (x : Addr) (h0 : Heap) (n0 : Nat) (Z0 : n0 ≤ h0.size) (E_a : Exa Z h0 a "com/example/palimpsest/palimpsest/history/KeyHistory") (F0 : Fld Z h0 a "com/example/palimpsest/palimpsest/history/KeyHistory" "disorder" "Ljava/lang/String;" (.ref x)) (g_a : n0 ≤ a) :
    MetFree l (⟨"com/example/palimpsest/palimpsest/history/KeyHistory", "disorder", "(Ljava/lang/String;)V"⟩ : MethodName) (head1 (Jvm.Cond.code (⟨"com/example/palimpsest/palimpsest/history/KeyHistory", "disorder", "(Ljava/lang/String;)V"⟩ : MethodName) prog_139_method_7_code 2 none :: ws) ({ frames := 0, cells := 0, slots := 0, locals := 0 } : Room)) (fun ag U => ag = #[(.ref a), (.ref b)] ∧ Z.Warmed39 U.vm ∧ U.heap = h0) (fun _ _ _ _ _ => True) (fun _ U o U' => ∃ v L, o = .returned v ∧ Q_rm11_RR Z a b x h0 n0 v U'.heap L ∧ FrameEnd U o U' L ({ frames := 0, cells := 0, slots := 0, locals := 0 } : Room).cells ({ frames := 0, cells := 0, slots := 0, locals := 0 } : Room).slots) := by
  refine MetFree.of_bodySF (plainFor_of_name pn_3) hisR ?_
  intro p e s m args below meth c s₁ Bd hml0 hP hK
  obtain ⟨rfl, hZ, hh⟩ := hP
  have hx := Bd.exec
  have hby := Bd.bytes
  have hml : c.maxLocals = 2 := hml0
  have hown : s.vm.findClass "com/example/palimpsest/palimpsest/history/KeyHistory" = some m.cls := findClass_of_methodNamed Bd.named
  have hnm := (name_of_methodNamed Bd.named Bd.method).1
  have X0 : Stand p l e ({ frames := 0, cells := 0, slots := 0, locals := 0 } : Room) s m #[(.ref a), (.ref b)] below meth c s₁ [] 0 0 := Stand.of_body Bd
  have e0 : s₁.heap = h0 := by rw [← hh, Bd.state]; rfl
  have N0 := Fr.nil n0
  refine own_start (ef_rm11_RR m a b) ?_
  intro F hF
  show own_Gl p.tables e below F (s₁.setTop (mkF m 0 #[.val (.ref a), .val (.ref b)] []))
  refine own_go (fun _ k => XS.aloadN X0.here hx rfl (hb hby d11_0) rfl rfl k) ?_
  show own_Gl p.tables e below F (s₁.setTop (mkF m 1 #[.val (.ref a), .val (.ref b)] [(.ref a)]))
  obtain ⟨T1, X1, e1, st1⟩ := getF X0 hx hZ hown (host := "") (Or.inl (hw _ (List.mem_of_getElem? (i := 69) rfl))) Via.refl e0 F0 (g := (mkF m 1 #[.val (.ref a), .val (.ref b)] [(.ref a)])) rfl rfl (hb hby d11_1)
  refine own_go st1 ?_
  show own_Gl p.tables e below F (T1.setTop (mkF m 4 #[.val (.ref a), .val (.ref b)] [(.ref x)]))
  refine own_go (fun _ k => XS.ifnonnullYes X1.here hx rfl (pc0 := 4) (pc' := 12) rfl (hb hby d11_4) rfl (by decide) (by decide) k) ?_
  show own_Gl p.tables e below F (T1.setTop (mkF m 12 #[.val (.ref a), .val (.ref b)] []))
  obtain ⟨fs, hr, hrun, hended, hW, hsame⟩ := X1.leave (v := none) (fun _ => rfl)
  subst hF
  refine own_fin ?_ ⟨hrun, hended, _, _, rfl, ?_, ⟨_, rfl⟩, hW, hsame.mono (by first | decide | exact Nat.le_of_ble_eq_true rfl) (by first | decide | exact Nat.le_of_ble_eq_true rfl)⟩
  · exact X1.returnOut hx Bd.returns (hb hby d11_12) hr
  · show Q_rm11_RR Z _ _ _ h0 n0 _ T1.heap _
    rw [e1]
    exact ⟨rfl, N0, rfl⟩
theorem ef_rm0 (m : MethodId) (x0 : Int32) (x1 : Int32) (x2 : Int32) (x3 : Int32) : entryFrame m #[(.int x0), (.int x1), (.int x2), (.int x3)] maxLocals = mkF m 0 #[.val (.int x0), .val (.int x1), .val (.int x2), .val (.int x3), .unset, .unset, .unset, .unset, .unset, .unset, .unset] [] := by first | (simp [entryFrame, mkF, argsToLocals, Value.category, maxLocals]; done) | rfl
theorem pn_4 : plainName "com/example/palimpsest/palimpsest/history/KeyHistoryDisorderPinLaw" = true := by first | (simp [plainName, overriddenIn]; done) | decide +kernel
theorem pd_2 : parseMethodDescriptor "([C)V" = some ⟨[(.array .char)], none⟩ := by decide +kernel
theorem pd_3 : parseMethodDescriptor "(Ljava/lang/String;I)V" = some ⟨[(.object "java/lang/String"), .int], none⟩ := by decide +kernel
theorem pd_4 : parseMethodDescriptor "()Ljava/lang/String;" = some ⟨[], some (.object "java/lang/String")⟩ := by decide +kernel
theorem pd_5 : parseMethodDescriptor "(Ljava/lang/String;)V" = some ⟨[(.object "java/lang/String")], none⟩ := by decide +kernel
def Q_rm0 (Z : State) (p1 p2 p3 p4 : Int32) (zc : Int32) (h0 : Heap) (n0 : Nat) (v : Option Value) (h : Heap) (L : List Loc) : Prop := v = some (.int 1) ∧ Fr n0 L
set_option maxRecDepth 65536 in
set_option maxHeartbeats 40000000 in
theorem rm0 (l : Launch) (Z : State) (a0 : Array Value) (hw : ∀ d ∈ tables_1, d.before a0 Z = true) (ws : List Jvm.Cond) (p1 p2 p3 p4 : Int32) (zc : Int32) (h0 : Heap) (n0 : Nat) (Z0 : n0 ≤ h0.size) (OO : Old Z n0 h0) (O2 : Sta Z Z.heap "java/lang/String" "COMPACT_STRINGS" "Z" (.int zc)) (P5 : ¬ zc = 0) :
    MetFree l x (head1 (Jvm.Cond.code x code maxLocals ret :: ws) room_1) (fun ag U => ag = #[(.int p1), (.int p2), (.int p3), (.int p4)] ∧ Z.Warmed39 U.vm ∧ U.heap = h0 ∧ CHv Z own_EL U.vm h0) (fun _ _ _ _ _ => True) (fun _ U o U' => ∃ v L, o = .returned v ∧ Q_rm0 Z p1 p2 p3 p4 zc h0 n0 v U'.heap L ∧ CHr Z own_EL U.vm U.heap U'.vm U'.heap ∧ ReturnedEndW U o U' L room_1.cells room_1.slots) := by
  refine MetFree.of_bodySF (plainFor_of_name pn_4) hisR ?_
  intro p e s m args below meth c s₁ Bd hml0 hP hK
  obtain ⟨rfl, hZ, hh, hCH⟩ := hP
  have hx := Bd.exec
  have hby := Bd.bytes
  have hml : c.maxLocals = 11 := hml0
  have hown : s.vm.findClass "com/example/palimpsest/palimpsest/history/KeyHistoryDisorderPinLaw" = some m.cls := findClass_of_methodNamed Bd.named
  have hnm := (name_of_methodNamed Bd.named Bd.method).1
  have hZ0 : Z.Warmed39 (s.setVm s.vm).vm := hZ
  have hown0 : (s.setVm s.vm).vm.findClass "com/example/palimpsest/palimpsest/history/KeyHistoryDisorderPinLaw" = some m.cls := hown
  have hS0 : s.Since s.vm 0 := (State.WarmedH.refl s).since 0
  have hk0 : 0 ≤ h0.size := Nat.zero_le _
  have CR0 : CHr Z own_EL s.vm h0 s.vm h0 := CHr.refl hCH
  have hEL : EW Z a0 own_EL := own_hEL hw
  have wS := own_wS hw
  have X0 : Stand p l e room_1 (s.setVm s.vm) m #[(.int p1), (.int p2), (.int p3), (.int p4)] below meth c s₁ [] 0 0 := Stand.of_body Bd
  have e0 : s₁.heap = h0 := by rw [← hh, Bd.state]; rfl
  have N0 := Fr.nil n0
  refine own_start (ef_rm0 m p1 p2 p3 p4) ?_
  intro F hF
  show own_Gl p.tables e below F (s₁.setTop (mkF m 0 #[.val (.int p1), .val (.int p2), .val (.int p3), .val (.int p4), .unset, .unset, .unset, .unset, .unset, .unset, .unset] []))
  have hws : ∀ d ∈ StrChars.Road.words, d.before a0 Z = true := fun d hd => hw d ((by decide +kernel : ∀ d ∈ StrChars.Road.words, d ∈ tables_1) d hd)
  refine own_go (fun _ k => XS.iconst X0.here hx rfl (hb hby at_0) k) ?_
  show own_Gl p.tables e below F (s₁.setTop (mkF m 1 #[.val (.int p1), .val (.int p2), .val (.int p3), .val (.int p4), .unset, .unset, .unset, .unset, .unset, .unset, .unset] [(.int (2 : Int32))]))
  obtain ⟨T1, h1, k1, X1, e1, E1, A1, st1⟩ := newP X0 hx hZ0 (hw _ (List.mem_of_getElem? (i := 0) rfl)) e0 (g := (mkF m 1 #[.val (.int p1), .val (.int p2), .val (.int p3), .val (.int p4), .unset, .unset, .unset, .unset, .unset, .unset, .unset] [(.int (2 : Int32))])) rfl (hb hby at_1) rfl (by decide) (cap := 2) (by decide) (by decide) (by decide) (by decide)
  obtain ⟨b1, g1⟩ : ∃ z, z = h0.size := ⟨_, rfl⟩
  rw [← g1] at A1 st1
  have ge_b1 : n0 ≤ b1 := Nat.le_trans Z0 (Nat.le_of_eq g1.symm)
  have sz_b1 : h0.size ≤ b1 := Nat.le_trans ((Keep.refl h0 [])).1 (Nat.le_of_eq g1.symm)
  have sf_b1 := Safe.ext E1 CR0.1 (Safe.new (Z := Z) (EL := own_EL) (vm := s.vm) (Nat.le_of_eq g1.symm))
  have f1_0 := OO.ext E1
  have Z1 : n0 ≤ h1.size := Nat.le_trans Z0 E1.1
  have K1 := Keep.ext (Keep.refl h0 []) E1
  have CR1 := CR0.trans (CHr.ext E1 CR0.1)
  have hk1 : 0 ≤ h1.size := Nat.le_trans hk0 E1.1
  have V1 : Arv Z h1 b1 k1 .char (2 : Int32) [(.int (0 : Int32)), (.int (0 : Int32))] (.int (0 : Int32)) := (Arv.new A1 (by decide)).pad (pad_rep [] (.int (0 : Int32)) 2)
  have X1 : Stand _ _ _ _ _ _ _ _ _ _ _ _ 1 2 := X1
  refine own_go st1 ?_
  show own_Gl p.tables e below F (T1.setTop (mkF m 3 #[.val (.int p1), .val (.int p2), .val (.int p3), .val (.int p4), .unset, .unset, .unset, .unset, .unset, .unset, .unset] [(.ref b1)]))
  refine own_go (fun _ k => XS.dup X1.here hx rfl (hb hby at_3) rfl rfl k) ?_
  show own_Gl p.tables e below F (T1.setTop (mkF m 4 #[.val (.int p1), .val (.int p2), .val (.int p3), .val (.int p4), .unset, .unset, .unset, .unset, .unset, .unset, .unset] [(.ref b1), (.ref b1)]))
  refine own_go (fun _ k => XS.iconst X1.here hx rfl (hb hby at_4) k) ?_
  show own_Gl p.tables e below F (T1.setTop (mkF m 5 #[.val (.int p1), .val (.int p2), .val (.int p3), .val (.int p4), .unset, .unset, .unset, .unset, .unset, .unset, .unset] [(.int (0 : Int32)), (.ref b1), (.ref b1)]))
  refine own_go (fun _ k => XS.iloadN X1.here hx rfl (hb hby at_5) rfl k) ?_
  show own_Gl p.tables e below F (T1.setTop (mkF m 6 #[.val (.int p1), .val (.int p2), .val (.int p3), .val (.int p4), .unset, .unset, .unset, .unset, .unset, .unset, .unset] [(.int p1), (.int (0 : Int32)), (.ref b1), (.ref b1)]))
  refine own_go (fun _ k => XS.sipush X1.here hx rfl (hb hby at_6) k) ?_
  show own_Gl p.tables e below F (T1.setTop (mkF m 9 #[.val (.int p1), .val (.int p2), .val (.int p3), .val (.int p4), .unset, .unset, .unset, .unset, .unset, .unset, .unset] [(.int (255 : Int32)), (.int p1), (.int (0 : Int32)), (.ref b1), (.ref b1)]))
  refine own_go (fun _ k => XS.iand X1.here hx rfl (hb hby at_9) rfl k) ?_
  show own_Gl p.tables e below F (T1.setTop (mkF m 10 #[.val (.int p1), .val (.int p2), .val (.int p3), .val (.int p4), .unset, .unset, .unset, .unset, .unset, .unset, .unset] [(.int (p1 &&& (255 : Int32))), (.int (0 : Int32)), (.ref b1), (.ref b1)]))
  refine own_go (fun _ k => XS.i2c X1.here hx rfl (hb hby at_10) rfl k) ?_
  show own_Gl p.tables e below F (T1.setTop (mkF m 11 #[.val (.int p1), .val (.int p2), .val (.int p3), .val (.int p4), .unset, .unset, .unset, .unset, .unset, .unset, .unset] [(.int ((p1 &&& (255 : Int32)).toUInt32.toUInt16.toUInt32.toInt32)), (.int (0 : Int32)), (.ref b1), (.ref b1)]))
  obtain ⟨cl2, Ar2, ak2, aS2, aN2, aH2, aG2⟩ := id V1
  have hin2 : ¬ ((0 : Int32) < 0 ∨ cl2.slots.size ≤ ((0 : Int32)).toNatClampNeg) := inb_of aS2 ⟨by decide, by decide⟩
  obtain ⟨T2, h2, X2, e2, W2, st2⟩ := stC X1 hx hZ0 e1 Ar2 (j := (0 : Int32)) hin2 (g := (mkF m 11 #[.val (.int p1), .val (.int p2), .val (.int p3), .val (.int p4), .unset, .unset, .unset, .unset, .unset, .unset, .unset] [(.int ((p1 &&& (255 : Int32)).toUInt32.toUInt16.toUInt32.toInt32)), (.int (0 : Int32)), (.ref b1), (.ref b1)])) rfl rfl (hb hby at_11)
  have V2 : Arv Z h2 b1 k1 .char (2 : Int32) [(.int (nar .char ((p1 &&& (255 : Int32)).toUInt32.toUInt16.toUInt32.toInt32))), (.int (0 : Int32))] (.int (0 : Int32)) := Arv.set Ar2 ak2 aS2 aN2 aH2 aG2 (fits_nar_char _) W2 0 rfl (by first | decide | exact Nat.le_of_ble_eq_true rfl | simp)
  have f2_1 := f1_0.wr W2 ge_b1
  have Z2 : n0 ≤ h2.size := by rw [W2.size]; exact Z1
  have K2 := Keep.wr K1 W2 (Or.inr sz_b1)
  have sf2_0 := Safe.wr W2 sf_b1 CR1.1 sf_b1
  have CR2 := CR1.trans (CHr.wr W2 sf_b1 CR1.1)
  have hk2 : 0 ≤ h2.size := by rw [W2.size]; exact hk1
  have N2 := Fr.snoc X2 N0 ge_b1
  refine own_go st2 ?_
  show own_Gl p.tables e below F (T2.setTop (mkF m 12 #[.val (.int p1), .val (.int p2), .val (.int p3), .val (.int p4), .unset, .unset, .unset, .unset, .unset, .unset, .unset] [(.ref b1)]))
  refine own_go (fun _ k => XS.dup X2.here hx rfl (hb hby at_12) rfl rfl k) ?_
  show own_Gl p.tables e below F (T2.setTop (mkF m 13 #[.val (.int p1), .val (.int p2), .val (.int p3), .val (.int p4), .unset, .unset, .unset, .unset, .unset, .unset, .unset] [(.ref b1), (.ref b1)]))
  refine own_go (fun _ k => XS.iconst X2.here hx rfl (hb hby at_13) k) ?_
  show own_Gl p.tables e below F (T2.setTop (mkF m 14 #[.val (.int p1), .val (.int p2), .val (.int p3), .val (.int p4), .unset, .unset, .unset, .unset, .unset, .unset, .unset] [(.int (1 : Int32)), (.ref b1), (.ref b1)]))
  refine own_go (fun _ k => XS.iloadN X2.here hx rfl (hb hby at_14) rfl k) ?_
  show own_Gl p.tables e below F (T2.setTop (mkF m 15 #[.val (.int p1), .val (.int p2), .val (.int p3), .val (.int p4), .unset, .unset, .unset, .unset, .unset, .unset, .unset] [(.int p1), (.int (1 : Int32)), (.ref b1), (.ref b1)]))
  refine own_go (fun _ k => XS.bipush X2.here hx rfl (hb hby at_15) k) ?_
  show own_Gl p.tables e below F (T2.setTop (mkF m 17 #[.val (.int p1), .val (.int p2), .val (.int p3), .val (.int p4), .unset, .unset, .unset, .unset, .unset, .unset, .unset] [(.int (8 : Int32)), (.int p1), (.int (1 : Int32)), (.ref b1), (.ref b1)]))
  refine own_go (fun _ k => XS.iushr X2.here hx rfl (hb hby at_17) rfl k) ?_
  show own_Gl p.tables e below F (T2.setTop (mkF m 18 #[.val (.int p1), .val (.int p2), .val (.int p3), .val (.int p4), .unset, .unset, .unset, .unset, .unset, .unset, .unset] [(.int (XT.ushr p1 (8 : Int32))), (.int (1 : Int32)), (.ref b1), (.ref b1)]))
  refine own_go (fun _ k => XS.sipush X2.here hx rfl (hb hby at_18) k) ?_
  show own_Gl p.tables e below F (T2.setTop (mkF m 21 #[.val (.int p1), .val (.int p2), .val (.int p3), .val (.int p4), .unset, .unset, .unset, .unset, .unset, .unset, .unset] [(.int (255 : Int32)), (.int (XT.ushr p1 (8 : Int32))), (.int (1 : Int32)), (.ref b1), (.ref b1)]))
  refine own_go (fun _ k => XS.iand X2.here hx rfl (hb hby at_21) rfl k) ?_
  show own_Gl p.tables e below F (T2.setTop (mkF m 22 #[.val (.int p1), .val (.int p2), .val (.int p3), .val (.int p4), .unset, .unset, .unset, .unset, .unset, .unset, .unset] [(.int ((XT.ushr p1 (8 : Int32)) &&& (255 : Int32))), (.int (1 : Int32)), (.ref b1), (.ref b1)]))
  refine own_go (fun _ k => XS.i2c X2.here hx rfl (hb hby at_22) rfl k) ?_
  show own_Gl p.tables e below F (T2.setTop (mkF m 23 #[.val (.int p1), .val (.int p2), .val (.int p3), .val (.int p4), .unset, .unset, .unset, .unset, .unset, .unset, .unset] [(.int (((XT.ushr p1 (8 : Int32)) &&& (255 : Int32)).toUInt32.toUInt16.toUInt32.toInt32)), (.int (1 : Int32)), (.ref b1), (.ref b1)]))
  obtain ⟨cl3, Ar3, ak3, aS3, aN3, aH3, aG3⟩ := id V2
  have hin3 : ¬ ((1 : Int32) < 0 ∨ cl3.slots.size ≤ ((1 : Int32)).toNatClampNeg) := inb_of aS3 ⟨by decide, by decide⟩
  obtain ⟨T3, h3, X3, e3, W3, st3⟩ := stC X2 hx hZ0 e2 Ar3 (j := (1 : Int32)) hin3 (g := (mkF m 23 #[.val (.int p1), .val (.int p2), .val (.int p3), .val (.int p4), .unset, .unset, .unset, .unset, .unset, .unset, .unset] [(.int (((XT.ushr p1 (8 : Int32)) &&& (255 : Int32)).toUInt32.toUInt16.toUInt32.toInt32)), (.int (1 : Int32)), (.ref b1), (.ref b1)])) rfl rfl (hb hby at_23)
  have V3 : Arv Z h3 b1 k1 .char (2 : Int32) [(.int (nar .char ((p1 &&& (255 : Int32)).toUInt32.toUInt16.toUInt32.toInt32))), (.int (nar .char (((XT.ushr p1 (8 : Int32)) &&& (255 : Int32)).toUInt32.toUInt16.toUInt32.toInt32)))] (.int (0 : Int32)) := Arv.set Ar3 ak3 aS3 aN3 aH3 aG3 (fits_nar_char _) W3 1 rfl (by first | decide | exact Nat.le_of_ble_eq_true rfl | simp)
  have f3_1 := f2_1.wr W3 ge_b1
  have Z3 : n0 ≤ h3.size := by rw [W3.size]; exact Z2
  have K3 := Keep.wr K2 W3 (Or.inr sz_b1)
  have sf3_0 := Safe.wr W3 sf2_0 CR2.1 sf2_0
  have CR3 := CR2.trans (CHr.wr W3 sf2_0 CR2.1)
  have hk3 : 0 ≤ h3.size := by rw [W3.size]; exact hk2
  have N3 := Fr.snoc X3 N2 ge_b1
  refine own_go st3 ?_
  show own_Gl p.tables e below F (T3.setTop (mkF m 24 #[.val (.int p1), .val (.int p2), .val (.int p3), .val (.int p4), .unset, .unset, .unset, .unset, .unset, .unset, .unset] [(.ref b1)]))
  refine own_go (fun _ k => XS.astore X3.here hx rfl (hb hby at_24) rfl rfl (l' := #[.val (.int p1), .val (.int p2), .val (.int p3), .val (.int p4), .val (.ref b1), .unset, .unset, .unset, .unset, .unset, .unset]) rfl k) ?_
  show own_Gl p.tables e below F (T3.setTop (mkF m 26 #[.val (.int p1), .val (.int p2), .val (.int p3), .val (.int p4), .val (.ref b1), .unset, .unset, .unset, .unset, .unset, .unset] []))
  refine own_go (fun _ k => XS.iconst X3.here hx rfl (hb hby at_26) k) ?_
  show own_Gl p.tables e below F (T3.setTop (mkF m 27 #[.val (.int p1), .val (.int p2), .val (.int p3), .val (.int p4), .val (.ref b1), .unset, .unset, .unset, .unset, .unset, .unset] [(.int (2 : Int32))]))
  obtain ⟨T4, h4, k4, X4, e4, E4, A4, st4⟩ := newP X3 hx hZ0 (hw _ (List.mem_of_getElem? (i := 0) rfl)) e3 (g := (mkF m 27 #[.val (.int p1), .val (.int p2), .val (.int p3), .val (.int p4), .val (.ref b1), .unset, .unset, .unset, .unset, .unset, .unset] [(.int (2 : Int32))])) rfl (hb hby at_27) rfl (by decide) (cap := 2) (by decide) (by decide) (by decide) (by decide)
  obtain ⟨b4, g4⟩ : ∃ z, z = h3.size := ⟨_, rfl⟩
  rw [← g4] at A4 st4
  have ne_b1_b4 : b1 ≠ b4 := Nat.ne_of_lt (Nat.lt_of_lt_of_le V3.lt (Nat.le_of_eq g4.symm))
  have ge_b4 : n0 ≤ b4 := Nat.le_trans Z3 (Nat.le_of_eq g4.symm)
  have sz_b4 : h0.size ≤ b4 := Nat.le_trans (K3).1 (Nat.le_of_eq g4.symm)
  have sf_b4 := Safe.ext E4 CR3.1 (Safe.new (Z := Z) (EL := own_EL) (vm := s.vm) (Nat.le_of_eq g4.symm))
  have f4_0 := f3_1.ext E4
  have f4_1 := V3.ext E4
  have Z4 : n0 ≤ h4.size := Nat.le_trans Z3 E4.1
  have K4 := Keep.ext K3 E4
  have sf4_0 := Safe.ext E4 CR3.1 sf3_0
  have CR4 := CR3.trans (CHr.ext E4 CR3.1)
  have hk4 : 0 ≤ h4.size := Nat.le_trans hk3 E4.1
  have V4 : Arv Z h4 b4 k4 .char (2 : Int32) [(.int (0 : Int32)), (.int (0 : Int32))] (.int (0 : Int32)) := (Arv.new A4 (by decide)).pad (pad_rep [] (.int (0 : Int32)) 2)
  have X4 : Stand _ _ _ _ _ _ _ _ _ _ _ _ 2 4 := X4
  refine own_go st4 ?_
  show own_Gl p.tables e below F (T4.setTop (mkF m 29 #[.val (.int p1), .val (.int p2), .val (.int p3), .val (.int p4), .val (.ref b1), .unset, .unset, .unset, .unset, .unset, .unset] [(.ref b4)]))
  refine own_go (fun _ k => XS.dup X4.here hx rfl (hb hby at_29) rfl rfl k) ?_
  show own_Gl p.tables e below F (T4.setTop (mkF m 30 #[.val (.int p1), .val (.int p2), .val (.int p3), .val (.int p4), .val (.ref b1), .unset, .unset, .unset, .unset, .unset, .unset] [(.ref b4), (.ref b4)]))
  refine own_go (fun _ k => XS.iconst X4.here hx rfl (hb hby at_30) k) ?_
  show own_Gl p.tables e below F (T4.setTop (mkF m 31 #[.val (.int p1), .val (.int p2), .val (.int p3), .val (.int p4), .val (.ref b1), .unset, .unset, .unset, .unset, .unset, .unset] [(.int (0 : Int32)), (.ref b4), (.ref b4)]))
  refine own_go (fun _ k => XS.iloadN X4.here hx rfl (hb hby at_31) rfl k) ?_
  show own_Gl p.tables e below F (T4.setTop (mkF m 32 #[.val (.int p1), .val (.int p2), .val (.int p3), .val (.int p4), .val (.ref b1), .unset, .unset, .unset, .unset, .unset, .unset] [(.int p2), (.int (0 : Int32)), (.ref b4), (.ref b4)]))
  refine own_go (fun _ k => XS.sipush X4.here hx rfl (hb hby at_32) k) ?_
  show own_Gl p.tables e below F (T4.setTop (mkF m 35 #[.val (.int p1), .val (.int p2), .val (.int p3), .val (.int p4), .val (.ref b1), .unset, .unset, .unset, .unset, .unset, .unset] [(.int (255 : Int32)), (.int p2), (.int (0 : Int32)), (.ref b4), (.ref b4)]))
  refine own_go (fun _ k => XS.iand X4.here hx rfl (hb hby at_35) rfl k) ?_
  show own_Gl p.tables e below F (T4.setTop (mkF m 36 #[.val (.int p1), .val (.int p2), .val (.int p3), .val (.int p4), .val (.ref b1), .unset, .unset, .unset, .unset, .unset, .unset] [(.int (p2 &&& (255 : Int32))), (.int (0 : Int32)), (.ref b4), (.ref b4)]))
  refine own_go (fun _ k => XS.i2c X4.here hx rfl (hb hby at_36) rfl k) ?_
  show own_Gl p.tables e below F (T4.setTop (mkF m 37 #[.val (.int p1), .val (.int p2), .val (.int p3), .val (.int p4), .val (.ref b1), .unset, .unset, .unset, .unset, .unset, .unset] [(.int ((p2 &&& (255 : Int32)).toUInt32.toUInt16.toUInt32.toInt32)), (.int (0 : Int32)), (.ref b4), (.ref b4)]))
  obtain ⟨cl5, Ar5, ak5, aS5, aN5, aH5, aG5⟩ := id V4
  have hin5 : ¬ ((0 : Int32) < 0 ∨ cl5.slots.size ≤ ((0 : Int32)).toNatClampNeg) := inb_of aS5 ⟨by decide, by decide⟩
  obtain ⟨T5, h5, X5, e5, W5, st5⟩ := stC X4 hx hZ0 e4 Ar5 (j := (0 : Int32)) hin5 (g := (mkF m 37 #[.val (.int p1), .val (.int p2), .val (.int p3), .val (.int p4), .val (.ref b1), .unset, .unset, .unset, .unset, .unset, .unset] [(.int ((p2 &&& (255 : Int32)).toUInt32.toUInt16.toUInt32.toInt32)), (.int (0 : Int32)), (.ref b4), (.ref b4)])) rfl rfl (hb hby at_37)
  have V5 : Arv Z h5 b4 k4 .char (2 : Int32) [(.int (nar .char ((p2 &&& (255 : Int32)).toUInt32.toUInt16.toUInt32.toInt32))), (.int (0 : Int32))] (.int (0 : Int32)) := Arv.set Ar5 ak5 aS5 aN5 aH5 aG5 (fits_nar_char _) W5 0 rfl (by first | decide | exact Nat.le_of_ble_eq_true rfl | simp)
  have f5_1 := f4_0.wr W5 ge_b4
  have f5_2 := f4_1.other W5 ne_b1_b4
  have Z5 : n0 ≤ h5.size := by rw [W5.size]; exact Z4
  have K5 := Keep.wr K4 W5 (Or.inr sz_b4)
  have sf5_0 := Safe.wr W5 sf_b4 CR4.1 sf4_0
  have sf5_1 := Safe.wr W5 sf_b4 CR4.1 sf_b4
  have CR5 := CR4.trans (CHr.wr W5 sf_b4 CR4.1)
  have hk5 : 0 ≤ h5.size := by rw [W5.size]; exact hk4
  have N5 := Fr.snoc X5 N3 ge_b4
  refine own_go st5 ?_
  show own_Gl p.tables e below F (T5.setTop (mkF m 38 #[.val (.int p1), .val (.int p2), .val (.int p3), .val (.int p4), .val (.ref b1), .unset, .unset, .unset, .unset, .unset, .unset] [(.ref b4)]))
  refine own_go (fun _ k => XS.dup X5.here hx rfl (hb hby at_38) rfl rfl k) ?_
  show own_Gl p.tables e below F (T5.setTop (mkF m 39 #[.val (.int p1), .val (.int p2), .val (.int p3), .val (.int p4), .val (.ref b1), .unset, .unset, .unset, .unset, .unset, .unset] [(.ref b4), (.ref b4)]))
  refine own_go (fun _ k => XS.iconst X5.here hx rfl (hb hby at_39) k) ?_
  show own_Gl p.tables e below F (T5.setTop (mkF m 40 #[.val (.int p1), .val (.int p2), .val (.int p3), .val (.int p4), .val (.ref b1), .unset, .unset, .unset, .unset, .unset, .unset] [(.int (1 : Int32)), (.ref b4), (.ref b4)]))
  refine own_go (fun _ k => XS.iloadN X5.here hx rfl (hb hby at_40) rfl k) ?_
  show own_Gl p.tables e below F (T5.setTop (mkF m 41 #[.val (.int p1), .val (.int p2), .val (.int p3), .val (.int p4), .val (.ref b1), .unset, .unset, .unset, .unset, .unset, .unset] [(.int p2), (.int (1 : Int32)), (.ref b4), (.ref b4)]))
  refine own_go (fun _ k => XS.bipush X5.here hx rfl (hb hby at_41) k) ?_
  show own_Gl p.tables e below F (T5.setTop (mkF m 43 #[.val (.int p1), .val (.int p2), .val (.int p3), .val (.int p4), .val (.ref b1), .unset, .unset, .unset, .unset, .unset, .unset] [(.int (8 : Int32)), (.int p2), (.int (1 : Int32)), (.ref b4), (.ref b4)]))
  refine own_go (fun _ k => XS.iushr X5.here hx rfl (hb hby at_43) rfl k) ?_
  show own_Gl p.tables e below F (T5.setTop (mkF m 44 #[.val (.int p1), .val (.int p2), .val (.int p3), .val (.int p4), .val (.ref b1), .unset, .unset, .unset, .unset, .unset, .unset] [(.int (XT.ushr p2 (8 : Int32))), (.int (1 : Int32)), (.ref b4), (.ref b4)]))
  refine own_go (fun _ k => XS.sipush X5.here hx rfl (hb hby at_44) k) ?_
  show own_Gl p.tables e below F (T5.setTop (mkF m 47 #[.val (.int p1), .val (.int p2), .val (.int p3), .val (.int p4), .val (.ref b1), .unset, .unset, .unset, .unset, .unset, .unset] [(.int (255 : Int32)), (.int (XT.ushr p2 (8 : Int32))), (.int (1 : Int32)), (.ref b4), (.ref b4)]))
  refine own_go (fun _ k => XS.iand X5.here hx rfl (hb hby at_47) rfl k) ?_
  show own_Gl p.tables e below F (T5.setTop (mkF m 48 #[.val (.int p1), .val (.int p2), .val (.int p3), .val (.int p4), .val (.ref b1), .unset, .unset, .unset, .unset, .unset, .unset] [(.int ((XT.ushr p2 (8 : Int32)) &&& (255 : Int32))), (.int (1 : Int32)), (.ref b4), (.ref b4)]))
  refine own_go (fun _ k => XS.i2c X5.here hx rfl (hb hby at_48) rfl k) ?_
  show own_Gl p.tables e below F (T5.setTop (mkF m 49 #[.val (.int p1), .val (.int p2), .val (.int p3), .val (.int p4), .val (.ref b1), .unset, .unset, .unset, .unset, .unset, .unset] [(.int (((XT.ushr p2 (8 : Int32)) &&& (255 : Int32)).toUInt32.toUInt16.toUInt32.toInt32)), (.int (1 : Int32)), (.ref b4), (.ref b4)]))
  obtain ⟨cl6, Ar6, ak6, aS6, aN6, aH6, aG6⟩ := id V5
  have hin6 : ¬ ((1 : Int32) < 0 ∨ cl6.slots.size ≤ ((1 : Int32)).toNatClampNeg) := inb_of aS6 ⟨by decide, by decide⟩
  obtain ⟨T6, h6, X6, e6, W6, st6⟩ := stC X5 hx hZ0 e5 Ar6 (j := (1 : Int32)) hin6 (g := (mkF m 49 #[.val (.int p1), .val (.int p2), .val (.int p3), .val (.int p4), .val (.ref b1), .unset, .unset, .unset, .unset, .unset, .unset] [(.int (((XT.ushr p2 (8 : Int32)) &&& (255 : Int32)).toUInt32.toUInt16.toUInt32.toInt32)), (.int (1 : Int32)), (.ref b4), (.ref b4)])) rfl rfl (hb hby at_49)
  have V6 : Arv Z h6 b4 k4 .char (2 : Int32) [(.int (nar .char ((p2 &&& (255 : Int32)).toUInt32.toUInt16.toUInt32.toInt32))), (.int (nar .char (((XT.ushr p2 (8 : Int32)) &&& (255 : Int32)).toUInt32.toUInt16.toUInt32.toInt32)))] (.int (0 : Int32)) := Arv.set Ar6 ak6 aS6 aN6 aH6 aG6 (fits_nar_char _) W6 1 rfl (by first | decide | exact Nat.le_of_ble_eq_true rfl | simp)
  have f6_1 := f5_1.wr W6 ge_b4
  have f6_2 := f5_2.other W6 ne_b1_b4
  have Z6 : n0 ≤ h6.size := by rw [W6.size]; exact Z5
  have K6 := Keep.wr K5 W6 (Or.inr sz_b4)
  have sf6_0 := Safe.wr W6 sf5_1 CR5.1 sf5_0
  have sf6_1 := Safe.wr W6 sf5_1 CR5.1 sf5_1
  have CR6 := CR5.trans (CHr.wr W6 sf5_1 CR5.1)
  have hk6 : 0 ≤ h6.size := by rw [W6.size]; exact hk5
  have N6 := Fr.snoc X6 N5 ge_b4
  refine own_go st6 ?_
  show own_Gl p.tables e below F (T6.setTop (mkF m 50 #[.val (.int p1), .val (.int p2), .val (.int p3), .val (.int p4), .val (.ref b1), .unset, .unset, .unset, .unset, .unset, .unset] [(.ref b4)]))
  refine own_go (fun _ k => XS.astore X6.here hx rfl (hb hby at_50) rfl rfl (l' := #[.val (.int p1), .val (.int p2), .val (.int p3), .val (.int p4), .val (.ref b1), .val (.ref b4), .unset, .unset, .unset, .unset, .unset]) rfl k) ?_
  show own_Gl p.tables e below F (T6.setTop (mkF m 52 #[.val (.int p1), .val (.int p2), .val (.int p3), .val (.int p4), .val (.ref b1), .val (.ref b4), .unset, .unset, .unset, .unset, .unset] []))
  refine own_go (fun _ k => XS.iconst X6.here hx rfl (hb hby at_52) k) ?_
  show own_Gl p.tables e below F (T6.setTop (mkF m 53 #[.val (.int p1), .val (.int p2), .val (.int p3), .val (.int p4), .val (.ref b1), .val (.ref b4), .unset, .unset, .unset, .unset, .unset] [(.int (0 : Int32))]))
  obtain ⟨T7, h7, k7, X7, e7, E7, A7, st7⟩ := newP X6 hx hZ0 (hw _ (List.mem_of_getElem? (i := 0) rfl)) e6 (g := (mkF m 53 #[.val (.int p1), .val (.int p2), .val (.int p3), .val (.int p4), .val (.ref b1), .val (.ref b4), .unset, .unset, .unset, .unset, .unset] [(.int (0 : Int32))])) rfl (hb hby at_53) rfl (by decide) (cap := 0) (by decide) (by decide) (by decide) (by decide)
  obtain ⟨b7, g7⟩ : ∃ z, z = h6.size := ⟨_, rfl⟩
  rw [← g7] at A7 st7
  have ne_b1_b7 : b1 ≠ b7 := Nat.ne_of_lt (Nat.lt_of_lt_of_le f6_2.lt (Nat.le_of_eq g7.symm))
  have ne_b4_b7 : b4 ≠ b7 := Nat.ne_of_lt (Nat.lt_of_lt_of_le V6.lt (Nat.le_of_eq g7.symm))
  have ge_b7 : n0 ≤ b7 := Nat.le_trans Z6 (Nat.le_of_eq g7.symm)
  have sz_b7 : h0.size ≤ b7 := Nat.le_trans (K6).1 (Nat.le_of_eq g7.symm)
  have sf_b7 := Safe.ext E7 CR6.1 (Safe.new (Z := Z) (EL := own_EL) (vm := s.vm) (Nat.le_of_eq g7.symm))
  have f7_0 := f6_1.ext E7
  have f7_1 := f6_2.ext E7
  have f7_2 := V6.ext E7
  have Z7 : n0 ≤ h7.size := Nat.le_trans Z6 E7.1
  have K7 := Keep.ext K6 E7
  have sf7_0 := Safe.ext E7 CR6.1 sf6_0
  have sf7_1 := Safe.ext E7 CR6.1 sf6_1
  have CR7 := CR6.trans (CHr.ext E7 CR6.1)
  have hk7 : 0 ≤ h7.size := Nat.le_trans hk6 E7.1
  have V7 : Arv Z h7 b7 k7 .char (0 : Int32) [] (.int (0 : Int32)) := (Arv.new A7 (by decide)).pad (pad_rep [] (.int (0 : Int32)) 0)
  have X7 : Stand _ _ _ _ _ _ _ _ _ _ _ _ 3 4 := X7
  refine own_go st7 ?_
  show own_Gl p.tables e below F (T7.setTop (mkF m 55 #[.val (.int p1), .val (.int p2), .val (.int p3), .val (.int p4), .val (.ref b1), .val (.ref b4), .unset, .unset, .unset, .unset, .unset] [(.ref b7)]))
  refine own_go (fun _ k => XS.astore X7.here hx rfl (hb hby at_55) rfl rfl (l' := #[.val (.int p1), .val (.int p2), .val (.int p3), .val (.int p4), .val (.ref b1), .val (.ref b4), .val (.ref b7), .unset, .unset, .unset, .unset]) rfl k) ?_
  show own_Gl p.tables e below F (T7.setTop (mkF m 57 #[.val (.int p1), .val (.int p2), .val (.int p3), .val (.int p4), .val (.ref b1), .val (.ref b4), .val (.ref b7), .unset, .unset, .unset, .unset] []))
  refine own_go (fun _ k => XS.iloadN X7.here hx rfl (hb hby at_57) rfl k) ?_
  show own_Gl p.tables e below F (T7.setTop (mkF m 58 #[.val (.int p1), .val (.int p2), .val (.int p3), .val (.int p4), .val (.ref b1), .val (.ref b4), .val (.ref b7), .unset, .unset, .unset, .unset] [(.int p3)]))
  refine own_go (fun _ k => XS.iconst X7.here hx rfl (hb hby at_58) k) ?_
  show own_Gl p.tables e below F (T7.setTop (mkF m 59 #[.val (.int p1), .val (.int p2), .val (.int p3), .val (.int p4), .val (.ref b1), .val (.ref b4), .val (.ref b7), .unset, .unset, .unset, .unset] [(.int (1 : Int32)), (.int p3)]))
  refine own_go (fun _ k => XS.iand X7.here hx rfl (hb hby at_59) rfl k) ?_
  show own_Gl p.tables e below F (T7.setTop (mkF m 60 #[.val (.int p1), .val (.int p2), .val (.int p3), .val (.int p4), .val (.ref b1), .val (.ref b4), .val (.ref b7), .unset, .unset, .unset, .unset] [(.int (p3 &&& (1 : Int32)))]))
  have hpa : ∀ c ∈ ([(nar .char ((p1 &&& (255 : Int32)).toUInt32.toUInt16.toUInt32.toInt32)), (nar .char (((XT.ushr p1 (8 : Int32)) &&& (255 : Int32)).toUInt32.toUInt16.toUInt32.toInt32))] : List Int32), ¬ c < 0 ∧ ¬ (255 : Int32) < c := by
    intro c hc
    simp only [List.mem_cons, List.not_mem_nil, or_false] at hc
    rcases hc with rfl | rfl
    · exact own_ch255 _
    · exact own_ch255 _
  have hpb : ∀ c ∈ ([(nar .char ((p2 &&& (255 : Int32)).toUInt32.toUInt16.toUInt32.toInt32)), (nar .char (((XT.ushr p2 (8 : Int32)) &&& (255 : Int32)).toUInt32.toUInt16.toUInt32.toInt32))] : List Int32), ¬ c < 0 ∧ ¬ (255 : Int32) < c := by
    intro c hc
    simp only [List.mem_cons, List.not_mem_nil, or_false] at hc
    rcases hc with rfl | rfl
    · exact own_ch255 _
    · exact own_ch255 _
  have JN : ∀ (TJN : State) (lJN : List Loc) (hJN : Heap) (vJN : Vm) (kJN : Nat)  (XJN : Stand p l e room_1 (s.setVm vJN) m #[(.int p1), (.int p2), (.int p3), (.int p4)] below meth c TJN lJN 8 16) (eJN : TJN.heap = hJN) (NJN : Fr n0 lJN) (ZJN : n0 ≤ hJN.size) (KJN : Keep h0 hJN []) (hZJN : Z.Warmed39 (s.setVm vJN).vm) (hoJN : (s.setVm vJN).vm.findClass "com/example/palimpsest/palimpsest/history/KeyHistoryDisorderPinLaw" = some m.cls) (hSJN : s.Since vJN kJN) (hkJN : kJN ≤ hJN.size) (CRJN : CHr Z own_EL s.vm h0 vJN hJN) (sJN_b1 : Safe Z own_EL vJN hJN b1) (sJN_b4 : Safe Z own_EL vJN hJN b4) (sJN_b7 : Safe Z own_EL vJN hJN b7) (fJN_0 : Old Z n0 hJN) (fJN_1 : Arv Z hJN b1 k1 .char (2 : Int32) [(.int (nar .char ((p1 &&& (255 : Int32)).toUInt32.toUInt16.toUInt32.toInt32))), (.int (nar .char (((XT.ushr p1 (8 : Int32)) &&& (255 : Int32)).toUInt32.toUInt16.toUInt32.toInt32)))] (.int (0 : Int32))) (fJN_2 : Arv Z hJN b4 k4 .char (2 : Int32) [(.int (nar .char ((p2 &&& (255 : Int32)).toUInt32.toUInt16.toUInt32.toInt32))), (.int (nar .char (((XT.ushr p2 (8 : Int32)) &&& (255 : Int32)).toUInt32.toUInt16.toUInt32.toInt32)))] (.int (0 : Int32))) (fJN_3 : Arv Z hJN b7 k7 .char (0 : Int32) [] (.int (0 : Int32))) , own_Gl p.tables e below F (TJN.setTop (mkF m 94 #[.val (.int p1), .val (.int p2), .val (.int p3), .val (.int p4), .val (.ref b1), .val (.ref b4), .val (.ref b7), .unset, .unset, .unset, .unset] [.null])) := by
    intro TJN lJN hJN vJN kJN XJN eJN NJN ZJN KJN hZJN hoJN hSJN hkJN CRJN sJN_b1 sJN_b4 sJN_b7 fJN_0 fJN_1 fJN_2 fJN_3
    show own_Gl p.tables e below F (TJN.setTop (mkF m 94 #[.val (.int p1), .val (.int p2), .val (.int p3), .val (.int p4), .val (.ref b1), .val (.ref b4), .val (.ref b7), .unset, .unset, .unset, .unset] [.null]))
    refine own_go (fun _ k => XS.astore XJN.here hx rfl (hb hby at_94) rfl rfl (l' := #[.val (.int p1), .val (.int p2), .val (.int p3), .val (.int p4), .val (.ref b1), .val (.ref b4), .val (.ref b7), .val .null, .unset, .unset, .unset]) rfl k) ?_
    show own_Gl p.tables e below F (TJN.setTop (mkF m 96 #[.val (.int p1), .val (.int p2), .val (.int p3), .val (.int p4), .val (.ref b1), .val (.ref b4), .val (.ref b7), .val .null, .unset, .unset, .unset] []))
    refine own_go (fun _ k => XS.iloadN XJN.here hx rfl (hb hby at_96) rfl k) ?_
    show own_Gl p.tables e below F (TJN.setTop (mkF m 97 #[.val (.int p1), .val (.int p2), .val (.int p3), .val (.int p4), .val (.ref b1), .val (.ref b4), .val (.ref b7), .val .null, .unset, .unset, .unset] [(.int p3)]))
    refine own_go (fun _ k => XS.iconst XJN.here hx rfl (hb hby at_97) k) ?_
    show own_Gl p.tables e below F (TJN.setTop (mkF m 98 #[.val (.int p1), .val (.int p2), .val (.int p3), .val (.int p4), .val (.ref b1), .val (.ref b4), .val (.ref b7), .val .null, .unset, .unset, .unset] [(.int (2 : Int32)), (.int p3)]))
    refine own_go (fun _ k => XS.iand XJN.here hx rfl (hb hby at_98) rfl k) ?_
    show own_Gl p.tables e below F (TJN.setTop (mkF m 99 #[.val (.int p1), .val (.int p2), .val (.int p3), .val (.int p4), .val (.ref b1), .val (.ref b4), .val (.ref b7), .val .null, .unset, .unset, .unset] [(.int (p3 &&& (2 : Int32)))]))
    have JNN : ∀ (TJNN : State) (lJNN : List Loc) (hJNN : Heap) (vJNN : Vm) (kJNN : Nat)  (XJNN : Stand p l e room_1 (s.setVm vJNN) m #[(.int p1), (.int p2), (.int p3), (.int p4)] below meth c TJNN lJNN 17 30) (eJNN : TJNN.heap = hJNN) (NJNN : Fr n0 lJNN) (ZJNN : n0 ≤ hJNN.size) (KJNN : Keep h0 hJNN []) (hZJNN : Z.Warmed39 (s.setVm vJNN).vm) (hoJNN : (s.setVm vJNN).vm.findClass "com/example/palimpsest/palimpsest/history/KeyHistoryDisorderPinLaw" = some m.cls) (hSJNN : s.Since vJNN kJNN) (hkJNN : kJNN ≤ hJNN.size) (CRJNN : CHr Z own_EL s.vm h0 vJNN hJNN) (sJNN_b1 : Safe Z own_EL vJNN hJNN b1) (sJNN_b4 : Safe Z own_EL vJNN hJNN b4) (sJNN_b7 : Safe Z own_EL vJNN hJNN b7) (fJNN_0 : Old Z n0 hJNN) (fJNN_1 : Arv Z hJNN b1 k1 .char (2 : Int32) [(.int (nar .char ((p1 &&& (255 : Int32)).toUInt32.toUInt16.toUInt32.toInt32))), (.int (nar .char (((XT.ushr p1 (8 : Int32)) &&& (255 : Int32)).toUInt32.toUInt16.toUInt32.toInt32)))] (.int (0 : Int32))) (fJNN_2 : Arv Z hJNN b4 k4 .char (2 : Int32) [(.int (nar .char ((p2 &&& (255 : Int32)).toUInt32.toUInt16.toUInt32.toInt32))), (.int (nar .char (((XT.ushr p2 (8 : Int32)) &&& (255 : Int32)).toUInt32.toUInt16.toUInt32.toInt32)))] (.int (0 : Int32))) (fJNN_3 : Arv Z hJNN b7 k7 .char (0 : Int32) [] (.int (0 : Int32))) , own_Gl p.tables e below F (TJNN.setTop (mkF m 134 #[.val (.int p1), .val (.int p2), .val (.int p3), .val (.int p4), .val (.ref b1), .val (.ref b4), .val (.ref b7), .val .null, .unset, .unset, .unset] [.null])) := by
      intro TJNN lJNN hJNN vJNN kJNN XJNN eJNN NJNN ZJNN KJNN hZJNN hoJNN hSJNN hkJNN CRJNN sJNN_b1 sJNN_b4 sJNN_b7 fJNN_0 fJNN_1 fJNN_2 fJNN_3
      show own_Gl p.tables e below F (TJNN.setTop (mkF m 134 #[.val (.int p1), .val (.int p2), .val (.int p3), .val (.int p4), .val (.ref b1), .val (.ref b4), .val (.ref b7), .val .null, .unset, .unset, .unset] [.null]))
      refine own_go (fun _ k => XS.astore XJNN.here hx rfl (hb hby at_134) rfl rfl (l' := #[.val (.int p1), .val (.int p2), .val (.int p3), .val (.int p4), .val (.ref b1), .val (.ref b4), .val (.ref b7), .val .null, .val .null, .unset, .unset]) rfl k) ?_
      show own_Gl p.tables e below F (TJNN.setTop (mkF m 136 #[.val (.int p1), .val (.int p2), .val (.int p3), .val (.int p4), .val (.ref b1), .val (.ref b4), .val (.ref b7), .val .null, .val .null, .unset, .unset] []))
      obtain ⟨T8, h8, X8, e8, E8, A8, D8, -, st8⟩ := newO XJNN hx hZJNN hoJNN (hw _ (List.mem_of_getElem? (i := 30) rfl)) (hw _ (List.mem_of_getElem? (i := 31) rfl)) (hw _ (List.mem_of_getElem? (i := 32) rfl)) eJNN (g := (mkF m 136 #[.val (.int p1), .val (.int p2), .val (.int p3), .val (.int p4), .val (.ref b1), .val (.ref b4), .val (.ref b7), .val .null, .val .null, .unset, .unset] [])) rfl (hb hby at_136) (by first | decide | exact Nat.le_of_ble_eq_true rfl) (by first | decide | exact Nat.le_of_ble_eq_true rfl)
      obtain ⟨b8, g8⟩ : ∃ z, z = hJNN.size := ⟨_, rfl⟩
      rw [← g8] at A8 D8 st8
      have ne_b1_b8 : b1 ≠ b8 := Nat.ne_of_lt (Nat.lt_of_lt_of_le fJNN_1.lt (Nat.le_of_eq g8.symm))
      have ne_b4_b8 : b4 ≠ b8 := Nat.ne_of_lt (Nat.lt_of_lt_of_le fJNN_2.lt (Nat.le_of_eq g8.symm))
      have ne_b7_b8 : b7 ≠ b8 := Nat.ne_of_lt (Nat.lt_of_lt_of_le fJNN_3.lt (Nat.le_of_eq g8.symm))
      have ge_b8 : n0 ≤ b8 := Nat.le_trans ZJNN (Nat.le_of_eq g8.symm)
      have sz_b8 : h0.size ≤ b8 := Nat.le_trans (KJNN).1 (Nat.le_of_eq g8.symm)
      have sf_b8 := Safe.ext E8 CRJNN.1 (Safe.new (Z := Z) (EL := own_EL) (vm := vJNN) (Nat.le_of_eq g8.symm))
      have f8_0 := fJNN_0.ext E8
      have f8_1 := fJNN_1.ext E8
      have f8_2 := fJNN_2.ext E8
      have f8_3 := fJNN_3.ext E8
      have Z8 : n0 ≤ h8.size := Nat.le_trans ZJNN E8.1
      have K8 := Keep.ext KJNN E8
      have sf8_0 := Safe.ext E8 CRJNN.1 sJNN_b1
      have sf8_1 := Safe.ext E8 CRJNN.1 sJNN_b4
      have sf8_2 := Safe.ext E8 CRJNN.1 sJNN_b7
      have CR8 := CRJNN.trans (CHr.ext E8 CRJNN.1)
      have hk8 : kJNN ≤ h8.size := Nat.le_trans hkJNN E8.1
      have F8_appends : Fld Z h8 b8 "com/example/palimpsest/palimpsest/history/KeyHistory" "appends" "Ljava/util/Map;" .null := D8 (Or.inr (hw _ (List.mem_of_getElem? (i := 54) rfl))) (ty := (.object "java/util/Map")) (by decide)
      have F8_longest : Fld Z h8 b8 "com/example/palimpsest/palimpsest/history/KeyHistory" "longest" "[J" .null := D8 (Or.inl (hw _ (List.mem_of_getElem? (i := 57) rfl))) (ty := (.array .long)) (by decide)
      have F8_longestReader : Fld Z h8 b8 "com/example/palimpsest/palimpsest/history/KeyHistory" "longestReader" "I" (.int (0 : Int32)) := D8 (Or.inl (hw _ (List.mem_of_getElem? (i := 59) rfl))) (ty := .int) (by decide)
      have F8_name : Fld Z h8 b8 "com/example/palimpsest/palimpsest/history/KeyHistory" "name" "Ljava/lang/String;" .null := D8 (Or.inr (hw _ (List.mem_of_getElem? (i := 61) rfl))) (ty := (.object "java/lang/String")) (by decide)
      have F8_number : Fld Z h8 b8 "com/example/palimpsest/palimpsest/history/KeyHistory" "number" "I" (.int (0 : Int32)) := D8 (Or.inr (hw _ (List.mem_of_getElem? (i := 63) rfl))) (ty := .int) (by decide)
      have F8_disorder : Fld Z h8 b8 "com/example/palimpsest/palimpsest/history/KeyHistory" "disorder" "Ljava/lang/String;" .null := D8 (Or.inl (hw _ (List.mem_of_getElem? (i := 70) rfl))) (ty := (.object "java/lang/String")) (by decide)
      have X8 : Stand _ _ _ _ _ _ _ _ _ _ _ _ 18 40 := X8
      refine own_go st8 ?_
      show own_Gl p.tables e below F (T8.setTop (mkF m 139 #[.val (.int p1), .val (.int p2), .val (.int p3), .val (.int p4), .val (.ref b1), .val (.ref b4), .val (.ref b7), .val .null, .val .null, .unset, .unset] [(.ref b8)]))
      refine own_go (fun _ k => XS.dup X8.here hx rfl (hb hby at_139) rfl rfl k) ?_
      show own_Gl p.tables e below F (T8.setTop (mkF m 140 #[.val (.int p1), .val (.int p2), .val (.int p3), .val (.int p4), .val (.ref b1), .val (.ref b4), .val (.ref b7), .val .null, .val .null, .unset, .unset] [(.ref b8), (.ref b8)]))
      obtain ⟨T9, h9, X9, e9, E9, A9, D9, -, st9⟩ := newO X8 hx hZJNN hoJNN (hw _ (List.mem_of_getElem? (i := 1) rfl)) (hw _ (List.mem_of_getElem? (i := 2) rfl)) (hw _ (List.mem_of_getElem? (i := 3) rfl)) e8 (g := (mkF m 140 #[.val (.int p1), .val (.int p2), .val (.int p3), .val (.int p4), .val (.ref b1), .val (.ref b4), .val (.ref b7), .val .null, .val .null, .unset, .unset] [(.ref b8), (.ref b8)])) rfl (hb hby at_140) (by first | decide | exact Nat.le_of_ble_eq_true rfl) (by first | decide | exact Nat.le_of_ble_eq_true rfl)
      obtain ⟨b9, g9⟩ : ∃ z, z = h8.size := ⟨_, rfl⟩
      rw [← g9] at A9 D9 st9
      have ne_b1_b9 : b1 ≠ b9 := Nat.ne_of_lt (Nat.lt_of_lt_of_le f8_1.lt (Nat.le_of_eq g9.symm))
      have ne_b4_b9 : b4 ≠ b9 := Nat.ne_of_lt (Nat.lt_of_lt_of_le f8_2.lt (Nat.le_of_eq g9.symm))
      have ne_b7_b9 : b7 ≠ b9 := Nat.ne_of_lt (Nat.lt_of_lt_of_le f8_3.lt (Nat.le_of_eq g9.symm))
      have ne_b8_b9 : b8 ≠ b9 := Nat.ne_of_lt (Nat.lt_of_lt_of_le A8.lt (Nat.le_of_eq g9.symm))
      have ge_b9 : n0 ≤ b9 := Nat.le_trans Z8 (Nat.le_of_eq g9.symm)
      have sz_b9 : h0.size ≤ b9 := Nat.le_trans (K8).1 (Nat.le_of_eq g9.symm)
      have sf_b9 := Safe.ext E9 CR8.1 (Safe.new (Z := Z) (EL := own_EL) (vm := vJNN) (Nat.le_of_eq g9.symm))
      have f9_0 := f8_0.ext E9
      have f9_1 := f8_1.ext E9
      have f9_2 := f8_2.ext E9
      have f9_3 := f8_3.ext E9
      have f9_4 := A8.ext E9
      have f9_5 := F8_appends.ext E9
      have f9_6 := F8_longest.ext E9
      have f9_7 := F8_longestReader.ext E9
      have f9_8 := F8_name.ext E9
      have f9_9 := F8_number.ext E9
      have f9_10 := F8_disorder.ext E9
      have Z9 : n0 ≤ h9.size := Nat.le_trans Z8 E9.1
      have K9 := Keep.ext K8 E9
      have sf9_0 := Safe.ext E9 CR8.1 sf8_0
      have sf9_1 := Safe.ext E9 CR8.1 sf8_1
      have sf9_2 := Safe.ext E9 CR8.1 sf8_2
      have sf9_3 := Safe.ext E9 CR8.1 sf_b8
      have CR9 := CR8.trans (CHr.ext E9 CR8.1)
      have hk9 : kJNN ≤ h9.size := Nat.le_trans hk8 E9.1
      have F9_coder : Fld Z h9 b9 "java/lang/String" "coder" "B" (.int (0 : Int32)) := D9 (Or.inr (hw _ (List.mem_of_getElem? (i := 27) rfl))) (ty := .byte) (by decide)
      have F9_value : Fld Z h9 b9 "java/lang/String" "value" "[B" .null := D9 (Or.inr (hw _ (List.mem_of_getElem? (i := 29) rfl))) (ty := (.array .byte)) (by decide)
      have X9 : Stand _ _ _ _ _ _ _ _ _ _ _ _ 19 44 := X9
      refine own_go st9 ?_
      show own_Gl p.tables e below F (T9.setTop (mkF m 143 #[.val (.int p1), .val (.int p2), .val (.int p3), .val (.int p4), .val (.ref b1), .val (.ref b4), .val (.ref b7), .val .null, .val .null, .unset, .unset] [(.ref b9), (.ref b8), (.ref b8)]))
      refine own_go (fun _ k => XS.dup X9.here hx rfl (hb hby at_143) rfl rfl k) ?_
      show own_Gl p.tables e below F (T9.setTop (mkF m 144 #[.val (.int p1), .val (.int p2), .val (.int p3), .val (.int p4), .val (.ref b1), .val (.ref b4), .val (.ref b7), .val .null, .val .null, .unset, .unset] [(.ref b9), (.ref b9), (.ref b8), (.ref b8)]))
      refine own_go (fun _ k => XS.aload X9.here hx rfl (hb hby at_144) rfl rfl k) ?_
      show own_Gl p.tables e below F (T9.setTop (mkF m 146 #[.val (.int p1), .val (.int p2), .val (.int p3), .val (.int p4), .val (.ref b1), .val (.ref b4), .val (.ref b7), .val .null, .val .null, .unset, .unset] [(.ref b1), (.ref b9), (.ref b9), (.ref b8), (.ref b8)]))
      obtain ⟨_, _, ⟨T10, L10, k10, n10⟩, -, X10, ⟨Lc10, hQ10, l10, y10, z10⟩, st10⟩ := X9.specialBack hx (y := (⟨"java/lang/String", "<init>", "([C)V"⟩ : MethodName)) rfl hoJNN (mvT hZJNN (hw _ (List.mem_of_getElem? (i := 4) rfl))) (mvT hZJNN (hw _ (List.mem_of_getElem? (i := 5) rfl))) (mvT hZJNN (hw _ (List.mem_of_getElem? (i := 6) rfl))) (by decide) (StrChars.Road.backV (W := 3) hZJNN hws (kI := 4) (hw _ (List.mem_of_getElem? (i := 2) rfl)) (cs := ([(nar .char ((p1 &&& (255 : Int32)).toUInt32.toUInt16.toUInt32.toInt32)), (nar .char (((XT.ushr p1 (8 : Int32)) &&& (255 : Int32)).toUInt32.toUInt16.toUInt32.toInt32))] : List Int32)) (bs := ([(nar .char ((p1 &&& (255 : Int32)).toUInt32.toUInt16.toUInt32.toInt32)), (nar .char (((XT.ushr p1 (8 : Int32)) &&& (255 : Int32)).toUInt32.toUInt16.toUInt32.toInt32))] : List Int32).map (fun c => c.toInt8.toInt32)) (n := 2) ge_b9 Z9 A9 F9_value F9_coder f9_1 (O2.ext f9_0.2) P5 rfl rfl (by decide) (by decide) hpa rfl (by decide) (by decide)) (g := (mkF m 146 #[.val (.int p1), .val (.int p2), .val (.int p3), .val (.int p4), .val (.ref b1), .val (.ref b4), .val (.ref b7), .val .null, .val .null, .unset, .unset] [(.ref b1), (.ref b9), (.ref b9), (.ref b8), (.ref b8)])) rfl (by rw [hml]; rfl) (Steps.refl _) (a := b9) (argsL := [(.ref b1)]) (rest := [(.ref b9), (.ref b8), (.ref b8)]) (lenOf pd_2 rfl) rfl (by show 2 * 0 + _ ≤ _; exact Nat.le_of_eq rfl) (hb hby at_146) (fun _ _ => ⟨rfl, e9, (by first | decide | exact Nat.le_of_ble_eq_true rfl), (by first | decide | exact Nat.le_of_ble_eq_true rfl)⟩)
      dsimp only [Pt.U, Pt.locs, Pt.cells, Pt.slots] at X10 l10 y10 z10 st10 hQ10
      have X10 := own_sn X10 (k' := 20) (n' := 46) y10 z10
      obtain ⟨hv10, N10, K10, GE10, -, -⟩ := hQ10
      rw [hv10] at st10
      have NF10 := own_fr l10 NJNN N10
      have sf10_0 := Safe.keep K10 (sfS sf_b9 sf0) CR9.1 sf9_0
      have sf10_1 := Safe.keep K10 (sfS sf_b9 sf0) CR9.1 sf9_1
      have sf10_2 := Safe.keep K10 (sfS sf_b9 sf0) CR9.1 sf9_2
      have sf10_3 := Safe.keep K10 (sfS sf_b9 sf0) CR9.1 sf9_3
      have sf10_4 := Safe.keep K10 (sfS sf_b9 sf0) CR9.1 sf_b9
      have CR10 := CR9.trans (CHr.keep K10 (sfS sf_b9 sf0) CR9.1)
      have hk10 : kJNN ≤ T10.heap.size := Nat.le_trans hk9 K10.1
      have f10_1 := f9_0.keep K10 (allS ge_b9 (all0))
      have f10_2 := f9_1.keep K10 (ninS ne_b1_b9 nin0)
      have f10_3 := f9_2.keep K10 (ninS ne_b4_b9 nin0)
      have f10_4 := f9_3.keep K10 (ninS ne_b7_b9 nin0)
      have f10_5 := f9_4.keep K10
      have f10_6 := f9_5.keep K10 (ninS ne_b8_b9 nin0)
      have f10_7 := f9_6.keep K10 (ninS ne_b8_b9 nin0)
      have f10_8 := f9_7.keep K10 (ninS ne_b8_b9 nin0)
      have f10_9 := f9_8.keep K10 (ninS ne_b8_b9 nin0)
      have f10_10 := f9_9.keep K10 (ninS ne_b8_b9 nin0)
      have f10_11 := f9_10.keep K10 (ninS ne_b8_b9 nin0)
      have f10_12 := A9.keep K10
      have Z10 : n0 ≤ T10.heap.size := Nat.le_trans Z9 K10.1
      have KK10 := Keep.trans K9 K10 (by intro z hz; simp at hz; rcases hz with rfl; all_goals first | (left; simp; done) | (right; assumption))
      refine own_go (fun _ k => st10.trans k) ?_
      show own_Gl p.tables e below F (T10.setTop (mkF m 149 #[.val (.int p1), .val (.int p2), .val (.int p3), .val (.int p4), .val (.ref b1), .val (.ref b4), .val (.ref b7), .val .null, .val .null, .unset, .unset] [(.ref b9), (.ref b8), (.ref b8)]))
      refine own_go (fun _ k => XS.iloadN X10.here hx rfl (hb hby at_149) rfl k) ?_
      show own_Gl p.tables e below F (T10.setTop (mkF m 150 #[.val (.int p1), .val (.int p2), .val (.int p3), .val (.int p4), .val (.ref b1), .val (.ref b4), .val (.ref b7), .val .null, .val .null, .unset, .unset] [(.int p4), (.ref b9), (.ref b8), (.ref b8)]))
      obtain ⟨_, _, ⟨T11, L11, k11, n11⟩, -, X11, ⟨Lc11, hQ11, l11, y11, z11⟩, st11⟩ := X10.specialBack hx (y := (⟨"com/example/palimpsest/palimpsest/history/KeyHistory", "<init>", "(Ljava/lang/String;I)V"⟩ : MethodName)) rfl hoJNN (mvT hZJNN (hw _ (List.mem_of_getElem? (i := 33) rfl))) (mvT hZJNN (hw _ (List.mem_of_getElem? (i := 34) rfl))) (mvT hZJNN (hw _ (List.mem_of_getElem? (i := 35) rfl))) (by decide) (backOf (W := 1) (rm7 l Z a0 hw [] b8 b9 p4  T10.heap n0 Z10 f10_5 f10_6 f10_7 f10_8 f10_9 f10_10 f10_11 ge_b8) hZJNN (hw _ (List.mem_of_getElem? (i := 35) rfl)) (hw _ (List.mem_of_getElem? (i := 32) rfl)) (by decide) (by decide)) (g := (mkF m 150 #[.val (.int p1), .val (.int p2), .val (.int p3), .val (.int p4), .val (.ref b1), .val (.ref b4), .val (.ref b7), .val .null, .val .null, .unset, .unset] [(.int p4), (.ref b9), (.ref b8), (.ref b8)])) rfl (by rw [hml]; rfl) (Steps.refl _) (a := b8) (argsL := [(.ref b9), (.int p4)]) (rest := [(.ref b8)]) (lenOf pd_3 rfl) rfl (by show 2 * 0 + _ ≤ _; exact Nat.le_of_eq rfl) (hb hby at_150) (fun _ _ => ⟨rfl, rfl, (by first | decide | exact Nat.le_of_ble_eq_true rfl), (by first | decide | exact Nat.le_of_ble_eq_true rfl)⟩)
      dsimp only [Pt.U, Pt.locs, Pt.cells, Pt.slots] at X11 l11 y11 z11 st11 hQ11
      have X11 := own_sn X11 (k' := 22) (n' := 62) y11 z11
      obtain ⟨hv11, N11, K11, GE11, GF11⟩ := hQ11
      rw [hv11] at st11
      have NF11 := own_fr l11 NF10 N11
      have sf11_0 := Safe.keep K11 (sfS sf10_3 sf0) CR10.1 sf10_0
      have sf11_1 := Safe.keep K11 (sfS sf10_3 sf0) CR10.1 sf10_1
      have sf11_2 := Safe.keep K11 (sfS sf10_3 sf0) CR10.1 sf10_2
      have sf11_3 := Safe.keep K11 (sfS sf10_3 sf0) CR10.1 sf10_3
      have sf11_4 := Safe.keep K11 (sfS sf10_3 sf0) CR10.1 sf10_4
      have CR11 := CR10.trans (CHr.keep K11 (sfS sf10_3 sf0) CR10.1)
      have hk11 : kJNN ≤ T11.heap.size := Nat.le_trans hk10 K11.1
      have f11_1 := f10_1.keep K11 (allS ge_b8 (all0))
      have f11_2 := f10_2.keep K11 (ninS ne_b1_b8 nin0)
      have f11_3 := f10_3.keep K11 (ninS ne_b4_b8 nin0)
      have f11_4 := f10_4.keep K11 (ninS ne_b7_b8 nin0)
      have f11_5 := f10_5.keep K11
      have f11_12 := f10_12.keep K11
      have Z11 : n0 ≤ T11.heap.size := Nat.le_trans Z10 K11.1
      have KK11 := Keep.trans KK10 K11 (by intro z hz; simp at hz; rcases hz with rfl; all_goals first | (left; simp; done) | (right; assumption))
      refine own_go (fun _ k => st11.trans k) ?_
      show own_Gl p.tables e below F (T11.setTop (mkF m 153 #[.val (.int p1), .val (.int p2), .val (.int p3), .val (.int p4), .val (.ref b1), .val (.ref b4), .val (.ref b7), .val .null, .val .null, .unset, .unset] [(.ref b8)]))
      refine own_go (fun _ k => XS.astore X11.here hx rfl (hb hby at_153) rfl rfl (l' := #[.val (.int p1), .val (.int p2), .val (.int p3), .val (.int p4), .val (.ref b1), .val (.ref b4), .val (.ref b7), .val .null, .val .null, .val (.ref b8), .unset]) rfl k) ?_
      show own_Gl p.tables e below F (T11.setTop (mkF m 155 #[.val (.int p1), .val (.int p2), .val (.int p3), .val (.int p4), .val (.ref b1), .val (.ref b4), .val (.ref b7), .val .null, .val .null, .val (.ref b8), .unset] []))
      refine own_go (fun _ k => XS.aload X11.here hx rfl (hb hby at_155) rfl rfl k) ?_
      show own_Gl p.tables e below F (T11.setTop (mkF m 157 #[.val (.int p1), .val (.int p2), .val (.int p3), .val (.int p4), .val (.ref b1), .val (.ref b4), .val (.ref b7), .val .null, .val .null, .val (.ref b8), .unset] [(.ref b8)]))
      obtain ⟨cq12, kq12, q12a, q12b, q12c⟩ := isOf hZJNN rfl GE11
      obtain ⟨_, _, ⟨T12, L12, k12, n12⟩, -, X12, ⟨Lc12, hQ12, l12, y12, z12⟩, st12⟩ := X11.virtualBack hx (y := (⟨"com/example/palimpsest/palimpsest/history/KeyHistory", "disorder", "()Ljava/lang/String;"⟩ : MethodName)) (z := (⟨"com/example/palimpsest/palimpsest/history/KeyHistory", "disorder", "()Ljava/lang/String;"⟩ : MethodName)) hoJNN (mvT hZJNN (hw _ (List.mem_of_getElem? (i := 64) rfl))) (mvT hZJNN (hw _ (List.mem_of_getElem? (i := 65) rfl))) (notFace_of_selects (args := #[]) (mvT hZJNN (hw _ (List.mem_of_getElem? (i := 67) rfl)))) (mvT hZJNN (hw _ (List.mem_of_getElem? (i := 67) rfl))) (mvT hZJNN (hw _ (List.mem_of_getElem? (i := 66) rfl))) (by decide) (backOf (W := 0) (rm10 l Z a0 hw [] b8 .null T11.heap n0 Z11 rfl GF11) hZJNN (hw _ (List.mem_of_getElem? (i := 68) rfl)) (hw _ (List.mem_of_getElem? (i := 32) rfl)) (by decide) (by decide)) q12a q12c (g := (mkF m 157 #[.val (.int p1), .val (.int p2), .val (.int p3), .val (.int p4), .val (.ref b1), .val (.ref b4), .val (.ref b7), .val .null, .val .null, .val (.ref b8), .unset] [(.ref b8)])) rfl (by rw [hml]; rfl) (Steps.refl _) (argsL := []) (rest := []) (lenOf pd_4 rfl) rfl (by show 2 * 0 + _ ≤ _; exact Nat.le_of_eq rfl) (hb hby at_157) (fun _ _ => ⟨rfl, rfl, (by first | decide | exact Nat.le_of_ble_eq_true rfl), (by first | decide | exact Nat.le_of_ble_eq_true rfl)⟩)
      dsimp only [Pt.U, Pt.locs, Pt.cells, Pt.slots] at X12 l12 y12 z12 st12 hQ12
      have X12 := own_sn X12 (k' := 22) (n' := 62) y12 z12
      obtain ⟨hv12, N12, e12⟩ := hQ12
      rw [hv12] at st12
      have NF12 := own_fr l12 NF11 N12
      refine own_go (fun _ k => st12.trans k) ?_
      show own_Gl p.tables e below F (T12.setTop (mkF m 160 #[.val (.int p1), .val (.int p2), .val (.int p3), .val (.int p4), .val (.ref b1), .val (.ref b4), .val (.ref b7), .val .null, .val .null, .val (.ref b8), .unset] [.null]))
      refine own_go (fun _ k => XS.ifnullYes X12.here hx rfl (pc0 := 160) (pc' := 165) rfl (hb hby at_160) rfl (by decide) (by decide) k) ?_
      show own_Gl p.tables e below F (T12.setTop (mkF m 165 #[.val (.int p1), .val (.int p2), .val (.int p3), .val (.int p4), .val (.ref b1), .val (.ref b4), .val (.ref b7), .val .null, .val .null, .val (.ref b8), .unset] []))
      refine own_go (fun _ k => XS.aload X12.here hx rfl (hb hby at_165) rfl rfl k) ?_
      show own_Gl p.tables e below F (T12.setTop (mkF m 167 #[.val (.int p1), .val (.int p2), .val (.int p3), .val (.int p4), .val (.ref b1), .val (.ref b4), .val (.ref b7), .val .null, .val .null, .val (.ref b8), .unset] [(.ref b8)]))
      refine own_go (fun _ k => XS.aload X12.here hx rfl (hb hby at_167) rfl rfl k) ?_
      show own_Gl p.tables e below F (T12.setTop (mkF m 169 #[.val (.int p1), .val (.int p2), .val (.int p3), .val (.int p4), .val (.ref b1), .val (.ref b4), .val (.ref b7), .val .null, .val .null, .val (.ref b8), .unset] [.null, (.ref b8)]))
      obtain ⟨cq13, kq13, q13a, q13b, q13c⟩ := isOf hZJNN e12 GE11
      obtain ⟨_, _, ⟨T13, L13, k13, n13⟩, -, X13, ⟨Lc13, hQ13, l13, y13, z13⟩, st13⟩ := X12.virtualBack hx (y := (⟨"com/example/palimpsest/palimpsest/history/KeyHistory", "disorder", "(Ljava/lang/String;)V"⟩ : MethodName)) (z := (⟨"com/example/palimpsest/palimpsest/history/KeyHistory", "disorder", "(Ljava/lang/String;)V"⟩ : MethodName)) hoJNN (mvT hZJNN (hw _ (List.mem_of_getElem? (i := 71) rfl))) (mvT hZJNN (hw _ (List.mem_of_getElem? (i := 72) rfl))) (notFace_of_selects (args := #[]) (mvT hZJNN (hw _ (List.mem_of_getElem? (i := 74) rfl)))) (mvT hZJNN (hw _ (List.mem_of_getElem? (i := 74) rfl))) (mvT hZJNN (hw _ (List.mem_of_getElem? (i := 73) rfl))) (by decide) (backOf (W := 0) (rm11_NN l Z a0 hw [] b8  T11.heap n0 Z11 GE11 GF11 ge_b8) hZJNN (hw _ (List.mem_of_getElem? (i := 75) rfl)) (hw _ (List.mem_of_getElem? (i := 32) rfl)) (by decide) (by decide)) q13a q13c (g := (mkF m 169 #[.val (.int p1), .val (.int p2), .val (.int p3), .val (.int p4), .val (.ref b1), .val (.ref b4), .val (.ref b7), .val .null, .val .null, .val (.ref b8), .unset] [.null, (.ref b8)])) rfl (by rw [hml]; rfl) (Steps.refl _) (argsL := [.null]) (rest := []) (lenOf pd_5 rfl) rfl (by show 2 * 0 + _ ≤ _; exact Nat.le_of_eq rfl) (hb hby at_169) (fun _ _ => ⟨rfl, e12, (by first | decide | exact Nat.le_of_ble_eq_true rfl), (by first | decide | exact Nat.le_of_ble_eq_true rfl)⟩)
      dsimp only [Pt.U, Pt.locs, Pt.cells, Pt.slots] at X13 l13 y13 z13 st13 hQ13
      have X13 := own_sn X13 (k' := 22) (n' := 62) y13 z13
      obtain ⟨hv13, N13, K13, GE13, GF13⟩ := hQ13
      rw [hv13] at st13
      have NF13 := own_fr l13 NF12 N13
      have sf13_0 := Safe.keep K13 (sfS sf11_3 sf0) CR11.1 sf11_0
      have sf13_1 := Safe.keep K13 (sfS sf11_3 sf0) CR11.1 sf11_1
      have sf13_2 := Safe.keep K13 (sfS sf11_3 sf0) CR11.1 sf11_2
      have sf13_3 := Safe.keep K13 (sfS sf11_3 sf0) CR11.1 sf11_3
      have sf13_4 := Safe.keep K13 (sfS sf11_3 sf0) CR11.1 sf11_4
      have CR13 := CR11.trans (CHr.keep K13 (sfS sf11_3 sf0) CR11.1)
      have hk13 : kJNN ≤ T13.heap.size := Nat.le_trans hk11 K13.1
      have f13_1 := f11_1.keep K13 (allS ge_b8 (all0))
      have f13_2 := f11_2.keep K13 (ninS ne_b1_b8 nin0)
      have f13_3 := f11_3.keep K13 (ninS ne_b4_b8 nin0)
      have f13_4 := f11_4.keep K13 (ninS ne_b7_b8 nin0)
      have f13_5 := GE11.keep K13
      have f13_6 := f11_12.keep K13
      have Z13 : n0 ≤ T13.heap.size := Nat.le_trans Z11 K13.1
      have KK13 := Keep.trans KK11 K13 (by intro z hz; simp at hz; rcases hz with rfl; all_goals first | (left; simp; done) | (right; assumption))
      refine own_go (fun _ k => st13.trans k) ?_
      show own_Gl p.tables e below F (T13.setTop (mkF m 172 #[.val (.int p1), .val (.int p2), .val (.int p3), .val (.int p4), .val (.ref b1), .val (.ref b4), .val (.ref b7), .val .null, .val .null, .val (.ref b8), .unset] []))
      refine own_go (fun _ k => XS.aload X13.here hx rfl (hb hby at_172) rfl rfl k) ?_
      show own_Gl p.tables e below F (T13.setTop (mkF m 174 #[.val (.int p1), .val (.int p2), .val (.int p3), .val (.int p4), .val (.ref b1), .val (.ref b4), .val (.ref b7), .val .null, .val .null, .val (.ref b8), .unset] [(.ref b8)]))
      obtain ⟨cq14, kq14, q14a, q14b, q14c⟩ := isOf hZJNN rfl GE13
      obtain ⟨_, _, ⟨T14, L14, k14, n14⟩, -, X14, ⟨Lc14, hQ14, l14, y14, z14⟩, st14⟩ := X13.virtualBack hx (y := (⟨"com/example/palimpsest/palimpsest/history/KeyHistory", "disorder", "()Ljava/lang/String;"⟩ : MethodName)) (z := (⟨"com/example/palimpsest/palimpsest/history/KeyHistory", "disorder", "()Ljava/lang/String;"⟩ : MethodName)) hoJNN (mvT hZJNN (hw _ (List.mem_of_getElem? (i := 64) rfl))) (mvT hZJNN (hw _ (List.mem_of_getElem? (i := 65) rfl))) (notFace_of_selects (args := #[]) (mvT hZJNN (hw _ (List.mem_of_getElem? (i := 67) rfl)))) (mvT hZJNN (hw _ (List.mem_of_getElem? (i := 67) rfl))) (mvT hZJNN (hw _ (List.mem_of_getElem? (i := 66) rfl))) (by decide) (backOf (W := 0) (rm10 l Z a0 hw [] b8 .null T13.heap n0 Z13 rfl GF13) hZJNN (hw _ (List.mem_of_getElem? (i := 68) rfl)) (hw _ (List.mem_of_getElem? (i := 32) rfl)) (by decide) (by decide)) q14a q14c (g := (mkF m 174 #[.val (.int p1), .val (.int p2), .val (.int p3), .val (.int p4), .val (.ref b1), .val (.ref b4), .val (.ref b7), .val .null, .val .null, .val (.ref b8), .unset] [(.ref b8)])) rfl (by rw [hml]; rfl) (Steps.refl _) (argsL := []) (rest := []) (lenOf pd_4 rfl) rfl (by show 2 * 0 + _ ≤ _; exact Nat.le_of_eq rfl) (hb hby at_174) (fun _ _ => ⟨rfl, rfl, (by first | decide | exact Nat.le_of_ble_eq_true rfl), (by first | decide | exact Nat.le_of_ble_eq_true rfl)⟩)
      dsimp only [Pt.U, Pt.locs, Pt.cells, Pt.slots] at X14 l14 y14 z14 st14 hQ14
      have X14 := own_sn X14 (k' := 22) (n' := 62) y14 z14
      obtain ⟨hv14, N14, e14⟩ := hQ14
      rw [hv14] at st14
      have NF14 := own_fr l14 NF13 N14
      refine own_go (fun _ k => st14.trans k) ?_
      show own_Gl p.tables e below F (T14.setTop (mkF m 177 #[.val (.int p1), .val (.int p2), .val (.int p3), .val (.int p4), .val (.ref b1), .val (.ref b4), .val (.ref b7), .val .null, .val .null, .val (.ref b8), .unset] [.null]))
      refine own_go (fun _ k => XS.aload X14.here hx rfl (hb hby at_177) rfl rfl k) ?_
      show own_Gl p.tables e below F (T14.setTop (mkF m 179 #[.val (.int p1), .val (.int p2), .val (.int p3), .val (.int p4), .val (.ref b1), .val (.ref b4), .val (.ref b7), .val .null, .val .null, .val (.ref b8), .unset] [.null, .null]))
      refine own_go (fun _ k => Jvm.RoadKit.acmp (g := (mkF m 179 #[.val (.int p1), .val (.int p2), .val (.int p3), .val (.int p4), .val (.ref b1), .val (.ref b4), .val (.ref b7), .val .null, .val .null, .val (.ref b8), .unset] [.null, .null])) X14 hx rfl rfl rfl (pc0 := 179) (pc' := 184) (same := true) rfl (hb hby at_179) rfl (decide_eq_true rfl) (by decide) (by decide) k) ?_
      show own_Gl p.tables e below F (T14.setTop (mkF m 184 #[.val (.int p1), .val (.int p2), .val (.int p3), .val (.int p4), .val (.ref b1), .val (.ref b4), .val (.ref b7), .val .null, .val .null, .val (.ref b8), .unset] []))
      refine own_go (fun _ k => XS.aload X14.here hx rfl (hb hby at_184) rfl rfl k) ?_
      show own_Gl p.tables e below F (T14.setTop (mkF m 186 #[.val (.int p1), .val (.int p2), .val (.int p3), .val (.int p4), .val (.ref b1), .val (.ref b4), .val (.ref b7), .val .null, .val .null, .val (.ref b8), .unset] [(.ref b8)]))
      refine own_go (fun _ k => XS.aload X14.here hx rfl (hb hby at_186) rfl rfl k) ?_
      show own_Gl p.tables e below F (T14.setTop (mkF m 188 #[.val (.int p1), .val (.int p2), .val (.int p3), .val (.int p4), .val (.ref b1), .val (.ref b4), .val (.ref b7), .val .null, .val .null, .val (.ref b8), .unset] [.null, (.ref b8)]))
      obtain ⟨cq15, kq15, q15a, q15b, q15c⟩ := isOf hZJNN e14 GE13
      obtain ⟨_, _, ⟨T15, L15, k15, n15⟩, -, X15, ⟨Lc15, hQ15, l15, y15, z15⟩, st15⟩ := X14.virtualBack hx (y := (⟨"com/example/palimpsest/palimpsest/history/KeyHistory", "disorder", "(Ljava/lang/String;)V"⟩ : MethodName)) (z := (⟨"com/example/palimpsest/palimpsest/history/KeyHistory", "disorder", "(Ljava/lang/String;)V"⟩ : MethodName)) hoJNN (mvT hZJNN (hw _ (List.mem_of_getElem? (i := 71) rfl))) (mvT hZJNN (hw _ (List.mem_of_getElem? (i := 72) rfl))) (notFace_of_selects (args := #[]) (mvT hZJNN (hw _ (List.mem_of_getElem? (i := 74) rfl)))) (mvT hZJNN (hw _ (List.mem_of_getElem? (i := 74) rfl))) (mvT hZJNN (hw _ (List.mem_of_getElem? (i := 73) rfl))) (by decide) (backOf (W := 0) (rm11_NN l Z a0 hw [] b8  T13.heap n0 Z13 GE13 GF13 ge_b8) hZJNN (hw _ (List.mem_of_getElem? (i := 75) rfl)) (hw _ (List.mem_of_getElem? (i := 32) rfl)) (by decide) (by decide)) q15a q15c (g := (mkF m 188 #[.val (.int p1), .val (.int p2), .val (.int p3), .val (.int p4), .val (.ref b1), .val (.ref b4), .val (.ref b7), .val .null, .val .null, .val (.ref b8), .unset] [.null, (.ref b8)])) rfl (by rw [hml]; rfl) (Steps.refl _) (argsL := [.null]) (rest := []) (lenOf pd_5 rfl) rfl (by show 2 * 0 + _ ≤ _; exact Nat.le_of_eq rfl) (hb hby at_188) (fun _ _ => ⟨rfl, e14, (by first | decide | exact Nat.le_of_ble_eq_true rfl), (by first | decide | exact Nat.le_of_ble_eq_true rfl)⟩)
      dsimp only [Pt.U, Pt.locs, Pt.cells, Pt.slots] at X15 l15 y15 z15 st15 hQ15
      have X15 := own_sn X15 (k' := 22) (n' := 62) y15 z15
      obtain ⟨hv15, N15, K15, GE15, GF15⟩ := hQ15
      rw [hv15] at st15
      have NF15 := own_fr l15 NF14 N15
      have sf15_0 := Safe.keep K15 (sfS sf13_3 sf0) CR13.1 sf13_0
      have sf15_1 := Safe.keep K15 (sfS sf13_3 sf0) CR13.1 sf13_1
      have sf15_2 := Safe.keep K15 (sfS sf13_3 sf0) CR13.1 sf13_2
      have sf15_3 := Safe.keep K15 (sfS sf13_3 sf0) CR13.1 sf13_3
      have sf15_4 := Safe.keep K15 (sfS sf13_3 sf0) CR13.1 sf13_4
      have CR15 := CR13.trans (CHr.keep K15 (sfS sf13_3 sf0) CR13.1)
      have hk15 : kJNN ≤ T15.heap.size := Nat.le_trans hk13 K15.1
      have f15_1 := f13_1.keep K15 (allS ge_b8 (all0))
      have f15_2 := f13_2.keep K15 (ninS ne_b1_b8 nin0)
      have f15_3 := f13_3.keep K15 (ninS ne_b4_b8 nin0)
      have f15_4 := f13_4.keep K15 (ninS ne_b7_b8 nin0)
      have f15_5 := GE13.keep K15
      have f15_6 := f13_6.keep K15
      have Z15 : n0 ≤ T15.heap.size := Nat.le_trans Z13 K15.1
      have KK15 := Keep.trans KK13 K15 (by intro z hz; simp at hz; rcases hz with rfl; all_goals first | (left; simp; done) | (right; assumption))
      refine own_go (fun _ k => st15.trans k) ?_
      show own_Gl p.tables e below F (T15.setTop (mkF m 191 #[.val (.int p1), .val (.int p2), .val (.int p3), .val (.int p4), .val (.ref b1), .val (.ref b4), .val (.ref b7), .val .null, .val .null, .val (.ref b8), .unset] []))
      refine own_go (fun _ k => XS.aload X15.here hx rfl (hb hby at_191) rfl rfl k) ?_
      show own_Gl p.tables e below F (T15.setTop (mkF m 193 #[.val (.int p1), .val (.int p2), .val (.int p3), .val (.int p4), .val (.ref b1), .val (.ref b4), .val (.ref b7), .val .null, .val .null, .val (.ref b8), .unset] [.null]))
      refine own_go (fun _ k => XS.ifnullYes X15.here hx rfl (pc0 := 193) (pc' := 201) rfl (hb hby at_193) rfl (by decide) (by decide) k) ?_
      show own_Gl p.tables e below F (T15.setTop (mkF m 201 #[.val (.int p1), .val (.int p2), .val (.int p3), .val (.int p4), .val (.ref b1), .val (.ref b4), .val (.ref b7), .val .null, .val .null, .val (.ref b8), .unset] []))
      refine own_go (fun _ k => XS.aload X15.here hx rfl (hb hby at_201) rfl rfl k) ?_
      show own_Gl p.tables e below F (T15.setTop (mkF m 203 #[.val (.int p1), .val (.int p2), .val (.int p3), .val (.int p4), .val (.ref b1), .val (.ref b4), .val (.ref b7), .val .null, .val .null, .val (.ref b8), .unset] [.null]))
      refine own_go (fun _ k => XS.astore X15.here hx rfl (hb hby at_203) rfl rfl (l' := #[.val (.int p1), .val (.int p2), .val (.int p3), .val (.int p4), .val (.ref b1), .val (.ref b4), .val (.ref b7), .val .null, .val .null, .val (.ref b8), .val .null]) rfl k) ?_
      show own_Gl p.tables e below F (T15.setTop (mkF m 205 #[.val (.int p1), .val (.int p2), .val (.int p3), .val (.int p4), .val (.ref b1), .val (.ref b4), .val (.ref b7), .val .null, .val .null, .val (.ref b8), .val .null] []))
      refine own_go (fun _ k => XS.aload X15.here hx rfl (hb hby at_205) rfl rfl k) ?_
      show own_Gl p.tables e below F (T15.setTop (mkF m 207 #[.val (.int p1), .val (.int p2), .val (.int p3), .val (.int p4), .val (.ref b1), .val (.ref b4), .val (.ref b7), .val .null, .val .null, .val (.ref b8), .val .null] [(.ref b8)]))
      obtain ⟨cq16, kq16, q16a, q16b, q16c⟩ := isOf hZJNN rfl GE15
      obtain ⟨_, _, ⟨T16, L16, k16, n16⟩, -, X16, ⟨Lc16, hQ16, l16, y16, z16⟩, st16⟩ := X15.virtualBack hx (y := (⟨"com/example/palimpsest/palimpsest/history/KeyHistory", "disorder", "()Ljava/lang/String;"⟩ : MethodName)) (z := (⟨"com/example/palimpsest/palimpsest/history/KeyHistory", "disorder", "()Ljava/lang/String;"⟩ : MethodName)) hoJNN (mvT hZJNN (hw _ (List.mem_of_getElem? (i := 64) rfl))) (mvT hZJNN (hw _ (List.mem_of_getElem? (i := 65) rfl))) (notFace_of_selects (args := #[]) (mvT hZJNN (hw _ (List.mem_of_getElem? (i := 67) rfl)))) (mvT hZJNN (hw _ (List.mem_of_getElem? (i := 67) rfl))) (mvT hZJNN (hw _ (List.mem_of_getElem? (i := 66) rfl))) (by decide) (backOf (W := 0) (rm10 l Z a0 hw [] b8 .null T15.heap n0 Z15 rfl GF15) hZJNN (hw _ (List.mem_of_getElem? (i := 68) rfl)) (hw _ (List.mem_of_getElem? (i := 32) rfl)) (by decide) (by decide)) q16a q16c (g := (mkF m 207 #[.val (.int p1), .val (.int p2), .val (.int p3), .val (.int p4), .val (.ref b1), .val (.ref b4), .val (.ref b7), .val .null, .val .null, .val (.ref b8), .val .null] [(.ref b8)])) rfl (by rw [hml]; rfl) (Steps.refl _) (argsL := []) (rest := []) (lenOf pd_4 rfl) rfl (by show 2 * 0 + _ ≤ _; exact Nat.le_of_eq rfl) (hb hby at_207) (fun _ _ => ⟨rfl, rfl, (by first | decide | exact Nat.le_of_ble_eq_true rfl), (by first | decide | exact Nat.le_of_ble_eq_true rfl)⟩)
      dsimp only [Pt.U, Pt.locs, Pt.cells, Pt.slots] at X16 l16 y16 z16 st16 hQ16
      have X16 := own_sn X16 (k' := 22) (n' := 62) y16 z16
      obtain ⟨hv16, N16, e16⟩ := hQ16
      rw [hv16] at st16
      have NF16 := own_fr l16 NF15 N16
      refine own_go (fun _ k => st16.trans k) ?_
      show own_Gl p.tables e below F (T16.setTop (mkF m 210 #[.val (.int p1), .val (.int p2), .val (.int p3), .val (.int p4), .val (.ref b1), .val (.ref b4), .val (.ref b7), .val .null, .val .null, .val (.ref b8), .val .null] [.null]))
      refine own_go (fun _ k => XS.aload X16.here hx rfl (hb hby at_210) rfl rfl k) ?_
      show own_Gl p.tables e below F (T16.setTop (mkF m 212 #[.val (.int p1), .val (.int p2), .val (.int p3), .val (.int p4), .val (.ref b1), .val (.ref b4), .val (.ref b7), .val .null, .val .null, .val (.ref b8), .val .null] [.null, .null]))
      refine own_go (fun _ k => Jvm.RoadKit.acmp (g := (mkF m 212 #[.val (.int p1), .val (.int p2), .val (.int p3), .val (.int p4), .val (.ref b1), .val (.ref b4), .val (.ref b7), .val .null, .val .null, .val (.ref b8), .val .null] [.null, .null])) X16 hx rfl rfl rfl (pc0 := 212) (pc' := 215) (same := true) rfl (hb hby at_212) rfl (decide_eq_true rfl) (by decide) (by decide) k) ?_
      show own_Gl p.tables e below F (T16.setTop (mkF m 215 #[.val (.int p1), .val (.int p2), .val (.int p3), .val (.int p4), .val (.ref b1), .val (.ref b4), .val (.ref b7), .val .null, .val .null, .val (.ref b8), .val .null] []))
      refine own_go (fun _ k => XS.iconst X16.here hx rfl (hb hby at_215) k) ?_
      show own_Gl p.tables e below F (T16.setTop (mkF m 216 #[.val (.int p1), .val (.int p2), .val (.int p3), .val (.int p4), .val (.ref b1), .val (.ref b4), .val (.ref b7), .val .null, .val .null, .val (.ref b8), .val .null] [(.int (1 : Int32))]))
      refine own_go (fun _ k => XS.goto X16.here hx rfl (pc0 := 216) (pc' := 220) rfl (hb hby at_216) (by decide) (by decide) k) ?_
      show own_Gl p.tables e below F (T16.setTop (mkF m 220 #[.val (.int p1), .val (.int p2), .val (.int p3), .val (.int p4), .val (.ref b1), .val (.ref b4), .val (.ref b7), .val .null, .val .null, .val (.ref b8), .val .null] [(.int (1 : Int32))]))
      obtain ⟨fs, hr, hrun, hended, hRW⟩ := Jvm.Stand.leaveW X16 hSJNN (by rw [e16]; exact hk15) (v := some (.int (1 : Int32))) (fun h => by rw [Bd.returns] at h; cases h)
      have CE : CHr Z own_EL s.vm s.heap T16.vm T16.heap := by rw [hh, e16]; exact CR15.trans (CHv.at X16 hZJNN hEL CR15.1)
      subst hF
      refine own_fin ?_ ⟨hrun, hended, _, _, rfl, ?_, CE, hRW.1, hRW.2.1, hRW.2.2.1, hRW.2.2.2.mono (by first | decide | exact Nat.le_of_ble_eq_true rfl) (by first | decide | exact Nat.le_of_ble_eq_true rfl)⟩
      · exact own_retN X16 hx (t := .boolean) Bd.returns (by simp) rfl (hb hby at_220) hr
      · show Q_rm0 Z _ _ _ _ _ h0 n0 _ T16.heap _
        rw [e16]
        exact ⟨rfl, NF16⟩
    show own_Gl p.tables e below F (TJN.setTop (mkF m 99 #[.val (.int p1), .val (.int p2), .val (.int p3), .val (.int p4), .val (.ref b1), .val (.ref b4), .val (.ref b7), .val .null, .unset, .unset, .unset] [(.int (p3 &&& (2 : Int32)))]))
    have JNR : ∀ (TJNR : State) (lJNR : List Loc) (hJNR : Heap) (vJNR : Vm) (kJNR : Nat) (y : Addr) (XJNR : Stand p l e room_1 (s.setVm vJNR) m #[(.int p1), (.int p2), (.int p3), (.int p4)] below meth c TJNR lJNR 17 30) (eJNR : TJNR.heap = hJNR) (NJNR : Fr n0 lJNR) (ZJNR : n0 ≤ hJNR.size) (KJNR : Keep h0 hJNR []) (hZJNR : Z.Warmed39 (s.setVm vJNR).vm) (hoJNR : (s.setVm vJNR).vm.findClass "com/example/palimpsest/palimpsest/history/KeyHistoryDisorderPinLaw" = some m.cls) (hSJNR : s.Since vJNR kJNR) (hkJNR : kJNR ≤ hJNR.size) (CRJNR : CHr Z own_EL s.vm h0 vJNR hJNR) (sJNR_b1 : Safe Z own_EL vJNR hJNR b1) (sJNR_b4 : Safe Z own_EL vJNR hJNR b4) (sJNR_b7 : Safe Z own_EL vJNR hJNR b7) (fJNR_0 : Old Z n0 hJNR) (fJNR_1 : Arv Z hJNR b1 k1 .char (2 : Int32) [(.int (nar .char ((p1 &&& (255 : Int32)).toUInt32.toUInt16.toUInt32.toInt32))), (.int (nar .char (((XT.ushr p1 (8 : Int32)) &&& (255 : Int32)).toUInt32.toUInt16.toUInt32.toInt32)))] (.int (0 : Int32))) (fJNR_2 : Arv Z hJNR b4 k4 .char (2 : Int32) [(.int (nar .char ((p2 &&& (255 : Int32)).toUInt32.toUInt16.toUInt32.toInt32))), (.int (nar .char (((XT.ushr p2 (8 : Int32)) &&& (255 : Int32)).toUInt32.toUInt16.toUInt32.toInt32)))] (.int (0 : Int32))) (fJNR_3 : Arv Z hJNR b7 k7 .char (0 : Int32) [] (.int (0 : Int32))) , own_Gl p.tables e below F (TJNR.setTop (mkF m 134 #[.val (.int p1), .val (.int p2), .val (.int p3), .val (.int p4), .val (.ref b1), .val (.ref b4), .val (.ref b7), .val .null, .unset, .unset, .unset] [(.ref y)])) := by
      intro TJNR lJNR hJNR vJNR kJNR y XJNR eJNR NJNR ZJNR KJNR hZJNR hoJNR hSJNR hkJNR CRJNR sJNR_b1 sJNR_b4 sJNR_b7 fJNR_0 fJNR_1 fJNR_2 fJNR_3
      show own_Gl p.tables e below F (TJNR.setTop (mkF m 134 #[.val (.int p1), .val (.int p2), .val (.int p3), .val (.int p4), .val (.ref b1), .val (.ref b4), .val (.ref b7), .val .null, .unset, .unset, .unset] [(.ref y)]))
      refine own_go (fun _ k => XS.astore XJNR.here hx rfl (hb hby at_134) rfl rfl (l' := #[.val (.int p1), .val (.int p2), .val (.int p3), .val (.int p4), .val (.ref b1), .val (.ref b4), .val (.ref b7), .val .null, .val (.ref y), .unset, .unset]) rfl k) ?_
      show own_Gl p.tables e below F (TJNR.setTop (mkF m 136 #[.val (.int p1), .val (.int p2), .val (.int p3), .val (.int p4), .val (.ref b1), .val (.ref b4), .val (.ref b7), .val .null, .val (.ref y), .unset, .unset] []))
      obtain ⟨T17, h17, X17, e17, E17, A17, D17, -, st17⟩ := newO XJNR hx hZJNR hoJNR (hw _ (List.mem_of_getElem? (i := 30) rfl)) (hw _ (List.mem_of_getElem? (i := 31) rfl)) (hw _ (List.mem_of_getElem? (i := 32) rfl)) eJNR (g := (mkF m 136 #[.val (.int p1), .val (.int p2), .val (.int p3), .val (.int p4), .val (.ref b1), .val (.ref b4), .val (.ref b7), .val .null, .val (.ref y), .unset, .unset] [])) rfl (hb hby at_136) (by first | decide | exact Nat.le_of_ble_eq_true rfl) (by first | decide | exact Nat.le_of_ble_eq_true rfl)
      obtain ⟨b17, g17⟩ : ∃ z, z = hJNR.size := ⟨_, rfl⟩
      rw [← g17] at A17 D17 st17
      have ne_b1_b17 : b1 ≠ b17 := Nat.ne_of_lt (Nat.lt_of_lt_of_le fJNR_1.lt (Nat.le_of_eq g17.symm))
      have ne_b4_b17 : b4 ≠ b17 := Nat.ne_of_lt (Nat.lt_of_lt_of_le fJNR_2.lt (Nat.le_of_eq g17.symm))
      have ne_b7_b17 : b7 ≠ b17 := Nat.ne_of_lt (Nat.lt_of_lt_of_le fJNR_3.lt (Nat.le_of_eq g17.symm))
      have ge_b17 : n0 ≤ b17 := Nat.le_trans ZJNR (Nat.le_of_eq g17.symm)
      have sz_b17 : h0.size ≤ b17 := Nat.le_trans (KJNR).1 (Nat.le_of_eq g17.symm)
      have sf_b17 := Safe.ext E17 CRJNR.1 (Safe.new (Z := Z) (EL := own_EL) (vm := vJNR) (Nat.le_of_eq g17.symm))
      have f17_0 := fJNR_0.ext E17
      have f17_1 := fJNR_1.ext E17
      have f17_2 := fJNR_2.ext E17
      have f17_3 := fJNR_3.ext E17
      have Z17 : n0 ≤ h17.size := Nat.le_trans ZJNR E17.1
      have K17 := Keep.ext KJNR E17
      have sf17_0 := Safe.ext E17 CRJNR.1 sJNR_b1
      have sf17_1 := Safe.ext E17 CRJNR.1 sJNR_b4
      have sf17_2 := Safe.ext E17 CRJNR.1 sJNR_b7
      have CR17 := CRJNR.trans (CHr.ext E17 CRJNR.1)
      have hk17 : kJNR ≤ h17.size := Nat.le_trans hkJNR E17.1
      have F17_appends : Fld Z h17 b17 "com/example/palimpsest/palimpsest/history/KeyHistory" "appends" "Ljava/util/Map;" .null := D17 (Or.inr (hw _ (List.mem_of_getElem? (i := 54) rfl))) (ty := (.object "java/util/Map")) (by decide)
      have F17_longest : Fld Z h17 b17 "com/example/palimpsest/palimpsest/history/KeyHistory" "longest" "[J" .null := D17 (Or.inl (hw _ (List.mem_of_getElem? (i := 57) rfl))) (ty := (.array .long)) (by decide)
      have F17_longestReader : Fld Z h17 b17 "com/example/palimpsest/palimpsest/history/KeyHistory" "longestReader" "I" (.int (0 : Int32)) := D17 (Or.inl (hw _ (List.mem_of_getElem? (i := 59) rfl))) (ty := .int) (by decide)
      have F17_name : Fld Z h17 b17 "com/example/palimpsest/palimpsest/history/KeyHistory" "name" "Ljava/lang/String;" .null := D17 (Or.inr (hw _ (List.mem_of_getElem? (i := 61) rfl))) (ty := (.object "java/lang/String")) (by decide)
      have F17_number : Fld Z h17 b17 "com/example/palimpsest/palimpsest/history/KeyHistory" "number" "I" (.int (0 : Int32)) := D17 (Or.inr (hw _ (List.mem_of_getElem? (i := 63) rfl))) (ty := .int) (by decide)
      have F17_disorder : Fld Z h17 b17 "com/example/palimpsest/palimpsest/history/KeyHistory" "disorder" "Ljava/lang/String;" .null := D17 (Or.inl (hw _ (List.mem_of_getElem? (i := 70) rfl))) (ty := (.object "java/lang/String")) (by decide)
      have X17 : Stand _ _ _ _ _ _ _ _ _ _ _ _ 18 40 := X17
      refine own_go st17 ?_
      show own_Gl p.tables e below F (T17.setTop (mkF m 139 #[.val (.int p1), .val (.int p2), .val (.int p3), .val (.int p4), .val (.ref b1), .val (.ref b4), .val (.ref b7), .val .null, .val (.ref y), .unset, .unset] [(.ref b17)]))
      refine own_go (fun _ k => XS.dup X17.here hx rfl (hb hby at_139) rfl rfl k) ?_
      show own_Gl p.tables e below F (T17.setTop (mkF m 140 #[.val (.int p1), .val (.int p2), .val (.int p3), .val (.int p4), .val (.ref b1), .val (.ref b4), .val (.ref b7), .val .null, .val (.ref y), .unset, .unset] [(.ref b17), (.ref b17)]))
      obtain ⟨T18, h18, X18, e18, E18, A18, D18, -, st18⟩ := newO X17 hx hZJNR hoJNR (hw _ (List.mem_of_getElem? (i := 1) rfl)) (hw _ (List.mem_of_getElem? (i := 2) rfl)) (hw _ (List.mem_of_getElem? (i := 3) rfl)) e17 (g := (mkF m 140 #[.val (.int p1), .val (.int p2), .val (.int p3), .val (.int p4), .val (.ref b1), .val (.ref b4), .val (.ref b7), .val .null, .val (.ref y), .unset, .unset] [(.ref b17), (.ref b17)])) rfl (hb hby at_140) (by first | decide | exact Nat.le_of_ble_eq_true rfl) (by first | decide | exact Nat.le_of_ble_eq_true rfl)
      obtain ⟨b18, g18⟩ : ∃ z, z = h17.size := ⟨_, rfl⟩
      rw [← g18] at A18 D18 st18
      have ne_b1_b18 : b1 ≠ b18 := Nat.ne_of_lt (Nat.lt_of_lt_of_le f17_1.lt (Nat.le_of_eq g18.symm))
      have ne_b4_b18 : b4 ≠ b18 := Nat.ne_of_lt (Nat.lt_of_lt_of_le f17_2.lt (Nat.le_of_eq g18.symm))
      have ne_b7_b18 : b7 ≠ b18 := Nat.ne_of_lt (Nat.lt_of_lt_of_le f17_3.lt (Nat.le_of_eq g18.symm))
      have ne_b17_b18 : b17 ≠ b18 := Nat.ne_of_lt (Nat.lt_of_lt_of_le A17.lt (Nat.le_of_eq g18.symm))
      have ge_b18 : n0 ≤ b18 := Nat.le_trans Z17 (Nat.le_of_eq g18.symm)
      have sz_b18 : h0.size ≤ b18 := Nat.le_trans (K17).1 (Nat.le_of_eq g18.symm)
      have sf_b18 := Safe.ext E18 CR17.1 (Safe.new (Z := Z) (EL := own_EL) (vm := vJNR) (Nat.le_of_eq g18.symm))
      have f18_0 := f17_0.ext E18
      have f18_1 := f17_1.ext E18
      have f18_2 := f17_2.ext E18
      have f18_3 := f17_3.ext E18
      have f18_4 := A17.ext E18
      have f18_5 := F17_appends.ext E18
      have f18_6 := F17_longest.ext E18
      have f18_7 := F17_longestReader.ext E18
      have f18_8 := F17_name.ext E18
      have f18_9 := F17_number.ext E18
      have f18_10 := F17_disorder.ext E18
      have Z18 : n0 ≤ h18.size := Nat.le_trans Z17 E18.1
      have K18 := Keep.ext K17 E18
      have sf18_0 := Safe.ext E18 CR17.1 sf17_0
      have sf18_1 := Safe.ext E18 CR17.1 sf17_1
      have sf18_2 := Safe.ext E18 CR17.1 sf17_2
      have sf18_3 := Safe.ext E18 CR17.1 sf_b17
      have CR18 := CR17.trans (CHr.ext E18 CR17.1)
      have hk18 : kJNR ≤ h18.size := Nat.le_trans hk17 E18.1
      have F18_coder : Fld Z h18 b18 "java/lang/String" "coder" "B" (.int (0 : Int32)) := D18 (Or.inr (hw _ (List.mem_of_getElem? (i := 27) rfl))) (ty := .byte) (by decide)
      have F18_value : Fld Z h18 b18 "java/lang/String" "value" "[B" .null := D18 (Or.inr (hw _ (List.mem_of_getElem? (i := 29) rfl))) (ty := (.array .byte)) (by decide)
      have X18 : Stand _ _ _ _ _ _ _ _ _ _ _ _ 19 44 := X18
      refine own_go st18 ?_
      show own_Gl p.tables e below F (T18.setTop (mkF m 143 #[.val (.int p1), .val (.int p2), .val (.int p3), .val (.int p4), .val (.ref b1), .val (.ref b4), .val (.ref b7), .val .null, .val (.ref y), .unset, .unset] [(.ref b18), (.ref b17), (.ref b17)]))
      refine own_go (fun _ k => XS.dup X18.here hx rfl (hb hby at_143) rfl rfl k) ?_
      show own_Gl p.tables e below F (T18.setTop (mkF m 144 #[.val (.int p1), .val (.int p2), .val (.int p3), .val (.int p4), .val (.ref b1), .val (.ref b4), .val (.ref b7), .val .null, .val (.ref y), .unset, .unset] [(.ref b18), (.ref b18), (.ref b17), (.ref b17)]))
      refine own_go (fun _ k => XS.aload X18.here hx rfl (hb hby at_144) rfl rfl k) ?_
      show own_Gl p.tables e below F (T18.setTop (mkF m 146 #[.val (.int p1), .val (.int p2), .val (.int p3), .val (.int p4), .val (.ref b1), .val (.ref b4), .val (.ref b7), .val .null, .val (.ref y), .unset, .unset] [(.ref b1), (.ref b18), (.ref b18), (.ref b17), (.ref b17)]))
      obtain ⟨_, _, ⟨T19, L19, k19, n19⟩, -, X19, ⟨Lc19, hQ19, l19, y19, z19⟩, st19⟩ := X18.specialBack hx (y := (⟨"java/lang/String", "<init>", "([C)V"⟩ : MethodName)) rfl hoJNR (mvT hZJNR (hw _ (List.mem_of_getElem? (i := 4) rfl))) (mvT hZJNR (hw _ (List.mem_of_getElem? (i := 5) rfl))) (mvT hZJNR (hw _ (List.mem_of_getElem? (i := 6) rfl))) (by decide) (StrChars.Road.backV (W := 3) hZJNR hws (kI := 4) (hw _ (List.mem_of_getElem? (i := 2) rfl)) (cs := ([(nar .char ((p1 &&& (255 : Int32)).toUInt32.toUInt16.toUInt32.toInt32)), (nar .char (((XT.ushr p1 (8 : Int32)) &&& (255 : Int32)).toUInt32.toUInt16.toUInt32.toInt32))] : List Int32)) (bs := ([(nar .char ((p1 &&& (255 : Int32)).toUInt32.toUInt16.toUInt32.toInt32)), (nar .char (((XT.ushr p1 (8 : Int32)) &&& (255 : Int32)).toUInt32.toUInt16.toUInt32.toInt32))] : List Int32).map (fun c => c.toInt8.toInt32)) (n := 2) ge_b18 Z18 A18 F18_value F18_coder f18_1 (O2.ext f18_0.2) P5 rfl rfl (by decide) (by decide) hpa rfl (by decide) (by decide)) (g := (mkF m 146 #[.val (.int p1), .val (.int p2), .val (.int p3), .val (.int p4), .val (.ref b1), .val (.ref b4), .val (.ref b7), .val .null, .val (.ref y), .unset, .unset] [(.ref b1), (.ref b18), (.ref b18), (.ref b17), (.ref b17)])) rfl (by rw [hml]; rfl) (Steps.refl _) (a := b18) (argsL := [(.ref b1)]) (rest := [(.ref b18), (.ref b17), (.ref b17)]) (lenOf pd_2 rfl) rfl (by show 2 * 0 + _ ≤ _; exact Nat.le_of_eq rfl) (hb hby at_146) (fun _ _ => ⟨rfl, e18, (by first | decide | exact Nat.le_of_ble_eq_true rfl), (by first | decide | exact Nat.le_of_ble_eq_true rfl)⟩)
      dsimp only [Pt.U, Pt.locs, Pt.cells, Pt.slots] at X19 l19 y19 z19 st19 hQ19
      have X19 := own_sn X19 (k' := 20) (n' := 46) y19 z19
      obtain ⟨hv19, N19, K19, GE19, -, -⟩ := hQ19
      rw [hv19] at st19
      have NF19 := own_fr l19 NJNR N19
      have sf19_0 := Safe.keep K19 (sfS sf_b18 sf0) CR18.1 sf18_0
      have sf19_1 := Safe.keep K19 (sfS sf_b18 sf0) CR18.1 sf18_1
      have sf19_2 := Safe.keep K19 (sfS sf_b18 sf0) CR18.1 sf18_2
      have sf19_3 := Safe.keep K19 (sfS sf_b18 sf0) CR18.1 sf18_3
      have sf19_4 := Safe.keep K19 (sfS sf_b18 sf0) CR18.1 sf_b18
      have CR19 := CR18.trans (CHr.keep K19 (sfS sf_b18 sf0) CR18.1)
      have hk19 : kJNR ≤ T19.heap.size := Nat.le_trans hk18 K19.1
      have f19_1 := f18_0.keep K19 (allS ge_b18 (all0))
      have f19_2 := f18_1.keep K19 (ninS ne_b1_b18 nin0)
      have f19_3 := f18_2.keep K19 (ninS ne_b4_b18 nin0)
      have f19_4 := f18_3.keep K19 (ninS ne_b7_b18 nin0)
      have f19_5 := f18_4.keep K19
      have f19_6 := f18_5.keep K19 (ninS ne_b17_b18 nin0)
      have f19_7 := f18_6.keep K19 (ninS ne_b17_b18 nin0)
      have f19_8 := f18_7.keep K19 (ninS ne_b17_b18 nin0)
      have f19_9 := f18_8.keep K19 (ninS ne_b17_b18 nin0)
      have f19_10 := f18_9.keep K19 (ninS ne_b17_b18 nin0)
      have f19_11 := f18_10.keep K19 (ninS ne_b17_b18 nin0)
      have f19_12 := A18.keep K19
      have Z19 : n0 ≤ T19.heap.size := Nat.le_trans Z18 K19.1
      have KK19 := Keep.trans K18 K19 (by intro z hz; simp at hz; rcases hz with rfl; all_goals first | (left; simp; done) | (right; assumption))
      refine own_go (fun _ k => st19.trans k) ?_
      show own_Gl p.tables e below F (T19.setTop (mkF m 149 #[.val (.int p1), .val (.int p2), .val (.int p3), .val (.int p4), .val (.ref b1), .val (.ref b4), .val (.ref b7), .val .null, .val (.ref y), .unset, .unset] [(.ref b18), (.ref b17), (.ref b17)]))
      refine own_go (fun _ k => XS.iloadN X19.here hx rfl (hb hby at_149) rfl k) ?_
      show own_Gl p.tables e below F (T19.setTop (mkF m 150 #[.val (.int p1), .val (.int p2), .val (.int p3), .val (.int p4), .val (.ref b1), .val (.ref b4), .val (.ref b7), .val .null, .val (.ref y), .unset, .unset] [(.int p4), (.ref b18), (.ref b17), (.ref b17)]))
      obtain ⟨_, _, ⟨T20, L20, k20, n20⟩, -, X20, ⟨Lc20, hQ20, l20, y20, z20⟩, st20⟩ := X19.specialBack hx (y := (⟨"com/example/palimpsest/palimpsest/history/KeyHistory", "<init>", "(Ljava/lang/String;I)V"⟩ : MethodName)) rfl hoJNR (mvT hZJNR (hw _ (List.mem_of_getElem? (i := 33) rfl))) (mvT hZJNR (hw _ (List.mem_of_getElem? (i := 34) rfl))) (mvT hZJNR (hw _ (List.mem_of_getElem? (i := 35) rfl))) (by decide) (backOf (W := 1) (rm7 l Z a0 hw [] b17 b18 p4  T19.heap n0 Z19 f19_5 f19_6 f19_7 f19_8 f19_9 f19_10 f19_11 ge_b17) hZJNR (hw _ (List.mem_of_getElem? (i := 35) rfl)) (hw _ (List.mem_of_getElem? (i := 32) rfl)) (by decide) (by decide)) (g := (mkF m 150 #[.val (.int p1), .val (.int p2), .val (.int p3), .val (.int p4), .val (.ref b1), .val (.ref b4), .val (.ref b7), .val .null, .val (.ref y), .unset, .unset] [(.int p4), (.ref b18), (.ref b17), (.ref b17)])) rfl (by rw [hml]; rfl) (Steps.refl _) (a := b17) (argsL := [(.ref b18), (.int p4)]) (rest := [(.ref b17)]) (lenOf pd_3 rfl) rfl (by show 2 * 0 + _ ≤ _; exact Nat.le_of_eq rfl) (hb hby at_150) (fun _ _ => ⟨rfl, rfl, (by first | decide | exact Nat.le_of_ble_eq_true rfl), (by first | decide | exact Nat.le_of_ble_eq_true rfl)⟩)
      dsimp only [Pt.U, Pt.locs, Pt.cells, Pt.slots] at X20 l20 y20 z20 st20 hQ20
      have X20 := own_sn X20 (k' := 22) (n' := 62) y20 z20
      obtain ⟨hv20, N20, K20, GE20, GF20⟩ := hQ20
      rw [hv20] at st20
      have NF20 := own_fr l20 NF19 N20
      have sf20_0 := Safe.keep K20 (sfS sf19_3 sf0) CR19.1 sf19_0
      have sf20_1 := Safe.keep K20 (sfS sf19_3 sf0) CR19.1 sf19_1
      have sf20_2 := Safe.keep K20 (sfS sf19_3 sf0) CR19.1 sf19_2
      have sf20_3 := Safe.keep K20 (sfS sf19_3 sf0) CR19.1 sf19_3
      have sf20_4 := Safe.keep K20 (sfS sf19_3 sf0) CR19.1 sf19_4
      have CR20 := CR19.trans (CHr.keep K20 (sfS sf19_3 sf0) CR19.1)
      have hk20 : kJNR ≤ T20.heap.size := Nat.le_trans hk19 K20.1
      have f20_1 := f19_1.keep K20 (allS ge_b17 (all0))
      have f20_2 := f19_2.keep K20 (ninS ne_b1_b17 nin0)
      have f20_3 := f19_3.keep K20 (ninS ne_b4_b17 nin0)
      have f20_4 := f19_4.keep K20 (ninS ne_b7_b17 nin0)
      have f20_5 := f19_5.keep K20
      have f20_12 := f19_12.keep K20
      have Z20 : n0 ≤ T20.heap.size := Nat.le_trans Z19 K20.1
      have KK20 := Keep.trans KK19 K20 (by intro z hz; simp at hz; rcases hz with rfl; all_goals first | (left; simp; done) | (right; assumption))
      refine own_go (fun _ k => st20.trans k) ?_
      show own_Gl p.tables e below F (T20.setTop (mkF m 153 #[.val (.int p1), .val (.int p2), .val (.int p3), .val (.int p4), .val (.ref b1), .val (.ref b4), .val (.ref b7), .val .null, .val (.ref y), .unset, .unset] [(.ref b17)]))
      refine own_go (fun _ k => XS.astore X20.here hx rfl (hb hby at_153) rfl rfl (l' := #[.val (.int p1), .val (.int p2), .val (.int p3), .val (.int p4), .val (.ref b1), .val (.ref b4), .val (.ref b7), .val .null, .val (.ref y), .val (.ref b17), .unset]) rfl k) ?_
      show own_Gl p.tables e below F (T20.setTop (mkF m 155 #[.val (.int p1), .val (.int p2), .val (.int p3), .val (.int p4), .val (.ref b1), .val (.ref b4), .val (.ref b7), .val .null, .val (.ref y), .val (.ref b17), .unset] []))
      refine own_go (fun _ k => XS.aload X20.here hx rfl (hb hby at_155) rfl rfl k) ?_
      show own_Gl p.tables e below F (T20.setTop (mkF m 157 #[.val (.int p1), .val (.int p2), .val (.int p3), .val (.int p4), .val (.ref b1), .val (.ref b4), .val (.ref b7), .val .null, .val (.ref y), .val (.ref b17), .unset] [(.ref b17)]))
      obtain ⟨cq21, kq21, q21a, q21b, q21c⟩ := isOf hZJNR rfl GE20
      obtain ⟨_, _, ⟨T21, L21, k21, n21⟩, -, X21, ⟨Lc21, hQ21, l21, y21, z21⟩, st21⟩ := X20.virtualBack hx (y := (⟨"com/example/palimpsest/palimpsest/history/KeyHistory", "disorder", "()Ljava/lang/String;"⟩ : MethodName)) (z := (⟨"com/example/palimpsest/palimpsest/history/KeyHistory", "disorder", "()Ljava/lang/String;"⟩ : MethodName)) hoJNR (mvT hZJNR (hw _ (List.mem_of_getElem? (i := 64) rfl))) (mvT hZJNR (hw _ (List.mem_of_getElem? (i := 65) rfl))) (notFace_of_selects (args := #[]) (mvT hZJNR (hw _ (List.mem_of_getElem? (i := 67) rfl)))) (mvT hZJNR (hw _ (List.mem_of_getElem? (i := 67) rfl))) (mvT hZJNR (hw _ (List.mem_of_getElem? (i := 66) rfl))) (by decide) (backOf (W := 0) (rm10 l Z a0 hw [] b17 .null T20.heap n0 Z20 rfl GF20) hZJNR (hw _ (List.mem_of_getElem? (i := 68) rfl)) (hw _ (List.mem_of_getElem? (i := 32) rfl)) (by decide) (by decide)) q21a q21c (g := (mkF m 157 #[.val (.int p1), .val (.int p2), .val (.int p3), .val (.int p4), .val (.ref b1), .val (.ref b4), .val (.ref b7), .val .null, .val (.ref y), .val (.ref b17), .unset] [(.ref b17)])) rfl (by rw [hml]; rfl) (Steps.refl _) (argsL := []) (rest := []) (lenOf pd_4 rfl) rfl (by show 2 * 0 + _ ≤ _; exact Nat.le_of_eq rfl) (hb hby at_157) (fun _ _ => ⟨rfl, rfl, (by first | decide | exact Nat.le_of_ble_eq_true rfl), (by first | decide | exact Nat.le_of_ble_eq_true rfl)⟩)
      dsimp only [Pt.U, Pt.locs, Pt.cells, Pt.slots] at X21 l21 y21 z21 st21 hQ21
      have X21 := own_sn X21 (k' := 22) (n' := 62) y21 z21
      obtain ⟨hv21, N21, e21⟩ := hQ21
      rw [hv21] at st21
      have NF21 := own_fr l21 NF20 N21
      refine own_go (fun _ k => st21.trans k) ?_
      show own_Gl p.tables e below F (T21.setTop (mkF m 160 #[.val (.int p1), .val (.int p2), .val (.int p3), .val (.int p4), .val (.ref b1), .val (.ref b4), .val (.ref b7), .val .null, .val (.ref y), .val (.ref b17), .unset] [.null]))
      refine own_go (fun _ k => XS.ifnullYes X21.here hx rfl (pc0 := 160) (pc' := 165) rfl (hb hby at_160) rfl (by decide) (by decide) k) ?_
      show own_Gl p.tables e below F (T21.setTop (mkF m 165 #[.val (.int p1), .val (.int p2), .val (.int p3), .val (.int p4), .val (.ref b1), .val (.ref b4), .val (.ref b7), .val .null, .val (.ref y), .val (.ref b17), .unset] []))
      refine own_go (fun _ k => XS.aload X21.here hx rfl (hb hby at_165) rfl rfl k) ?_
      show own_Gl p.tables e below F (T21.setTop (mkF m 167 #[.val (.int p1), .val (.int p2), .val (.int p3), .val (.int p4), .val (.ref b1), .val (.ref b4), .val (.ref b7), .val .null, .val (.ref y), .val (.ref b17), .unset] [(.ref b17)]))
      refine own_go (fun _ k => XS.aload X21.here hx rfl (hb hby at_167) rfl rfl k) ?_
      show own_Gl p.tables e below F (T21.setTop (mkF m 169 #[.val (.int p1), .val (.int p2), .val (.int p3), .val (.int p4), .val (.ref b1), .val (.ref b4), .val (.ref b7), .val .null, .val (.ref y), .val (.ref b17), .unset] [.null, (.ref b17)]))
      obtain ⟨cq22, kq22, q22a, q22b, q22c⟩ := isOf hZJNR e21 GE20
      obtain ⟨_, _, ⟨T22, L22, k22, n22⟩, -, X22, ⟨Lc22, hQ22, l22, y22, z22⟩, st22⟩ := X21.virtualBack hx (y := (⟨"com/example/palimpsest/palimpsest/history/KeyHistory", "disorder", "(Ljava/lang/String;)V"⟩ : MethodName)) (z := (⟨"com/example/palimpsest/palimpsest/history/KeyHistory", "disorder", "(Ljava/lang/String;)V"⟩ : MethodName)) hoJNR (mvT hZJNR (hw _ (List.mem_of_getElem? (i := 71) rfl))) (mvT hZJNR (hw _ (List.mem_of_getElem? (i := 72) rfl))) (notFace_of_selects (args := #[]) (mvT hZJNR (hw _ (List.mem_of_getElem? (i := 74) rfl)))) (mvT hZJNR (hw _ (List.mem_of_getElem? (i := 74) rfl))) (mvT hZJNR (hw _ (List.mem_of_getElem? (i := 73) rfl))) (by decide) (backOf (W := 0) (rm11_NN l Z a0 hw [] b17  T20.heap n0 Z20 GE20 GF20 ge_b17) hZJNR (hw _ (List.mem_of_getElem? (i := 75) rfl)) (hw _ (List.mem_of_getElem? (i := 32) rfl)) (by decide) (by decide)) q22a q22c (g := (mkF m 169 #[.val (.int p1), .val (.int p2), .val (.int p3), .val (.int p4), .val (.ref b1), .val (.ref b4), .val (.ref b7), .val .null, .val (.ref y), .val (.ref b17), .unset] [.null, (.ref b17)])) rfl (by rw [hml]; rfl) (Steps.refl _) (argsL := [.null]) (rest := []) (lenOf pd_5 rfl) rfl (by show 2 * 0 + _ ≤ _; exact Nat.le_of_eq rfl) (hb hby at_169) (fun _ _ => ⟨rfl, e21, (by first | decide | exact Nat.le_of_ble_eq_true rfl), (by first | decide | exact Nat.le_of_ble_eq_true rfl)⟩)
      dsimp only [Pt.U, Pt.locs, Pt.cells, Pt.slots] at X22 l22 y22 z22 st22 hQ22
      have X22 := own_sn X22 (k' := 22) (n' := 62) y22 z22
      obtain ⟨hv22, N22, K22, GE22, GF22⟩ := hQ22
      rw [hv22] at st22
      have NF22 := own_fr l22 NF21 N22
      have sf22_0 := Safe.keep K22 (sfS sf20_3 sf0) CR20.1 sf20_0
      have sf22_1 := Safe.keep K22 (sfS sf20_3 sf0) CR20.1 sf20_1
      have sf22_2 := Safe.keep K22 (sfS sf20_3 sf0) CR20.1 sf20_2
      have sf22_3 := Safe.keep K22 (sfS sf20_3 sf0) CR20.1 sf20_3
      have sf22_4 := Safe.keep K22 (sfS sf20_3 sf0) CR20.1 sf20_4
      have CR22 := CR20.trans (CHr.keep K22 (sfS sf20_3 sf0) CR20.1)
      have hk22 : kJNR ≤ T22.heap.size := Nat.le_trans hk20 K22.1
      have f22_1 := f20_1.keep K22 (allS ge_b17 (all0))
      have f22_2 := f20_2.keep K22 (ninS ne_b1_b17 nin0)
      have f22_3 := f20_3.keep K22 (ninS ne_b4_b17 nin0)
      have f22_4 := f20_4.keep K22 (ninS ne_b7_b17 nin0)
      have f22_5 := GE20.keep K22
      have f22_6 := f20_12.keep K22
      have Z22 : n0 ≤ T22.heap.size := Nat.le_trans Z20 K22.1
      have KK22 := Keep.trans KK20 K22 (by intro z hz; simp at hz; rcases hz with rfl; all_goals first | (left; simp; done) | (right; assumption))
      refine own_go (fun _ k => st22.trans k) ?_
      show own_Gl p.tables e below F (T22.setTop (mkF m 172 #[.val (.int p1), .val (.int p2), .val (.int p3), .val (.int p4), .val (.ref b1), .val (.ref b4), .val (.ref b7), .val .null, .val (.ref y), .val (.ref b17), .unset] []))
      refine own_go (fun _ k => XS.aload X22.here hx rfl (hb hby at_172) rfl rfl k) ?_
      show own_Gl p.tables e below F (T22.setTop (mkF m 174 #[.val (.int p1), .val (.int p2), .val (.int p3), .val (.int p4), .val (.ref b1), .val (.ref b4), .val (.ref b7), .val .null, .val (.ref y), .val (.ref b17), .unset] [(.ref b17)]))
      obtain ⟨cq23, kq23, q23a, q23b, q23c⟩ := isOf hZJNR rfl GE22
      obtain ⟨_, _, ⟨T23, L23, k23, n23⟩, -, X23, ⟨Lc23, hQ23, l23, y23, z23⟩, st23⟩ := X22.virtualBack hx (y := (⟨"com/example/palimpsest/palimpsest/history/KeyHistory", "disorder", "()Ljava/lang/String;"⟩ : MethodName)) (z := (⟨"com/example/palimpsest/palimpsest/history/KeyHistory", "disorder", "()Ljava/lang/String;"⟩ : MethodName)) hoJNR (mvT hZJNR (hw _ (List.mem_of_getElem? (i := 64) rfl))) (mvT hZJNR (hw _ (List.mem_of_getElem? (i := 65) rfl))) (notFace_of_selects (args := #[]) (mvT hZJNR (hw _ (List.mem_of_getElem? (i := 67) rfl)))) (mvT hZJNR (hw _ (List.mem_of_getElem? (i := 67) rfl))) (mvT hZJNR (hw _ (List.mem_of_getElem? (i := 66) rfl))) (by decide) (backOf (W := 0) (rm10 l Z a0 hw [] b17 .null T22.heap n0 Z22 rfl GF22) hZJNR (hw _ (List.mem_of_getElem? (i := 68) rfl)) (hw _ (List.mem_of_getElem? (i := 32) rfl)) (by decide) (by decide)) q23a q23c (g := (mkF m 174 #[.val (.int p1), .val (.int p2), .val (.int p3), .val (.int p4), .val (.ref b1), .val (.ref b4), .val (.ref b7), .val .null, .val (.ref y), .val (.ref b17), .unset] [(.ref b17)])) rfl (by rw [hml]; rfl) (Steps.refl _) (argsL := []) (rest := []) (lenOf pd_4 rfl) rfl (by show 2 * 0 + _ ≤ _; exact Nat.le_of_eq rfl) (hb hby at_174) (fun _ _ => ⟨rfl, rfl, (by first | decide | exact Nat.le_of_ble_eq_true rfl), (by first | decide | exact Nat.le_of_ble_eq_true rfl)⟩)
      dsimp only [Pt.U, Pt.locs, Pt.cells, Pt.slots] at X23 l23 y23 z23 st23 hQ23
      have X23 := own_sn X23 (k' := 22) (n' := 62) y23 z23
      obtain ⟨hv23, N23, e23⟩ := hQ23
      rw [hv23] at st23
      have NF23 := own_fr l23 NF22 N23
      refine own_go (fun _ k => st23.trans k) ?_
      show own_Gl p.tables e below F (T23.setTop (mkF m 177 #[.val (.int p1), .val (.int p2), .val (.int p3), .val (.int p4), .val (.ref b1), .val (.ref b4), .val (.ref b7), .val .null, .val (.ref y), .val (.ref b17), .unset] [.null]))
      refine own_go (fun _ k => XS.aload X23.here hx rfl (hb hby at_177) rfl rfl k) ?_
      show own_Gl p.tables e below F (T23.setTop (mkF m 179 #[.val (.int p1), .val (.int p2), .val (.int p3), .val (.int p4), .val (.ref b1), .val (.ref b4), .val (.ref b7), .val .null, .val (.ref y), .val (.ref b17), .unset] [.null, .null]))
      refine own_go (fun _ k => Jvm.RoadKit.acmp (g := (mkF m 179 #[.val (.int p1), .val (.int p2), .val (.int p3), .val (.int p4), .val (.ref b1), .val (.ref b4), .val (.ref b7), .val .null, .val (.ref y), .val (.ref b17), .unset] [.null, .null])) X23 hx rfl rfl rfl (pc0 := 179) (pc' := 184) (same := true) rfl (hb hby at_179) rfl (decide_eq_true rfl) (by decide) (by decide) k) ?_
      show own_Gl p.tables e below F (T23.setTop (mkF m 184 #[.val (.int p1), .val (.int p2), .val (.int p3), .val (.int p4), .val (.ref b1), .val (.ref b4), .val (.ref b7), .val .null, .val (.ref y), .val (.ref b17), .unset] []))
      refine own_go (fun _ k => XS.aload X23.here hx rfl (hb hby at_184) rfl rfl k) ?_
      show own_Gl p.tables e below F (T23.setTop (mkF m 186 #[.val (.int p1), .val (.int p2), .val (.int p3), .val (.int p4), .val (.ref b1), .val (.ref b4), .val (.ref b7), .val .null, .val (.ref y), .val (.ref b17), .unset] [(.ref b17)]))
      refine own_go (fun _ k => XS.aload X23.here hx rfl (hb hby at_186) rfl rfl k) ?_
      show own_Gl p.tables e below F (T23.setTop (mkF m 188 #[.val (.int p1), .val (.int p2), .val (.int p3), .val (.int p4), .val (.ref b1), .val (.ref b4), .val (.ref b7), .val .null, .val (.ref y), .val (.ref b17), .unset] [(.ref y), (.ref b17)]))
      obtain ⟨cq24, kq24, q24a, q24b, q24c⟩ := isOf hZJNR e23 GE22
      obtain ⟨_, _, ⟨T24, L24, k24, n24⟩, -, X24, ⟨Lc24, hQ24, l24, y24, z24⟩, st24⟩ := X23.virtualBack hx (y := (⟨"com/example/palimpsest/palimpsest/history/KeyHistory", "disorder", "(Ljava/lang/String;)V"⟩ : MethodName)) (z := (⟨"com/example/palimpsest/palimpsest/history/KeyHistory", "disorder", "(Ljava/lang/String;)V"⟩ : MethodName)) hoJNR (mvT hZJNR (hw _ (List.mem_of_getElem? (i := 71) rfl))) (mvT hZJNR (hw _ (List.mem_of_getElem? (i := 72) rfl))) (notFace_of_selects (args := #[]) (mvT hZJNR (hw _ (List.mem_of_getElem? (i := 74) rfl)))) (mvT hZJNR (hw _ (List.mem_of_getElem? (i := 74) rfl))) (mvT hZJNR (hw _ (List.mem_of_getElem? (i := 73) rfl))) (by decide) (backOf (W := 0) (rm11_NR l Z a0 hw [] b17 y  T22.heap n0 Z22 GE22 GF22 ge_b17) hZJNR (hw _ (List.mem_of_getElem? (i := 75) rfl)) (hw _ (List.mem_of_getElem? (i := 32) rfl)) (by decide) (by decide)) q24a q24c (g := (mkF m 188 #[.val (.int p1), .val (.int p2), .val (.int p3), .val (.int p4), .val (.ref b1), .val (.ref b4), .val (.ref b7), .val .null, .val (.ref y), .val (.ref b17), .unset] [(.ref y), (.ref b17)])) rfl (by rw [hml]; rfl) (Steps.refl _) (argsL := [(.ref y)]) (rest := []) (lenOf pd_5 rfl) rfl (by show 2 * 0 + _ ≤ _; exact Nat.le_of_eq rfl) (hb hby at_188) (fun _ _ => ⟨rfl, e23, (by first | decide | exact Nat.le_of_ble_eq_true rfl), (by first | decide | exact Nat.le_of_ble_eq_true rfl)⟩)
      dsimp only [Pt.U, Pt.locs, Pt.cells, Pt.slots] at X24 l24 y24 z24 st24 hQ24
      have X24 := own_sn X24 (k' := 22) (n' := 62) y24 z24
      obtain ⟨hv24, N24, K24, GE24, GF24⟩ := hQ24
      rw [hv24] at st24
      have NF24 := own_fr l24 NF23 N24
      have sf24_0 := Safe.keep K24 (sfS sf22_3 sf0) CR22.1 sf22_0
      have sf24_1 := Safe.keep K24 (sfS sf22_3 sf0) CR22.1 sf22_1
      have sf24_2 := Safe.keep K24 (sfS sf22_3 sf0) CR22.1 sf22_2
      have sf24_3 := Safe.keep K24 (sfS sf22_3 sf0) CR22.1 sf22_3
      have sf24_4 := Safe.keep K24 (sfS sf22_3 sf0) CR22.1 sf22_4
      have CR24 := CR22.trans (CHr.keep K24 (sfS sf22_3 sf0) CR22.1)
      have hk24 : kJNR ≤ T24.heap.size := Nat.le_trans hk22 K24.1
      have f24_1 := f22_1.keep K24 (allS ge_b17 (all0))
      have f24_2 := f22_2.keep K24 (ninS ne_b1_b17 nin0)
      have f24_3 := f22_3.keep K24 (ninS ne_b4_b17 nin0)
      have f24_4 := f22_4.keep K24 (ninS ne_b7_b17 nin0)
      have f24_5 := GE22.keep K24
      have f24_6 := f22_6.keep K24
      have Z24 : n0 ≤ T24.heap.size := Nat.le_trans Z22 K24.1
      have KK24 := Keep.trans KK22 K24 (by intro z hz; simp at hz; rcases hz with rfl; all_goals first | (left; simp; done) | (right; assumption))
      refine own_go (fun _ k => st24.trans k) ?_
      show own_Gl p.tables e below F (T24.setTop (mkF m 191 #[.val (.int p1), .val (.int p2), .val (.int p3), .val (.int p4), .val (.ref b1), .val (.ref b4), .val (.ref b7), .val .null, .val (.ref y), .val (.ref b17), .unset] []))
      refine own_go (fun _ k => XS.aload X24.here hx rfl (hb hby at_191) rfl rfl k) ?_
      show own_Gl p.tables e below F (T24.setTop (mkF m 193 #[.val (.int p1), .val (.int p2), .val (.int p3), .val (.int p4), .val (.ref b1), .val (.ref b4), .val (.ref b7), .val .null, .val (.ref y), .val (.ref b17), .unset] [.null]))
      refine own_go (fun _ k => XS.ifnullYes X24.here hx rfl (pc0 := 193) (pc' := 201) rfl (hb hby at_193) rfl (by decide) (by decide) k) ?_
      show own_Gl p.tables e below F (T24.setTop (mkF m 201 #[.val (.int p1), .val (.int p2), .val (.int p3), .val (.int p4), .val (.ref b1), .val (.ref b4), .val (.ref b7), .val .null, .val (.ref y), .val (.ref b17), .unset] []))
      refine own_go (fun _ k => XS.aload X24.here hx rfl (hb hby at_201) rfl rfl k) ?_
      show own_Gl p.tables e below F (T24.setTop (mkF m 203 #[.val (.int p1), .val (.int p2), .val (.int p3), .val (.int p4), .val (.ref b1), .val (.ref b4), .val (.ref b7), .val .null, .val (.ref y), .val (.ref b17), .unset] [(.ref y)]))
      refine own_go (fun _ k => XS.astore X24.here hx rfl (hb hby at_203) rfl rfl (l' := #[.val (.int p1), .val (.int p2), .val (.int p3), .val (.int p4), .val (.ref b1), .val (.ref b4), .val (.ref b7), .val .null, .val (.ref y), .val (.ref b17), .val (.ref y)]) rfl k) ?_
      show own_Gl p.tables e below F (T24.setTop (mkF m 205 #[.val (.int p1), .val (.int p2), .val (.int p3), .val (.int p4), .val (.ref b1), .val (.ref b4), .val (.ref b7), .val .null, .val (.ref y), .val (.ref b17), .val (.ref y)] []))
      refine own_go (fun _ k => XS.aload X24.here hx rfl (hb hby at_205) rfl rfl k) ?_
      show own_Gl p.tables e below F (T24.setTop (mkF m 207 #[.val (.int p1), .val (.int p2), .val (.int p3), .val (.int p4), .val (.ref b1), .val (.ref b4), .val (.ref b7), .val .null, .val (.ref y), .val (.ref b17), .val (.ref y)] [(.ref b17)]))
      obtain ⟨cq25, kq25, q25a, q25b, q25c⟩ := isOf hZJNR rfl GE24
      obtain ⟨_, _, ⟨T25, L25, k25, n25⟩, -, X25, ⟨Lc25, hQ25, l25, y25, z25⟩, st25⟩ := X24.virtualBack hx (y := (⟨"com/example/palimpsest/palimpsest/history/KeyHistory", "disorder", "()Ljava/lang/String;"⟩ : MethodName)) (z := (⟨"com/example/palimpsest/palimpsest/history/KeyHistory", "disorder", "()Ljava/lang/String;"⟩ : MethodName)) hoJNR (mvT hZJNR (hw _ (List.mem_of_getElem? (i := 64) rfl))) (mvT hZJNR (hw _ (List.mem_of_getElem? (i := 65) rfl))) (notFace_of_selects (args := #[]) (mvT hZJNR (hw _ (List.mem_of_getElem? (i := 67) rfl)))) (mvT hZJNR (hw _ (List.mem_of_getElem? (i := 67) rfl))) (mvT hZJNR (hw _ (List.mem_of_getElem? (i := 66) rfl))) (by decide) (backOf (W := 0) (rm10 l Z a0 hw [] b17 (.ref y) T24.heap n0 Z24 rfl GF24) hZJNR (hw _ (List.mem_of_getElem? (i := 68) rfl)) (hw _ (List.mem_of_getElem? (i := 32) rfl)) (by decide) (by decide)) q25a q25c (g := (mkF m 207 #[.val (.int p1), .val (.int p2), .val (.int p3), .val (.int p4), .val (.ref b1), .val (.ref b4), .val (.ref b7), .val .null, .val (.ref y), .val (.ref b17), .val (.ref y)] [(.ref b17)])) rfl (by rw [hml]; rfl) (Steps.refl _) (argsL := []) (rest := []) (lenOf pd_4 rfl) rfl (by show 2 * 0 + _ ≤ _; exact Nat.le_of_eq rfl) (hb hby at_207) (fun _ _ => ⟨rfl, rfl, (by first | decide | exact Nat.le_of_ble_eq_true rfl), (by first | decide | exact Nat.le_of_ble_eq_true rfl)⟩)
      dsimp only [Pt.U, Pt.locs, Pt.cells, Pt.slots] at X25 l25 y25 z25 st25 hQ25
      have X25 := own_sn X25 (k' := 22) (n' := 62) y25 z25
      obtain ⟨hv25, N25, e25⟩ := hQ25
      rw [hv25] at st25
      have NF25 := own_fr l25 NF24 N25
      refine own_go (fun _ k => st25.trans k) ?_
      show own_Gl p.tables e below F (T25.setTop (mkF m 210 #[.val (.int p1), .val (.int p2), .val (.int p3), .val (.int p4), .val (.ref b1), .val (.ref b4), .val (.ref b7), .val .null, .val (.ref y), .val (.ref b17), .val (.ref y)] [(.ref y)]))
      refine own_go (fun _ k => XS.aload X25.here hx rfl (hb hby at_210) rfl rfl k) ?_
      show own_Gl p.tables e below F (T25.setTop (mkF m 212 #[.val (.int p1), .val (.int p2), .val (.int p3), .val (.int p4), .val (.ref b1), .val (.ref b4), .val (.ref b7), .val .null, .val (.ref y), .val (.ref b17), .val (.ref y)] [(.ref y), (.ref y)]))
      refine own_go (fun _ k => Jvm.RoadKit.acmp (g := (mkF m 212 #[.val (.int p1), .val (.int p2), .val (.int p3), .val (.int p4), .val (.ref b1), .val (.ref b4), .val (.ref b7), .val .null, .val (.ref y), .val (.ref b17), .val (.ref y)] [(.ref y), (.ref y)])) X25 hx rfl rfl rfl (pc0 := 212) (pc' := 215) (same := true) rfl (hb hby at_212) rfl (decide_eq_true rfl) (by decide) (by decide) k) ?_
      show own_Gl p.tables e below F (T25.setTop (mkF m 215 #[.val (.int p1), .val (.int p2), .val (.int p3), .val (.int p4), .val (.ref b1), .val (.ref b4), .val (.ref b7), .val .null, .val (.ref y), .val (.ref b17), .val (.ref y)] []))
      refine own_go (fun _ k => XS.iconst X25.here hx rfl (hb hby at_215) k) ?_
      show own_Gl p.tables e below F (T25.setTop (mkF m 216 #[.val (.int p1), .val (.int p2), .val (.int p3), .val (.int p4), .val (.ref b1), .val (.ref b4), .val (.ref b7), .val .null, .val (.ref y), .val (.ref b17), .val (.ref y)] [(.int (1 : Int32))]))
      refine own_go (fun _ k => XS.goto X25.here hx rfl (pc0 := 216) (pc' := 220) rfl (hb hby at_216) (by decide) (by decide) k) ?_
      show own_Gl p.tables e below F (T25.setTop (mkF m 220 #[.val (.int p1), .val (.int p2), .val (.int p3), .val (.int p4), .val (.ref b1), .val (.ref b4), .val (.ref b7), .val .null, .val (.ref y), .val (.ref b17), .val (.ref y)] [(.int (1 : Int32))]))
      obtain ⟨fs, hr, hrun, hended, hRW⟩ := Jvm.Stand.leaveW X25 hSJNR (by rw [e25]; exact hk24) (v := some (.int (1 : Int32))) (fun h => by rw [Bd.returns] at h; cases h)
      have CE : CHr Z own_EL s.vm s.heap T25.vm T25.heap := by rw [hh, e25]; exact CR24.trans (CHv.at X25 hZJNR hEL CR24.1)
      subst hF
      refine own_fin ?_ ⟨hrun, hended, _, _, rfl, ?_, CE, hRW.1, hRW.2.1, hRW.2.2.1, hRW.2.2.2.mono (by first | decide | exact Nat.le_of_ble_eq_true rfl) (by first | decide | exact Nat.le_of_ble_eq_true rfl)⟩
      · exact own_retN X25 hx (t := .boolean) Bd.returns (by simp) rfl (hb hby at_220) hr
      · show Q_rm0 Z _ _ _ _ _ h0 n0 _ T25.heap _
        rw [e25]
        exact ⟨rfl, NF25⟩
    show own_Gl p.tables e below F (TJN.setTop (mkF m 99 #[.val (.int p1), .val (.int p2), .val (.int p3), .val (.int p4), .val (.ref b1), .val (.ref b4), .val (.ref b7), .val .null, .unset, .unset, .unset] [(.int (p3 &&& (2 : Int32)))]))
    by_cases hb1 : (p3 &&& (2 : Int32)) = 0
    · refine own_go (fun _ k => XS.ifYes XJN.here hx rfl (pc0 := 99) (pc' := 106) rfl (hb hby at_99) rfl (XT.i0_eq_t hb1) (by decide) (by decide) k) ?_
      show own_Gl p.tables e below F (TJN.setTop (mkF m 106 #[.val (.int p1), .val (.int p2), .val (.int p3), .val (.int p4), .val (.ref b1), .val (.ref b4), .val (.ref b7), .val .null, .unset, .unset, .unset] []))
      refine own_go (fun _ k => XS.iloadN XJN.here hx rfl (hb hby at_106) rfl k) ?_
      show own_Gl p.tables e below F (TJN.setTop (mkF m 107 #[.val (.int p1), .val (.int p2), .val (.int p3), .val (.int p4), .val (.ref b1), .val (.ref b4), .val (.ref b7), .val .null, .unset, .unset, .unset] [(.int p3)]))
      refine own_go (fun _ k => XS.bipush XJN.here hx rfl (hb hby at_107) k) ?_
      show own_Gl p.tables e below F (TJN.setTop (mkF m 109 #[.val (.int p1), .val (.int p2), .val (.int p3), .val (.int p4), .val (.ref b1), .val (.ref b4), .val (.ref b7), .val .null, .unset, .unset, .unset] [(.int (8 : Int32)), (.int p3)]))
      refine own_go (fun _ k => XS.iand XJN.here hx rfl (hb hby at_109) rfl k) ?_
      show own_Gl p.tables e below F (TJN.setTop (mkF m 110 #[.val (.int p1), .val (.int p2), .val (.int p3), .val (.int p4), .val (.ref b1), .val (.ref b4), .val (.ref b7), .val .null, .unset, .unset, .unset] [(.int (p3 &&& (8 : Int32)))]))
      by_cases hb2 : (p3 &&& (8 : Int32)) = 0
      · refine own_go (fun _ k => XS.ifYes XJN.here hx rfl (pc0 := 110) (pc' := 125) rfl (hb hby at_110) rfl (XT.i0_eq_t hb2) (by decide) (by decide) k) ?_
        show own_Gl p.tables e below F (TJN.setTop (mkF m 125 #[.val (.int p1), .val (.int p2), .val (.int p3), .val (.int p4), .val (.ref b1), .val (.ref b4), .val (.ref b7), .val .null, .unset, .unset, .unset] []))
        obtain ⟨T26, h26, X26, e26, E26, A26, D26, -, st26⟩ := newO XJN hx hZJN hoJN (hw _ (List.mem_of_getElem? (i := 1) rfl)) (hw _ (List.mem_of_getElem? (i := 2) rfl)) (hw _ (List.mem_of_getElem? (i := 3) rfl)) eJN (g := (mkF m 125 #[.val (.int p1), .val (.int p2), .val (.int p3), .val (.int p4), .val (.ref b1), .val (.ref b4), .val (.ref b7), .val .null, .unset, .unset, .unset] [])) rfl (hb hby at_125) (by first | decide | exact Nat.le_of_ble_eq_true rfl) (by first | decide | exact Nat.le_of_ble_eq_true rfl)
        obtain ⟨b26, g26⟩ : ∃ z, z = hJN.size := ⟨_, rfl⟩
        rw [← g26] at A26 D26 st26
        have ne_b1_b26 : b1 ≠ b26 := Nat.ne_of_lt (Nat.lt_of_lt_of_le fJN_1.lt (Nat.le_of_eq g26.symm))
        have ne_b4_b26 : b4 ≠ b26 := Nat.ne_of_lt (Nat.lt_of_lt_of_le fJN_2.lt (Nat.le_of_eq g26.symm))
        have ne_b7_b26 : b7 ≠ b26 := Nat.ne_of_lt (Nat.lt_of_lt_of_le fJN_3.lt (Nat.le_of_eq g26.symm))
        have ge_b26 : n0 ≤ b26 := Nat.le_trans ZJN (Nat.le_of_eq g26.symm)
        have sz_b26 : h0.size ≤ b26 := Nat.le_trans (KJN).1 (Nat.le_of_eq g26.symm)
        have sf_b26 := Safe.ext E26 CRJN.1 (Safe.new (Z := Z) (EL := own_EL) (vm := vJN) (Nat.le_of_eq g26.symm))
        have f26_0 := fJN_0.ext E26
        have f26_1 := fJN_1.ext E26
        have f26_2 := fJN_2.ext E26
        have f26_3 := fJN_3.ext E26
        have Z26 : n0 ≤ h26.size := Nat.le_trans ZJN E26.1
        have K26 := Keep.ext KJN E26
        have sf26_0 := Safe.ext E26 CRJN.1 sJN_b1
        have sf26_1 := Safe.ext E26 CRJN.1 sJN_b4
        have sf26_2 := Safe.ext E26 CRJN.1 sJN_b7
        have CR26 := CRJN.trans (CHr.ext E26 CRJN.1)
        have hk26 : kJN ≤ h26.size := Nat.le_trans hkJN E26.1
        have F26_coder : Fld Z h26 b26 "java/lang/String" "coder" "B" (.int (0 : Int32)) := D26 (Or.inr (hw _ (List.mem_of_getElem? (i := 27) rfl))) (ty := .byte) (by decide)
        have F26_value : Fld Z h26 b26 "java/lang/String" "value" "[B" .null := D26 (Or.inr (hw _ (List.mem_of_getElem? (i := 29) rfl))) (ty := (.array .byte)) (by decide)
        have X26 : Stand _ _ _ _ _ _ _ _ _ _ _ _ 9 20 := X26
        refine own_go st26 ?_
        show own_Gl p.tables e below F (T26.setTop (mkF m 128 #[.val (.int p1), .val (.int p2), .val (.int p3), .val (.int p4), .val (.ref b1), .val (.ref b4), .val (.ref b7), .val .null, .unset, .unset, .unset] [(.ref b26)]))
        refine own_go (fun _ k => XS.dup X26.here hx rfl (hb hby at_128) rfl rfl k) ?_
        show own_Gl p.tables e below F (T26.setTop (mkF m 129 #[.val (.int p1), .val (.int p2), .val (.int p3), .val (.int p4), .val (.ref b1), .val (.ref b4), .val (.ref b7), .val .null, .unset, .unset, .unset] [(.ref b26), (.ref b26)]))
        refine own_go (fun _ k => XS.aload X26.here hx rfl (hb hby at_129) rfl rfl k) ?_
        show own_Gl p.tables e below F (T26.setTop (mkF m 131 #[.val (.int p1), .val (.int p2), .val (.int p3), .val (.int p4), .val (.ref b1), .val (.ref b4), .val (.ref b7), .val .null, .unset, .unset, .unset] [(.ref b4), (.ref b26), (.ref b26)]))
        obtain ⟨_, _, ⟨T27, L27, k27, n27⟩, -, X27, ⟨Lc27, hQ27, l27, y27, z27⟩, st27⟩ := X26.specialBack hx (y := (⟨"java/lang/String", "<init>", "([C)V"⟩ : MethodName)) rfl hoJN (mvT hZJN (hw _ (List.mem_of_getElem? (i := 4) rfl))) (mvT hZJN (hw _ (List.mem_of_getElem? (i := 5) rfl))) (mvT hZJN (hw _ (List.mem_of_getElem? (i := 6) rfl))) (by decide) (StrChars.Road.backV (W := 1) hZJN hws (kI := 4) (hw _ (List.mem_of_getElem? (i := 2) rfl)) (cs := ([(nar .char ((p2 &&& (255 : Int32)).toUInt32.toUInt16.toUInt32.toInt32)), (nar .char (((XT.ushr p2 (8 : Int32)) &&& (255 : Int32)).toUInt32.toUInt16.toUInt32.toInt32))] : List Int32)) (bs := ([(nar .char ((p2 &&& (255 : Int32)).toUInt32.toUInt16.toUInt32.toInt32)), (nar .char (((XT.ushr p2 (8 : Int32)) &&& (255 : Int32)).toUInt32.toUInt16.toUInt32.toInt32))] : List Int32).map (fun c => c.toInt8.toInt32)) (n := 2) ge_b26 Z26 A26 F26_value F26_coder f26_2 (O2.ext f26_0.2) P5 rfl rfl (by decide) (by decide) hpb rfl (by decide) (by decide)) (g := (mkF m 131 #[.val (.int p1), .val (.int p2), .val (.int p3), .val (.int p4), .val (.ref b1), .val (.ref b4), .val (.ref b7), .val .null, .unset, .unset, .unset] [(.ref b4), (.ref b26), (.ref b26)])) rfl (by rw [hml]; rfl) (Steps.refl _) (a := b26) (argsL := [(.ref b4)]) (rest := [(.ref b26)]) (lenOf pd_2 rfl) rfl (by show 2 * 0 + _ ≤ _; exact Nat.le_of_eq rfl) (hb hby at_131) (fun _ _ => ⟨rfl, e26, (by first | decide | exact Nat.le_of_ble_eq_true rfl), (by first | decide | exact Nat.le_of_ble_eq_true rfl)⟩)
        dsimp only [Pt.U, Pt.locs, Pt.cells, Pt.slots] at X27 l27 y27 z27 st27 hQ27
        have X27 := own_sn X27 (k' := 10) (n' := 22) y27 z27
        obtain ⟨hv27, N27, K27, GE27, -, -⟩ := hQ27
        rw [hv27] at st27
        have NF27 := own_fr l27 NJN N27
        have sf27_0 := Safe.keep K27 (sfS sf_b26 sf0) CR26.1 sf26_0
        have sf27_1 := Safe.keep K27 (sfS sf_b26 sf0) CR26.1 sf26_1
        have sf27_2 := Safe.keep K27 (sfS sf_b26 sf0) CR26.1 sf26_2
        have sf27_3 := Safe.keep K27 (sfS sf_b26 sf0) CR26.1 sf_b26
        have CR27 := CR26.trans (CHr.keep K27 (sfS sf_b26 sf0) CR26.1)
        have hk27 : kJN ≤ T27.heap.size := Nat.le_trans hk26 K27.1
        have f27_1 := f26_0.keep K27 (allS ge_b26 (all0))
        have f27_2 := f26_1.keep K27 (ninS ne_b1_b26 nin0)
        have f27_3 := f26_2.keep K27 (ninS ne_b4_b26 nin0)
        have f27_4 := f26_3.keep K27 (ninS ne_b7_b26 nin0)
        have f27_5 := A26.keep K27
        have Z27 : n0 ≤ T27.heap.size := Nat.le_trans Z26 K27.1
        have KK27 := Keep.trans K26 K27 (by intro z hz; simp at hz; rcases hz with rfl; all_goals first | (left; simp; done) | (right; assumption))
        refine own_go (fun _ k => st27.trans k) ?_
        show own_Gl p.tables e below F (T27.setTop (mkF m 134 #[.val (.int p1), .val (.int p2), .val (.int p3), .val (.int p4), .val (.ref b1), .val (.ref b4), .val (.ref b7), .val .null, .unset, .unset, .unset] [(.ref b26)]))
        exact JNR _ _ _ _ _ b26 (X27.mono (by decide) (by decide)) rfl NF27 Z27 KK27 hZJN hoJN hSJN hk27 CR27 sf27_0 sf27_1 sf27_2 f27_1 f27_2 f27_3 f27_4
      · refine own_go (fun _ k => XS.ifNo XJN.here hx rfl (hb hby at_110) rfl (XT.i0_eq_f hb2) k) ?_
        show own_Gl p.tables e below F (TJN.setTop (mkF m 113 #[.val (.int p1), .val (.int p2), .val (.int p3), .val (.int p4), .val (.ref b1), .val (.ref b4), .val (.ref b7), .val .null, .unset, .unset, .unset] []))
        obtain ⟨T28, h28, X28, e28, E28, A28, D28, -, st28⟩ := newO XJN hx hZJN hoJN (hw _ (List.mem_of_getElem? (i := 1) rfl)) (hw _ (List.mem_of_getElem? (i := 2) rfl)) (hw _ (List.mem_of_getElem? (i := 3) rfl)) eJN (g := (mkF m 113 #[.val (.int p1), .val (.int p2), .val (.int p3), .val (.int p4), .val (.ref b1), .val (.ref b4), .val (.ref b7), .val .null, .unset, .unset, .unset] [])) rfl (hb hby at_113) (by first | decide | exact Nat.le_of_ble_eq_true rfl) (by first | decide | exact Nat.le_of_ble_eq_true rfl)
        obtain ⟨b28, g28⟩ : ∃ z, z = hJN.size := ⟨_, rfl⟩
        rw [← g28] at A28 D28 st28
        have ne_b1_b28 : b1 ≠ b28 := Nat.ne_of_lt (Nat.lt_of_lt_of_le fJN_1.lt (Nat.le_of_eq g28.symm))
        have ne_b4_b28 : b4 ≠ b28 := Nat.ne_of_lt (Nat.lt_of_lt_of_le fJN_2.lt (Nat.le_of_eq g28.symm))
        have ne_b7_b28 : b7 ≠ b28 := Nat.ne_of_lt (Nat.lt_of_lt_of_le fJN_3.lt (Nat.le_of_eq g28.symm))
        have ge_b28 : n0 ≤ b28 := Nat.le_trans ZJN (Nat.le_of_eq g28.symm)
        have sz_b28 : h0.size ≤ b28 := Nat.le_trans (KJN).1 (Nat.le_of_eq g28.symm)
        have sf_b28 := Safe.ext E28 CRJN.1 (Safe.new (Z := Z) (EL := own_EL) (vm := vJN) (Nat.le_of_eq g28.symm))
        have f28_0 := fJN_0.ext E28
        have f28_1 := fJN_1.ext E28
        have f28_2 := fJN_2.ext E28
        have f28_3 := fJN_3.ext E28
        have Z28 : n0 ≤ h28.size := Nat.le_trans ZJN E28.1
        have K28 := Keep.ext KJN E28
        have sf28_0 := Safe.ext E28 CRJN.1 sJN_b1
        have sf28_1 := Safe.ext E28 CRJN.1 sJN_b4
        have sf28_2 := Safe.ext E28 CRJN.1 sJN_b7
        have CR28 := CRJN.trans (CHr.ext E28 CRJN.1)
        have hk28 : kJN ≤ h28.size := Nat.le_trans hkJN E28.1
        have F28_coder : Fld Z h28 b28 "java/lang/String" "coder" "B" (.int (0 : Int32)) := D28 (Or.inr (hw _ (List.mem_of_getElem? (i := 27) rfl))) (ty := .byte) (by decide)
        have F28_value : Fld Z h28 b28 "java/lang/String" "value" "[B" .null := D28 (Or.inr (hw _ (List.mem_of_getElem? (i := 29) rfl))) (ty := (.array .byte)) (by decide)
        have X28 : Stand _ _ _ _ _ _ _ _ _ _ _ _ 9 20 := X28
        refine own_go st28 ?_
        show own_Gl p.tables e below F (T28.setTop (mkF m 116 #[.val (.int p1), .val (.int p2), .val (.int p3), .val (.int p4), .val (.ref b1), .val (.ref b4), .val (.ref b7), .val .null, .unset, .unset, .unset] [(.ref b28)]))
        refine own_go (fun _ k => XS.dup X28.here hx rfl (hb hby at_116) rfl rfl k) ?_
        show own_Gl p.tables e below F (T28.setTop (mkF m 117 #[.val (.int p1), .val (.int p2), .val (.int p3), .val (.int p4), .val (.ref b1), .val (.ref b4), .val (.ref b7), .val .null, .unset, .unset, .unset] [(.ref b28), (.ref b28)]))
        refine own_go (fun _ k => XS.aload X28.here hx rfl (hb hby at_117) rfl rfl k) ?_
        show own_Gl p.tables e below F (T28.setTop (mkF m 119 #[.val (.int p1), .val (.int p2), .val (.int p3), .val (.int p4), .val (.ref b1), .val (.ref b4), .val (.ref b7), .val .null, .unset, .unset, .unset] [(.ref b7), (.ref b28), (.ref b28)]))
        obtain ⟨_, _, ⟨T29, L29, k29, n29⟩, -, X29, hs29, hg29, ⟨Lc29, hQ29, l29, y29, z29, hC29⟩, st29⟩ := X28.specialBackS hx (y := (⟨"java/lang/String", "<init>", "([C)V"⟩ : MethodName)) rfl hoJN (mvT hZJN (hw _ (List.mem_of_getElem? (i := 4) rfl))) (mvT hZJN (hw _ (List.mem_of_getElem? (i := 5) rfl))) (mvT hZJN (hw _ (List.mem_of_getElem? (i := 6) rfl))) (by decide) (backOfSH (W := 1) (rm1e l Z a0 hw [] b28 b7 k7 h28 n0 Z28 A28 F28_value F28_coder f28_3 ge_b28) hZJN (hw _ (List.mem_of_getElem? (i := 6) rfl)) (hw _ (List.mem_of_getElem? (i := 3) rfl)) (by decide) (by decide) hEL CR28.1) (g := (mkF m 119 #[.val (.int p1), .val (.int p2), .val (.int p3), .val (.int p4), .val (.ref b1), .val (.ref b4), .val (.ref b7), .val .null, .unset, .unset, .unset] [(.ref b7), (.ref b28), (.ref b28)])) rfl (by rw [hml]; rfl) (Steps.refl _) (a := b28) (argsL := [(.ref b7)]) (rest := [(.ref b28)]) (lenOf pd_2 rfl) rfl (by show 2 * 0 + _ ≤ _; exact Nat.le_of_eq rfl) (hb hby at_119) (fun _ _ => ⟨rfl, e28, (by first | decide | exact Nat.le_of_ble_eq_true rfl), (by first | decide | exact Nat.le_of_ble_eq_true rfl)⟩)
        dsimp only [Pt.U, Pt.locs, Pt.cells, Pt.slots] at X29 l29 y29 z29 st29 hQ29 hs29 hg29 hC29
        have X29 := own_sn X29 (k' := 13) (n' := 28) y29 z29
        obtain ⟨hv29, N29, K29, GE29, -, -⟩ := hQ29
        rw [hv29] at st29
        have NF29 := own_fr l29 NJN N29
        obtain ⟨XR29, hS29, hZ29, hown29⟩ := rebS hSJN (by rw [e28]; exact hk28) X29 hs29 hg29 hZJN hoJN
        have CR29 := CR28.trans hC29
        have sf29_0 := hC29.safe f28_1.lt sf28_0
        have sf29_1 := hC29.safe f28_2.lt sf28_1
        have sf29_2 := hC29.safe f28_3.lt sf28_2
        have sf29_3 := hC29.safe A28.lt sf_b28
        have f29_1 := f28_0.keep K29 (allS ge_b28 (all0))
        have f29_2 := f28_1.keep K29 (ninS ne_b1_b28 nin0)
        have f29_3 := f28_2.keep K29 (ninS ne_b4_b28 nin0)
        have f29_4 := f28_3.keep K29 (ninS ne_b7_b28 nin0)
        have f29_5 := A28.keep K29
        have Z29 : n0 ≤ T29.heap.size := Nat.le_trans Z28 K29.1
        have KK29 := Keep.trans K28 K29 (by intro z hz; simp at hz; rcases hz with rfl; all_goals first | (left; simp; done) | (right; assumption))
        have hk29 : T29.heap.size ≤ T29.heap.size := Nat.le_refl _
        refine own_go (fun _ k => st29.trans k) ?_
        show own_Gl p.tables e below F (T29.setTop (mkF m 122 #[.val (.int p1), .val (.int p2), .val (.int p3), .val (.int p4), .val (.ref b1), .val (.ref b4), .val (.ref b7), .val .null, .unset, .unset, .unset] [(.ref b28)]))
        refine own_go (fun _ k => XS.goto XR29.here hx rfl (pc0 := 122) (pc' := 134) rfl (hb hby at_122) (by decide) (by decide) k) ?_
        show own_Gl p.tables e below F (T29.setTop (mkF m 134 #[.val (.int p1), .val (.int p2), .val (.int p3), .val (.int p4), .val (.ref b1), .val (.ref b4), .val (.ref b7), .val .null, .unset, .unset, .unset] [(.ref b28)]))
        exact JNR _ _ _ _ _ b28 (XR29.mono (by decide) (by decide)) rfl NF29 Z29 KK29 hZ29 hown29 hS29 hk29 CR29 sf29_0 sf29_1 sf29_2 f29_1 f29_2 f29_3 f29_4
    · refine own_go (fun _ k => XS.ifNo XJN.here hx rfl (hb hby at_99) rfl (XT.i0_eq_f hb1) k) ?_
      show own_Gl p.tables e below F (TJN.setTop (mkF m 102 #[.val (.int p1), .val (.int p2), .val (.int p3), .val (.int p4), .val (.ref b1), .val (.ref b4), .val (.ref b7), .val .null, .unset, .unset, .unset] []))
      refine own_go (fun _ k => XS.aconstNull XJN.here hx rfl (hb hby at_102) k) ?_
      show own_Gl p.tables e below F (TJN.setTop (mkF m 103 #[.val (.int p1), .val (.int p2), .val (.int p3), .val (.int p4), .val (.ref b1), .val (.ref b4), .val (.ref b7), .val .null, .unset, .unset, .unset] [.null]))
      refine own_go (fun _ k => XS.goto XJN.here hx rfl (pc0 := 103) (pc' := 134) rfl (hb hby at_103) (by decide) (by decide) k) ?_
      show own_Gl p.tables e below F (TJN.setTop (mkF m 134 #[.val (.int p1), .val (.int p2), .val (.int p3), .val (.int p4), .val (.ref b1), .val (.ref b4), .val (.ref b7), .val .null, .unset, .unset, .unset] [.null]))
      exact JNN _ _ _ _ _ (XJN.mono (by decide) (by decide)) eJN NJN ZJN KJN hZJN hoJN hSJN hkJN CRJN sJN_b1 sJN_b4 sJN_b7 fJN_0 fJN_1 fJN_2 fJN_3
  show own_Gl p.tables e below F (T7.setTop (mkF m 60 #[.val (.int p1), .val (.int p2), .val (.int p3), .val (.int p4), .val (.ref b1), .val (.ref b4), .val (.ref b7), .unset, .unset, .unset, .unset] [(.int (p3 &&& (1 : Int32)))]))
  have JR : ∀ (TJR : State) (lJR : List Loc) (hJR : Heap) (vJR : Vm) (kJR : Nat) (x : Addr) (XJR : Stand p l e room_1 (s.setVm vJR) m #[(.int p1), (.int p2), (.int p3), (.int p4)] below meth c TJR lJR 8 16) (eJR : TJR.heap = hJR) (NJR : Fr n0 lJR) (ZJR : n0 ≤ hJR.size) (KJR : Keep h0 hJR []) (hZJR : Z.Warmed39 (s.setVm vJR).vm) (hoJR : (s.setVm vJR).vm.findClass "com/example/palimpsest/palimpsest/history/KeyHistoryDisorderPinLaw" = some m.cls) (hSJR : s.Since vJR kJR) (hkJR : kJR ≤ hJR.size) (CRJR : CHr Z own_EL s.vm h0 vJR hJR) (sJR_b1 : Safe Z own_EL vJR hJR b1) (sJR_b4 : Safe Z own_EL vJR hJR b4) (sJR_b7 : Safe Z own_EL vJR hJR b7) (fJR_0 : Old Z n0 hJR) (fJR_1 : Arv Z hJR b1 k1 .char (2 : Int32) [(.int (nar .char ((p1 &&& (255 : Int32)).toUInt32.toUInt16.toUInt32.toInt32))), (.int (nar .char (((XT.ushr p1 (8 : Int32)) &&& (255 : Int32)).toUInt32.toUInt16.toUInt32.toInt32)))] (.int (0 : Int32))) (fJR_2 : Arv Z hJR b4 k4 .char (2 : Int32) [(.int (nar .char ((p2 &&& (255 : Int32)).toUInt32.toUInt16.toUInt32.toInt32))), (.int (nar .char (((XT.ushr p2 (8 : Int32)) &&& (255 : Int32)).toUInt32.toUInt16.toUInt32.toInt32)))] (.int (0 : Int32))) (fJR_3 : Arv Z hJR b7 k7 .char (0 : Int32) [] (.int (0 : Int32))) , own_Gl p.tables e below F (TJR.setTop (mkF m 94 #[.val (.int p1), .val (.int p2), .val (.int p3), .val (.int p4), .val (.ref b1), .val (.ref b4), .val (.ref b7), .unset, .unset, .unset, .unset] [(.ref x)])) := by
    intro TJR lJR hJR vJR kJR x XJR eJR NJR ZJR KJR hZJR hoJR hSJR hkJR CRJR sJR_b1 sJR_b4 sJR_b7 fJR_0 fJR_1 fJR_2 fJR_3
    show own_Gl p.tables e below F (TJR.setTop (mkF m 94 #[.val (.int p1), .val (.int p2), .val (.int p3), .val (.int p4), .val (.ref b1), .val (.ref b4), .val (.ref b7), .unset, .unset, .unset, .unset] [(.ref x)]))
    refine own_go (fun _ k => XS.astore XJR.here hx rfl (hb hby at_94) rfl rfl (l' := #[.val (.int p1), .val (.int p2), .val (.int p3), .val (.int p4), .val (.ref b1), .val (.ref b4), .val (.ref b7), .val (.ref x), .unset, .unset, .unset]) rfl k) ?_
    show own_Gl p.tables e below F (TJR.setTop (mkF m 96 #[.val (.int p1), .val (.int p2), .val (.int p3), .val (.int p4), .val (.ref b1), .val (.ref b4), .val (.ref b7), .val (.ref x), .unset, .unset, .unset] []))
    refine own_go (fun _ k => XS.iloadN XJR.here hx rfl (hb hby at_96) rfl k) ?_
    show own_Gl p.tables e below F (TJR.setTop (mkF m 97 #[.val (.int p1), .val (.int p2), .val (.int p3), .val (.int p4), .val (.ref b1), .val (.ref b4), .val (.ref b7), .val (.ref x), .unset, .unset, .unset] [(.int p3)]))
    refine own_go (fun _ k => XS.iconst XJR.here hx rfl (hb hby at_97) k) ?_
    show own_Gl p.tables e below F (TJR.setTop (mkF m 98 #[.val (.int p1), .val (.int p2), .val (.int p3), .val (.int p4), .val (.ref b1), .val (.ref b4), .val (.ref b7), .val (.ref x), .unset, .unset, .unset] [(.int (2 : Int32)), (.int p3)]))
    refine own_go (fun _ k => XS.iand XJR.here hx rfl (hb hby at_98) rfl k) ?_
    show own_Gl p.tables e below F (TJR.setTop (mkF m 99 #[.val (.int p1), .val (.int p2), .val (.int p3), .val (.int p4), .val (.ref b1), .val (.ref b4), .val (.ref b7), .val (.ref x), .unset, .unset, .unset] [(.int (p3 &&& (2 : Int32)))]))
    have JRN : ∀ (TJRN : State) (lJRN : List Loc) (hJRN : Heap) (vJRN : Vm) (kJRN : Nat)  (XJRN : Stand p l e room_1 (s.setVm vJRN) m #[(.int p1), (.int p2), (.int p3), (.int p4)] below meth c TJRN lJRN 17 30) (eJRN : TJRN.heap = hJRN) (NJRN : Fr n0 lJRN) (ZJRN : n0 ≤ hJRN.size) (KJRN : Keep h0 hJRN []) (hZJRN : Z.Warmed39 (s.setVm vJRN).vm) (hoJRN : (s.setVm vJRN).vm.findClass "com/example/palimpsest/palimpsest/history/KeyHistoryDisorderPinLaw" = some m.cls) (hSJRN : s.Since vJRN kJRN) (hkJRN : kJRN ≤ hJRN.size) (CRJRN : CHr Z own_EL s.vm h0 vJRN hJRN) (sJRN_b1 : Safe Z own_EL vJRN hJRN b1) (sJRN_b4 : Safe Z own_EL vJRN hJRN b4) (sJRN_b7 : Safe Z own_EL vJRN hJRN b7) (fJRN_0 : Old Z n0 hJRN) (fJRN_1 : Arv Z hJRN b1 k1 .char (2 : Int32) [(.int (nar .char ((p1 &&& (255 : Int32)).toUInt32.toUInt16.toUInt32.toInt32))), (.int (nar .char (((XT.ushr p1 (8 : Int32)) &&& (255 : Int32)).toUInt32.toUInt16.toUInt32.toInt32)))] (.int (0 : Int32))) (fJRN_2 : Arv Z hJRN b4 k4 .char (2 : Int32) [(.int (nar .char ((p2 &&& (255 : Int32)).toUInt32.toUInt16.toUInt32.toInt32))), (.int (nar .char (((XT.ushr p2 (8 : Int32)) &&& (255 : Int32)).toUInt32.toUInt16.toUInt32.toInt32)))] (.int (0 : Int32))) (fJRN_3 : Arv Z hJRN b7 k7 .char (0 : Int32) [] (.int (0 : Int32))) , own_Gl p.tables e below F (TJRN.setTop (mkF m 134 #[.val (.int p1), .val (.int p2), .val (.int p3), .val (.int p4), .val (.ref b1), .val (.ref b4), .val (.ref b7), .val (.ref x), .unset, .unset, .unset] [.null])) := by
      intro TJRN lJRN hJRN vJRN kJRN XJRN eJRN NJRN ZJRN KJRN hZJRN hoJRN hSJRN hkJRN CRJRN sJRN_b1 sJRN_b4 sJRN_b7 fJRN_0 fJRN_1 fJRN_2 fJRN_3
      show own_Gl p.tables e below F (TJRN.setTop (mkF m 134 #[.val (.int p1), .val (.int p2), .val (.int p3), .val (.int p4), .val (.ref b1), .val (.ref b4), .val (.ref b7), .val (.ref x), .unset, .unset, .unset] [.null]))
      refine own_go (fun _ k => XS.astore XJRN.here hx rfl (hb hby at_134) rfl rfl (l' := #[.val (.int p1), .val (.int p2), .val (.int p3), .val (.int p4), .val (.ref b1), .val (.ref b4), .val (.ref b7), .val (.ref x), .val .null, .unset, .unset]) rfl k) ?_
      show own_Gl p.tables e below F (TJRN.setTop (mkF m 136 #[.val (.int p1), .val (.int p2), .val (.int p3), .val (.int p4), .val (.ref b1), .val (.ref b4), .val (.ref b7), .val (.ref x), .val .null, .unset, .unset] []))
      obtain ⟨T30, h30, X30, e30, E30, A30, D30, -, st30⟩ := newO XJRN hx hZJRN hoJRN (hw _ (List.mem_of_getElem? (i := 30) rfl)) (hw _ (List.mem_of_getElem? (i := 31) rfl)) (hw _ (List.mem_of_getElem? (i := 32) rfl)) eJRN (g := (mkF m 136 #[.val (.int p1), .val (.int p2), .val (.int p3), .val (.int p4), .val (.ref b1), .val (.ref b4), .val (.ref b7), .val (.ref x), .val .null, .unset, .unset] [])) rfl (hb hby at_136) (by first | decide | exact Nat.le_of_ble_eq_true rfl) (by first | decide | exact Nat.le_of_ble_eq_true rfl)
      obtain ⟨b30, g30⟩ : ∃ z, z = hJRN.size := ⟨_, rfl⟩
      rw [← g30] at A30 D30 st30
      have ne_b1_b30 : b1 ≠ b30 := Nat.ne_of_lt (Nat.lt_of_lt_of_le fJRN_1.lt (Nat.le_of_eq g30.symm))
      have ne_b4_b30 : b4 ≠ b30 := Nat.ne_of_lt (Nat.lt_of_lt_of_le fJRN_2.lt (Nat.le_of_eq g30.symm))
      have ne_b7_b30 : b7 ≠ b30 := Nat.ne_of_lt (Nat.lt_of_lt_of_le fJRN_3.lt (Nat.le_of_eq g30.symm))
      have ge_b30 : n0 ≤ b30 := Nat.le_trans ZJRN (Nat.le_of_eq g30.symm)
      have sz_b30 : h0.size ≤ b30 := Nat.le_trans (KJRN).1 (Nat.le_of_eq g30.symm)
      have sf_b30 := Safe.ext E30 CRJRN.1 (Safe.new (Z := Z) (EL := own_EL) (vm := vJRN) (Nat.le_of_eq g30.symm))
      have f30_0 := fJRN_0.ext E30
      have f30_1 := fJRN_1.ext E30
      have f30_2 := fJRN_2.ext E30
      have f30_3 := fJRN_3.ext E30
      have Z30 : n0 ≤ h30.size := Nat.le_trans ZJRN E30.1
      have K30 := Keep.ext KJRN E30
      have sf30_0 := Safe.ext E30 CRJRN.1 sJRN_b1
      have sf30_1 := Safe.ext E30 CRJRN.1 sJRN_b4
      have sf30_2 := Safe.ext E30 CRJRN.1 sJRN_b7
      have CR30 := CRJRN.trans (CHr.ext E30 CRJRN.1)
      have hk30 : kJRN ≤ h30.size := Nat.le_trans hkJRN E30.1
      have F30_appends : Fld Z h30 b30 "com/example/palimpsest/palimpsest/history/KeyHistory" "appends" "Ljava/util/Map;" .null := D30 (Or.inr (hw _ (List.mem_of_getElem? (i := 54) rfl))) (ty := (.object "java/util/Map")) (by decide)
      have F30_longest : Fld Z h30 b30 "com/example/palimpsest/palimpsest/history/KeyHistory" "longest" "[J" .null := D30 (Or.inl (hw _ (List.mem_of_getElem? (i := 57) rfl))) (ty := (.array .long)) (by decide)
      have F30_longestReader : Fld Z h30 b30 "com/example/palimpsest/palimpsest/history/KeyHistory" "longestReader" "I" (.int (0 : Int32)) := D30 (Or.inl (hw _ (List.mem_of_getElem? (i := 59) rfl))) (ty := .int) (by decide)
      have F30_name : Fld Z h30 b30 "com/example/palimpsest/palimpsest/history/KeyHistory" "name" "Ljava/lang/String;" .null := D30 (Or.inr (hw _ (List.mem_of_getElem? (i := 61) rfl))) (ty := (.object "java/lang/String")) (by decide)
      have F30_number : Fld Z h30 b30 "com/example/palimpsest/palimpsest/history/KeyHistory" "number" "I" (.int (0 : Int32)) := D30 (Or.inr (hw _ (List.mem_of_getElem? (i := 63) rfl))) (ty := .int) (by decide)
      have F30_disorder : Fld Z h30 b30 "com/example/palimpsest/palimpsest/history/KeyHistory" "disorder" "Ljava/lang/String;" .null := D30 (Or.inl (hw _ (List.mem_of_getElem? (i := 70) rfl))) (ty := (.object "java/lang/String")) (by decide)
      have X30 : Stand _ _ _ _ _ _ _ _ _ _ _ _ 18 40 := X30
      refine own_go st30 ?_
      show own_Gl p.tables e below F (T30.setTop (mkF m 139 #[.val (.int p1), .val (.int p2), .val (.int p3), .val (.int p4), .val (.ref b1), .val (.ref b4), .val (.ref b7), .val (.ref x), .val .null, .unset, .unset] [(.ref b30)]))
      refine own_go (fun _ k => XS.dup X30.here hx rfl (hb hby at_139) rfl rfl k) ?_
      show own_Gl p.tables e below F (T30.setTop (mkF m 140 #[.val (.int p1), .val (.int p2), .val (.int p3), .val (.int p4), .val (.ref b1), .val (.ref b4), .val (.ref b7), .val (.ref x), .val .null, .unset, .unset] [(.ref b30), (.ref b30)]))
      obtain ⟨T31, h31, X31, e31, E31, A31, D31, -, st31⟩ := newO X30 hx hZJRN hoJRN (hw _ (List.mem_of_getElem? (i := 1) rfl)) (hw _ (List.mem_of_getElem? (i := 2) rfl)) (hw _ (List.mem_of_getElem? (i := 3) rfl)) e30 (g := (mkF m 140 #[.val (.int p1), .val (.int p2), .val (.int p3), .val (.int p4), .val (.ref b1), .val (.ref b4), .val (.ref b7), .val (.ref x), .val .null, .unset, .unset] [(.ref b30), (.ref b30)])) rfl (hb hby at_140) (by first | decide | exact Nat.le_of_ble_eq_true rfl) (by first | decide | exact Nat.le_of_ble_eq_true rfl)
      obtain ⟨b31, g31⟩ : ∃ z, z = h30.size := ⟨_, rfl⟩
      rw [← g31] at A31 D31 st31
      have ne_b1_b31 : b1 ≠ b31 := Nat.ne_of_lt (Nat.lt_of_lt_of_le f30_1.lt (Nat.le_of_eq g31.symm))
      have ne_b4_b31 : b4 ≠ b31 := Nat.ne_of_lt (Nat.lt_of_lt_of_le f30_2.lt (Nat.le_of_eq g31.symm))
      have ne_b7_b31 : b7 ≠ b31 := Nat.ne_of_lt (Nat.lt_of_lt_of_le f30_3.lt (Nat.le_of_eq g31.symm))
      have ne_b30_b31 : b30 ≠ b31 := Nat.ne_of_lt (Nat.lt_of_lt_of_le A30.lt (Nat.le_of_eq g31.symm))
      have ge_b31 : n0 ≤ b31 := Nat.le_trans Z30 (Nat.le_of_eq g31.symm)
      have sz_b31 : h0.size ≤ b31 := Nat.le_trans (K30).1 (Nat.le_of_eq g31.symm)
      have sf_b31 := Safe.ext E31 CR30.1 (Safe.new (Z := Z) (EL := own_EL) (vm := vJRN) (Nat.le_of_eq g31.symm))
      have f31_0 := f30_0.ext E31
      have f31_1 := f30_1.ext E31
      have f31_2 := f30_2.ext E31
      have f31_3 := f30_3.ext E31
      have f31_4 := A30.ext E31
      have f31_5 := F30_appends.ext E31
      have f31_6 := F30_longest.ext E31
      have f31_7 := F30_longestReader.ext E31
      have f31_8 := F30_name.ext E31
      have f31_9 := F30_number.ext E31
      have f31_10 := F30_disorder.ext E31
      have Z31 : n0 ≤ h31.size := Nat.le_trans Z30 E31.1
      have K31 := Keep.ext K30 E31
      have sf31_0 := Safe.ext E31 CR30.1 sf30_0
      have sf31_1 := Safe.ext E31 CR30.1 sf30_1
      have sf31_2 := Safe.ext E31 CR30.1 sf30_2
      have sf31_3 := Safe.ext E31 CR30.1 sf_b30
      have CR31 := CR30.trans (CHr.ext E31 CR30.1)
      have hk31 : kJRN ≤ h31.size := Nat.le_trans hk30 E31.1
      have F31_coder : Fld Z h31 b31 "java/lang/String" "coder" "B" (.int (0 : Int32)) := D31 (Or.inr (hw _ (List.mem_of_getElem? (i := 27) rfl))) (ty := .byte) (by decide)
      have F31_value : Fld Z h31 b31 "java/lang/String" "value" "[B" .null := D31 (Or.inr (hw _ (List.mem_of_getElem? (i := 29) rfl))) (ty := (.array .byte)) (by decide)
      have X31 : Stand _ _ _ _ _ _ _ _ _ _ _ _ 19 44 := X31
      refine own_go st31 ?_
      show own_Gl p.tables e below F (T31.setTop (mkF m 143 #[.val (.int p1), .val (.int p2), .val (.int p3), .val (.int p4), .val (.ref b1), .val (.ref b4), .val (.ref b7), .val (.ref x), .val .null, .unset, .unset] [(.ref b31), (.ref b30), (.ref b30)]))
      refine own_go (fun _ k => XS.dup X31.here hx rfl (hb hby at_143) rfl rfl k) ?_
      show own_Gl p.tables e below F (T31.setTop (mkF m 144 #[.val (.int p1), .val (.int p2), .val (.int p3), .val (.int p4), .val (.ref b1), .val (.ref b4), .val (.ref b7), .val (.ref x), .val .null, .unset, .unset] [(.ref b31), (.ref b31), (.ref b30), (.ref b30)]))
      refine own_go (fun _ k => XS.aload X31.here hx rfl (hb hby at_144) rfl rfl k) ?_
      show own_Gl p.tables e below F (T31.setTop (mkF m 146 #[.val (.int p1), .val (.int p2), .val (.int p3), .val (.int p4), .val (.ref b1), .val (.ref b4), .val (.ref b7), .val (.ref x), .val .null, .unset, .unset] [(.ref b1), (.ref b31), (.ref b31), (.ref b30), (.ref b30)]))
      obtain ⟨_, _, ⟨T32, L32, k32, n32⟩, -, X32, ⟨Lc32, hQ32, l32, y32, z32⟩, st32⟩ := X31.specialBack hx (y := (⟨"java/lang/String", "<init>", "([C)V"⟩ : MethodName)) rfl hoJRN (mvT hZJRN (hw _ (List.mem_of_getElem? (i := 4) rfl))) (mvT hZJRN (hw _ (List.mem_of_getElem? (i := 5) rfl))) (mvT hZJRN (hw _ (List.mem_of_getElem? (i := 6) rfl))) (by decide) (StrChars.Road.backV (W := 3) hZJRN hws (kI := 4) (hw _ (List.mem_of_getElem? (i := 2) rfl)) (cs := ([(nar .char ((p1 &&& (255 : Int32)).toUInt32.toUInt16.toUInt32.toInt32)), (nar .char (((XT.ushr p1 (8 : Int32)) &&& (255 : Int32)).toUInt32.toUInt16.toUInt32.toInt32))] : List Int32)) (bs := ([(nar .char ((p1 &&& (255 : Int32)).toUInt32.toUInt16.toUInt32.toInt32)), (nar .char (((XT.ushr p1 (8 : Int32)) &&& (255 : Int32)).toUInt32.toUInt16.toUInt32.toInt32))] : List Int32).map (fun c => c.toInt8.toInt32)) (n := 2) ge_b31 Z31 A31 F31_value F31_coder f31_1 (O2.ext f31_0.2) P5 rfl rfl (by decide) (by decide) hpa rfl (by decide) (by decide)) (g := (mkF m 146 #[.val (.int p1), .val (.int p2), .val (.int p3), .val (.int p4), .val (.ref b1), .val (.ref b4), .val (.ref b7), .val (.ref x), .val .null, .unset, .unset] [(.ref b1), (.ref b31), (.ref b31), (.ref b30), (.ref b30)])) rfl (by rw [hml]; rfl) (Steps.refl _) (a := b31) (argsL := [(.ref b1)]) (rest := [(.ref b31), (.ref b30), (.ref b30)]) (lenOf pd_2 rfl) rfl (by show 2 * 0 + _ ≤ _; exact Nat.le_of_eq rfl) (hb hby at_146) (fun _ _ => ⟨rfl, e31, (by first | decide | exact Nat.le_of_ble_eq_true rfl), (by first | decide | exact Nat.le_of_ble_eq_true rfl)⟩)
      dsimp only [Pt.U, Pt.locs, Pt.cells, Pt.slots] at X32 l32 y32 z32 st32 hQ32
      have X32 := own_sn X32 (k' := 20) (n' := 46) y32 z32
      obtain ⟨hv32, N32, K32, GE32, -, -⟩ := hQ32
      rw [hv32] at st32
      have NF32 := own_fr l32 NJRN N32
      have sf32_0 := Safe.keep K32 (sfS sf_b31 sf0) CR31.1 sf31_0
      have sf32_1 := Safe.keep K32 (sfS sf_b31 sf0) CR31.1 sf31_1
      have sf32_2 := Safe.keep K32 (sfS sf_b31 sf0) CR31.1 sf31_2
      have sf32_3 := Safe.keep K32 (sfS sf_b31 sf0) CR31.1 sf31_3
      have sf32_4 := Safe.keep K32 (sfS sf_b31 sf0) CR31.1 sf_b31
      have CR32 := CR31.trans (CHr.keep K32 (sfS sf_b31 sf0) CR31.1)
      have hk32 : kJRN ≤ T32.heap.size := Nat.le_trans hk31 K32.1
      have f32_1 := f31_0.keep K32 (allS ge_b31 (all0))
      have f32_2 := f31_1.keep K32 (ninS ne_b1_b31 nin0)
      have f32_3 := f31_2.keep K32 (ninS ne_b4_b31 nin0)
      have f32_4 := f31_3.keep K32 (ninS ne_b7_b31 nin0)
      have f32_5 := f31_4.keep K32
      have f32_6 := f31_5.keep K32 (ninS ne_b30_b31 nin0)
      have f32_7 := f31_6.keep K32 (ninS ne_b30_b31 nin0)
      have f32_8 := f31_7.keep K32 (ninS ne_b30_b31 nin0)
      have f32_9 := f31_8.keep K32 (ninS ne_b30_b31 nin0)
      have f32_10 := f31_9.keep K32 (ninS ne_b30_b31 nin0)
      have f32_11 := f31_10.keep K32 (ninS ne_b30_b31 nin0)
      have f32_12 := A31.keep K32
      have Z32 : n0 ≤ T32.heap.size := Nat.le_trans Z31 K32.1
      have KK32 := Keep.trans K31 K32 (by intro z hz; simp at hz; rcases hz with rfl; all_goals first | (left; simp; done) | (right; assumption))
      refine own_go (fun _ k => st32.trans k) ?_
      show own_Gl p.tables e below F (T32.setTop (mkF m 149 #[.val (.int p1), .val (.int p2), .val (.int p3), .val (.int p4), .val (.ref b1), .val (.ref b4), .val (.ref b7), .val (.ref x), .val .null, .unset, .unset] [(.ref b31), (.ref b30), (.ref b30)]))
      refine own_go (fun _ k => XS.iloadN X32.here hx rfl (hb hby at_149) rfl k) ?_
      show own_Gl p.tables e below F (T32.setTop (mkF m 150 #[.val (.int p1), .val (.int p2), .val (.int p3), .val (.int p4), .val (.ref b1), .val (.ref b4), .val (.ref b7), .val (.ref x), .val .null, .unset, .unset] [(.int p4), (.ref b31), (.ref b30), (.ref b30)]))
      obtain ⟨_, _, ⟨T33, L33, k33, n33⟩, -, X33, ⟨Lc33, hQ33, l33, y33, z33⟩, st33⟩ := X32.specialBack hx (y := (⟨"com/example/palimpsest/palimpsest/history/KeyHistory", "<init>", "(Ljava/lang/String;I)V"⟩ : MethodName)) rfl hoJRN (mvT hZJRN (hw _ (List.mem_of_getElem? (i := 33) rfl))) (mvT hZJRN (hw _ (List.mem_of_getElem? (i := 34) rfl))) (mvT hZJRN (hw _ (List.mem_of_getElem? (i := 35) rfl))) (by decide) (backOf (W := 1) (rm7 l Z a0 hw [] b30 b31 p4  T32.heap n0 Z32 f32_5 f32_6 f32_7 f32_8 f32_9 f32_10 f32_11 ge_b30) hZJRN (hw _ (List.mem_of_getElem? (i := 35) rfl)) (hw _ (List.mem_of_getElem? (i := 32) rfl)) (by decide) (by decide)) (g := (mkF m 150 #[.val (.int p1), .val (.int p2), .val (.int p3), .val (.int p4), .val (.ref b1), .val (.ref b4), .val (.ref b7), .val (.ref x), .val .null, .unset, .unset] [(.int p4), (.ref b31), (.ref b30), (.ref b30)])) rfl (by rw [hml]; rfl) (Steps.refl _) (a := b30) (argsL := [(.ref b31), (.int p4)]) (rest := [(.ref b30)]) (lenOf pd_3 rfl) rfl (by show 2 * 0 + _ ≤ _; exact Nat.le_of_eq rfl) (hb hby at_150) (fun _ _ => ⟨rfl, rfl, (by first | decide | exact Nat.le_of_ble_eq_true rfl), (by first | decide | exact Nat.le_of_ble_eq_true rfl)⟩)
      dsimp only [Pt.U, Pt.locs, Pt.cells, Pt.slots] at X33 l33 y33 z33 st33 hQ33
      have X33 := own_sn X33 (k' := 22) (n' := 62) y33 z33
      obtain ⟨hv33, N33, K33, GE33, GF33⟩ := hQ33
      rw [hv33] at st33
      have NF33 := own_fr l33 NF32 N33
      have sf33_0 := Safe.keep K33 (sfS sf32_3 sf0) CR32.1 sf32_0
      have sf33_1 := Safe.keep K33 (sfS sf32_3 sf0) CR32.1 sf32_1
      have sf33_2 := Safe.keep K33 (sfS sf32_3 sf0) CR32.1 sf32_2
      have sf33_3 := Safe.keep K33 (sfS sf32_3 sf0) CR32.1 sf32_3
      have sf33_4 := Safe.keep K33 (sfS sf32_3 sf0) CR32.1 sf32_4
      have CR33 := CR32.trans (CHr.keep K33 (sfS sf32_3 sf0) CR32.1)
      have hk33 : kJRN ≤ T33.heap.size := Nat.le_trans hk32 K33.1
      have f33_1 := f32_1.keep K33 (allS ge_b30 (all0))
      have f33_2 := f32_2.keep K33 (ninS ne_b1_b30 nin0)
      have f33_3 := f32_3.keep K33 (ninS ne_b4_b30 nin0)
      have f33_4 := f32_4.keep K33 (ninS ne_b7_b30 nin0)
      have f33_5 := f32_5.keep K33
      have f33_12 := f32_12.keep K33
      have Z33 : n0 ≤ T33.heap.size := Nat.le_trans Z32 K33.1
      have KK33 := Keep.trans KK32 K33 (by intro z hz; simp at hz; rcases hz with rfl; all_goals first | (left; simp; done) | (right; assumption))
      refine own_go (fun _ k => st33.trans k) ?_
      show own_Gl p.tables e below F (T33.setTop (mkF m 153 #[.val (.int p1), .val (.int p2), .val (.int p3), .val (.int p4), .val (.ref b1), .val (.ref b4), .val (.ref b7), .val (.ref x), .val .null, .unset, .unset] [(.ref b30)]))
      refine own_go (fun _ k => XS.astore X33.here hx rfl (hb hby at_153) rfl rfl (l' := #[.val (.int p1), .val (.int p2), .val (.int p3), .val (.int p4), .val (.ref b1), .val (.ref b4), .val (.ref b7), .val (.ref x), .val .null, .val (.ref b30), .unset]) rfl k) ?_
      show own_Gl p.tables e below F (T33.setTop (mkF m 155 #[.val (.int p1), .val (.int p2), .val (.int p3), .val (.int p4), .val (.ref b1), .val (.ref b4), .val (.ref b7), .val (.ref x), .val .null, .val (.ref b30), .unset] []))
      refine own_go (fun _ k => XS.aload X33.here hx rfl (hb hby at_155) rfl rfl k) ?_
      show own_Gl p.tables e below F (T33.setTop (mkF m 157 #[.val (.int p1), .val (.int p2), .val (.int p3), .val (.int p4), .val (.ref b1), .val (.ref b4), .val (.ref b7), .val (.ref x), .val .null, .val (.ref b30), .unset] [(.ref b30)]))
      obtain ⟨cq34, kq34, q34a, q34b, q34c⟩ := isOf hZJRN rfl GE33
      obtain ⟨_, _, ⟨T34, L34, k34, n34⟩, -, X34, ⟨Lc34, hQ34, l34, y34, z34⟩, st34⟩ := X33.virtualBack hx (y := (⟨"com/example/palimpsest/palimpsest/history/KeyHistory", "disorder", "()Ljava/lang/String;"⟩ : MethodName)) (z := (⟨"com/example/palimpsest/palimpsest/history/KeyHistory", "disorder", "()Ljava/lang/String;"⟩ : MethodName)) hoJRN (mvT hZJRN (hw _ (List.mem_of_getElem? (i := 64) rfl))) (mvT hZJRN (hw _ (List.mem_of_getElem? (i := 65) rfl))) (notFace_of_selects (args := #[]) (mvT hZJRN (hw _ (List.mem_of_getElem? (i := 67) rfl)))) (mvT hZJRN (hw _ (List.mem_of_getElem? (i := 67) rfl))) (mvT hZJRN (hw _ (List.mem_of_getElem? (i := 66) rfl))) (by decide) (backOf (W := 0) (rm10 l Z a0 hw [] b30 .null T33.heap n0 Z33 rfl GF33) hZJRN (hw _ (List.mem_of_getElem? (i := 68) rfl)) (hw _ (List.mem_of_getElem? (i := 32) rfl)) (by decide) (by decide)) q34a q34c (g := (mkF m 157 #[.val (.int p1), .val (.int p2), .val (.int p3), .val (.int p4), .val (.ref b1), .val (.ref b4), .val (.ref b7), .val (.ref x), .val .null, .val (.ref b30), .unset] [(.ref b30)])) rfl (by rw [hml]; rfl) (Steps.refl _) (argsL := []) (rest := []) (lenOf pd_4 rfl) rfl (by show 2 * 0 + _ ≤ _; exact Nat.le_of_eq rfl) (hb hby at_157) (fun _ _ => ⟨rfl, rfl, (by first | decide | exact Nat.le_of_ble_eq_true rfl), (by first | decide | exact Nat.le_of_ble_eq_true rfl)⟩)
      dsimp only [Pt.U, Pt.locs, Pt.cells, Pt.slots] at X34 l34 y34 z34 st34 hQ34
      have X34 := own_sn X34 (k' := 22) (n' := 62) y34 z34
      obtain ⟨hv34, N34, e34⟩ := hQ34
      rw [hv34] at st34
      have NF34 := own_fr l34 NF33 N34
      refine own_go (fun _ k => st34.trans k) ?_
      show own_Gl p.tables e below F (T34.setTop (mkF m 160 #[.val (.int p1), .val (.int p2), .val (.int p3), .val (.int p4), .val (.ref b1), .val (.ref b4), .val (.ref b7), .val (.ref x), .val .null, .val (.ref b30), .unset] [.null]))
      refine own_go (fun _ k => XS.ifnullYes X34.here hx rfl (pc0 := 160) (pc' := 165) rfl (hb hby at_160) rfl (by decide) (by decide) k) ?_
      show own_Gl p.tables e below F (T34.setTop (mkF m 165 #[.val (.int p1), .val (.int p2), .val (.int p3), .val (.int p4), .val (.ref b1), .val (.ref b4), .val (.ref b7), .val (.ref x), .val .null, .val (.ref b30), .unset] []))
      refine own_go (fun _ k => XS.aload X34.here hx rfl (hb hby at_165) rfl rfl k) ?_
      show own_Gl p.tables e below F (T34.setTop (mkF m 167 #[.val (.int p1), .val (.int p2), .val (.int p3), .val (.int p4), .val (.ref b1), .val (.ref b4), .val (.ref b7), .val (.ref x), .val .null, .val (.ref b30), .unset] [(.ref b30)]))
      refine own_go (fun _ k => XS.aload X34.here hx rfl (hb hby at_167) rfl rfl k) ?_
      show own_Gl p.tables e below F (T34.setTop (mkF m 169 #[.val (.int p1), .val (.int p2), .val (.int p3), .val (.int p4), .val (.ref b1), .val (.ref b4), .val (.ref b7), .val (.ref x), .val .null, .val (.ref b30), .unset] [(.ref x), (.ref b30)]))
      obtain ⟨cq35, kq35, q35a, q35b, q35c⟩ := isOf hZJRN e34 GE33
      obtain ⟨_, _, ⟨T35, L35, k35, n35⟩, -, X35, ⟨Lc35, hQ35, l35, y35, z35⟩, st35⟩ := X34.virtualBack hx (y := (⟨"com/example/palimpsest/palimpsest/history/KeyHistory", "disorder", "(Ljava/lang/String;)V"⟩ : MethodName)) (z := (⟨"com/example/palimpsest/palimpsest/history/KeyHistory", "disorder", "(Ljava/lang/String;)V"⟩ : MethodName)) hoJRN (mvT hZJRN (hw _ (List.mem_of_getElem? (i := 71) rfl))) (mvT hZJRN (hw _ (List.mem_of_getElem? (i := 72) rfl))) (notFace_of_selects (args := #[]) (mvT hZJRN (hw _ (List.mem_of_getElem? (i := 74) rfl)))) (mvT hZJRN (hw _ (List.mem_of_getElem? (i := 74) rfl))) (mvT hZJRN (hw _ (List.mem_of_getElem? (i := 73) rfl))) (by decide) (backOf (W := 0) (rm11_NR l Z a0 hw [] b30 x  T33.heap n0 Z33 GE33 GF33 ge_b30) hZJRN (hw _ (List.mem_of_getElem? (i := 75) rfl)) (hw _ (List.mem_of_getElem? (i := 32) rfl)) (by decide) (by decide)) q35a q35c (g := (mkF m 169 #[.val (.int p1), .val (.int p2), .val (.int p3), .val (.int p4), .val (.ref b1), .val (.ref b4), .val (.ref b7), .val (.ref x), .val .null, .val (.ref b30), .unset] [(.ref x), (.ref b30)])) rfl (by rw [hml]; rfl) (Steps.refl _) (argsL := [(.ref x)]) (rest := []) (lenOf pd_5 rfl) rfl (by show 2 * 0 + _ ≤ _; exact Nat.le_of_eq rfl) (hb hby at_169) (fun _ _ => ⟨rfl, e34, (by first | decide | exact Nat.le_of_ble_eq_true rfl), (by first | decide | exact Nat.le_of_ble_eq_true rfl)⟩)
      dsimp only [Pt.U, Pt.locs, Pt.cells, Pt.slots] at X35 l35 y35 z35 st35 hQ35
      have X35 := own_sn X35 (k' := 22) (n' := 62) y35 z35
      obtain ⟨hv35, N35, K35, GE35, GF35⟩ := hQ35
      rw [hv35] at st35
      have NF35 := own_fr l35 NF34 N35
      have sf35_0 := Safe.keep K35 (sfS sf33_3 sf0) CR33.1 sf33_0
      have sf35_1 := Safe.keep K35 (sfS sf33_3 sf0) CR33.1 sf33_1
      have sf35_2 := Safe.keep K35 (sfS sf33_3 sf0) CR33.1 sf33_2
      have sf35_3 := Safe.keep K35 (sfS sf33_3 sf0) CR33.1 sf33_3
      have sf35_4 := Safe.keep K35 (sfS sf33_3 sf0) CR33.1 sf33_4
      have CR35 := CR33.trans (CHr.keep K35 (sfS sf33_3 sf0) CR33.1)
      have hk35 : kJRN ≤ T35.heap.size := Nat.le_trans hk33 K35.1
      have f35_1 := f33_1.keep K35 (allS ge_b30 (all0))
      have f35_2 := f33_2.keep K35 (ninS ne_b1_b30 nin0)
      have f35_3 := f33_3.keep K35 (ninS ne_b4_b30 nin0)
      have f35_4 := f33_4.keep K35 (ninS ne_b7_b30 nin0)
      have f35_5 := GE33.keep K35
      have f35_6 := f33_12.keep K35
      have Z35 : n0 ≤ T35.heap.size := Nat.le_trans Z33 K35.1
      have KK35 := Keep.trans KK33 K35 (by intro z hz; simp at hz; rcases hz with rfl; all_goals first | (left; simp; done) | (right; assumption))
      refine own_go (fun _ k => st35.trans k) ?_
      show own_Gl p.tables e below F (T35.setTop (mkF m 172 #[.val (.int p1), .val (.int p2), .val (.int p3), .val (.int p4), .val (.ref b1), .val (.ref b4), .val (.ref b7), .val (.ref x), .val .null, .val (.ref b30), .unset] []))
      refine own_go (fun _ k => XS.aload X35.here hx rfl (hb hby at_172) rfl rfl k) ?_
      show own_Gl p.tables e below F (T35.setTop (mkF m 174 #[.val (.int p1), .val (.int p2), .val (.int p3), .val (.int p4), .val (.ref b1), .val (.ref b4), .val (.ref b7), .val (.ref x), .val .null, .val (.ref b30), .unset] [(.ref b30)]))
      obtain ⟨cq36, kq36, q36a, q36b, q36c⟩ := isOf hZJRN rfl GE35
      obtain ⟨_, _, ⟨T36, L36, k36, n36⟩, -, X36, ⟨Lc36, hQ36, l36, y36, z36⟩, st36⟩ := X35.virtualBack hx (y := (⟨"com/example/palimpsest/palimpsest/history/KeyHistory", "disorder", "()Ljava/lang/String;"⟩ : MethodName)) (z := (⟨"com/example/palimpsest/palimpsest/history/KeyHistory", "disorder", "()Ljava/lang/String;"⟩ : MethodName)) hoJRN (mvT hZJRN (hw _ (List.mem_of_getElem? (i := 64) rfl))) (mvT hZJRN (hw _ (List.mem_of_getElem? (i := 65) rfl))) (notFace_of_selects (args := #[]) (mvT hZJRN (hw _ (List.mem_of_getElem? (i := 67) rfl)))) (mvT hZJRN (hw _ (List.mem_of_getElem? (i := 67) rfl))) (mvT hZJRN (hw _ (List.mem_of_getElem? (i := 66) rfl))) (by decide) (backOf (W := 0) (rm10 l Z a0 hw [] b30 (.ref x) T35.heap n0 Z35 rfl GF35) hZJRN (hw _ (List.mem_of_getElem? (i := 68) rfl)) (hw _ (List.mem_of_getElem? (i := 32) rfl)) (by decide) (by decide)) q36a q36c (g := (mkF m 174 #[.val (.int p1), .val (.int p2), .val (.int p3), .val (.int p4), .val (.ref b1), .val (.ref b4), .val (.ref b7), .val (.ref x), .val .null, .val (.ref b30), .unset] [(.ref b30)])) rfl (by rw [hml]; rfl) (Steps.refl _) (argsL := []) (rest := []) (lenOf pd_4 rfl) rfl (by show 2 * 0 + _ ≤ _; exact Nat.le_of_eq rfl) (hb hby at_174) (fun _ _ => ⟨rfl, rfl, (by first | decide | exact Nat.le_of_ble_eq_true rfl), (by first | decide | exact Nat.le_of_ble_eq_true rfl)⟩)
      dsimp only [Pt.U, Pt.locs, Pt.cells, Pt.slots] at X36 l36 y36 z36 st36 hQ36
      have X36 := own_sn X36 (k' := 22) (n' := 62) y36 z36
      obtain ⟨hv36, N36, e36⟩ := hQ36
      rw [hv36] at st36
      have NF36 := own_fr l36 NF35 N36
      refine own_go (fun _ k => st36.trans k) ?_
      show own_Gl p.tables e below F (T36.setTop (mkF m 177 #[.val (.int p1), .val (.int p2), .val (.int p3), .val (.int p4), .val (.ref b1), .val (.ref b4), .val (.ref b7), .val (.ref x), .val .null, .val (.ref b30), .unset] [(.ref x)]))
      refine own_go (fun _ k => XS.aload X36.here hx rfl (hb hby at_177) rfl rfl k) ?_
      show own_Gl p.tables e below F (T36.setTop (mkF m 179 #[.val (.int p1), .val (.int p2), .val (.int p3), .val (.int p4), .val (.ref b1), .val (.ref b4), .val (.ref b7), .val (.ref x), .val .null, .val (.ref b30), .unset] [(.ref x), (.ref x)]))
      refine own_go (fun _ k => Jvm.RoadKit.acmp (g := (mkF m 179 #[.val (.int p1), .val (.int p2), .val (.int p3), .val (.int p4), .val (.ref b1), .val (.ref b4), .val (.ref b7), .val (.ref x), .val .null, .val (.ref b30), .unset] [(.ref x), (.ref x)])) X36 hx rfl rfl rfl (pc0 := 179) (pc' := 184) (same := true) rfl (hb hby at_179) rfl (decide_eq_true rfl) (by decide) (by decide) k) ?_
      show own_Gl p.tables e below F (T36.setTop (mkF m 184 #[.val (.int p1), .val (.int p2), .val (.int p3), .val (.int p4), .val (.ref b1), .val (.ref b4), .val (.ref b7), .val (.ref x), .val .null, .val (.ref b30), .unset] []))
      refine own_go (fun _ k => XS.aload X36.here hx rfl (hb hby at_184) rfl rfl k) ?_
      show own_Gl p.tables e below F (T36.setTop (mkF m 186 #[.val (.int p1), .val (.int p2), .val (.int p3), .val (.int p4), .val (.ref b1), .val (.ref b4), .val (.ref b7), .val (.ref x), .val .null, .val (.ref b30), .unset] [(.ref b30)]))
      refine own_go (fun _ k => XS.aload X36.here hx rfl (hb hby at_186) rfl rfl k) ?_
      show own_Gl p.tables e below F (T36.setTop (mkF m 188 #[.val (.int p1), .val (.int p2), .val (.int p3), .val (.int p4), .val (.ref b1), .val (.ref b4), .val (.ref b7), .val (.ref x), .val .null, .val (.ref b30), .unset] [.null, (.ref b30)]))
      obtain ⟨cq37, kq37, q37a, q37b, q37c⟩ := isOf hZJRN e36 GE35
      obtain ⟨_, _, ⟨T37, L37, k37, n37⟩, -, X37, ⟨Lc37, hQ37, l37, y37, z37⟩, st37⟩ := X36.virtualBack hx (y := (⟨"com/example/palimpsest/palimpsest/history/KeyHistory", "disorder", "(Ljava/lang/String;)V"⟩ : MethodName)) (z := (⟨"com/example/palimpsest/palimpsest/history/KeyHistory", "disorder", "(Ljava/lang/String;)V"⟩ : MethodName)) hoJRN (mvT hZJRN (hw _ (List.mem_of_getElem? (i := 71) rfl))) (mvT hZJRN (hw _ (List.mem_of_getElem? (i := 72) rfl))) (notFace_of_selects (args := #[]) (mvT hZJRN (hw _ (List.mem_of_getElem? (i := 74) rfl)))) (mvT hZJRN (hw _ (List.mem_of_getElem? (i := 74) rfl))) (mvT hZJRN (hw _ (List.mem_of_getElem? (i := 73) rfl))) (by decide) (backOf (W := 0) (rm11_RN l Z a0 hw [] b30 x  T35.heap n0 Z35 GE35 GF35 ge_b30) hZJRN (hw _ (List.mem_of_getElem? (i := 75) rfl)) (hw _ (List.mem_of_getElem? (i := 32) rfl)) (by decide) (by decide)) q37a q37c (g := (mkF m 188 #[.val (.int p1), .val (.int p2), .val (.int p3), .val (.int p4), .val (.ref b1), .val (.ref b4), .val (.ref b7), .val (.ref x), .val .null, .val (.ref b30), .unset] [.null, (.ref b30)])) rfl (by rw [hml]; rfl) (Steps.refl _) (argsL := [.null]) (rest := []) (lenOf pd_5 rfl) rfl (by show 2 * 0 + _ ≤ _; exact Nat.le_of_eq rfl) (hb hby at_188) (fun _ _ => ⟨rfl, e36, (by first | decide | exact Nat.le_of_ble_eq_true rfl), (by first | decide | exact Nat.le_of_ble_eq_true rfl)⟩)
      dsimp only [Pt.U, Pt.locs, Pt.cells, Pt.slots] at X37 l37 y37 z37 st37 hQ37
      have X37 := own_sn X37 (k' := 22) (n' := 62) y37 z37
      obtain ⟨hv37, N37, e37⟩ := hQ37
      rw [hv37] at st37
      have NF37 := own_fr l37 NF36 N37
      refine own_go (fun _ k => st37.trans k) ?_
      show own_Gl p.tables e below F (T37.setTop (mkF m 191 #[.val (.int p1), .val (.int p2), .val (.int p3), .val (.int p4), .val (.ref b1), .val (.ref b4), .val (.ref b7), .val (.ref x), .val .null, .val (.ref b30), .unset] []))
      refine own_go (fun _ k => XS.aload X37.here hx rfl (hb hby at_191) rfl rfl k) ?_
      show own_Gl p.tables e below F (T37.setTop (mkF m 193 #[.val (.int p1), .val (.int p2), .val (.int p3), .val (.int p4), .val (.ref b1), .val (.ref b4), .val (.ref b7), .val (.ref x), .val .null, .val (.ref b30), .unset] [(.ref x)]))
      refine own_go (fun _ k => XS.ifnullNo X37.here hx rfl (hb hby at_193) rfl k) ?_
      show own_Gl p.tables e below F (T37.setTop (mkF m 196 #[.val (.int p1), .val (.int p2), .val (.int p3), .val (.int p4), .val (.ref b1), .val (.ref b4), .val (.ref b7), .val (.ref x), .val .null, .val (.ref b30), .unset] []))
      refine own_go (fun _ k => XS.aload X37.here hx rfl (hb hby at_196) rfl rfl k) ?_
      show own_Gl p.tables e below F (T37.setTop (mkF m 198 #[.val (.int p1), .val (.int p2), .val (.int p3), .val (.int p4), .val (.ref b1), .val (.ref b4), .val (.ref b7), .val (.ref x), .val .null, .val (.ref b30), .unset] [(.ref x)]))
      refine own_go (fun _ k => XS.goto X37.here hx rfl (pc0 := 198) (pc' := 203) rfl (hb hby at_198) (by decide) (by decide) k) ?_
      show own_Gl p.tables e below F (T37.setTop (mkF m 203 #[.val (.int p1), .val (.int p2), .val (.int p3), .val (.int p4), .val (.ref b1), .val (.ref b4), .val (.ref b7), .val (.ref x), .val .null, .val (.ref b30), .unset] [(.ref x)]))
      refine own_go (fun _ k => XS.astore X37.here hx rfl (hb hby at_203) rfl rfl (l' := #[.val (.int p1), .val (.int p2), .val (.int p3), .val (.int p4), .val (.ref b1), .val (.ref b4), .val (.ref b7), .val (.ref x), .val .null, .val (.ref b30), .val (.ref x)]) rfl k) ?_
      show own_Gl p.tables e below F (T37.setTop (mkF m 205 #[.val (.int p1), .val (.int p2), .val (.int p3), .val (.int p4), .val (.ref b1), .val (.ref b4), .val (.ref b7), .val (.ref x), .val .null, .val (.ref b30), .val (.ref x)] []))
      refine own_go (fun _ k => XS.aload X37.here hx rfl (hb hby at_205) rfl rfl k) ?_
      show own_Gl p.tables e below F (T37.setTop (mkF m 207 #[.val (.int p1), .val (.int p2), .val (.int p3), .val (.int p4), .val (.ref b1), .val (.ref b4), .val (.ref b7), .val (.ref x), .val .null, .val (.ref b30), .val (.ref x)] [(.ref b30)]))
      obtain ⟨cq38, kq38, q38a, q38b, q38c⟩ := isOf hZJRN e37 GE35
      obtain ⟨_, _, ⟨T38, L38, k38, n38⟩, -, X38, ⟨Lc38, hQ38, l38, y38, z38⟩, st38⟩ := X37.virtualBack hx (y := (⟨"com/example/palimpsest/palimpsest/history/KeyHistory", "disorder", "()Ljava/lang/String;"⟩ : MethodName)) (z := (⟨"com/example/palimpsest/palimpsest/history/KeyHistory", "disorder", "()Ljava/lang/String;"⟩ : MethodName)) hoJRN (mvT hZJRN (hw _ (List.mem_of_getElem? (i := 64) rfl))) (mvT hZJRN (hw _ (List.mem_of_getElem? (i := 65) rfl))) (notFace_of_selects (args := #[]) (mvT hZJRN (hw _ (List.mem_of_getElem? (i := 67) rfl)))) (mvT hZJRN (hw _ (List.mem_of_getElem? (i := 67) rfl))) (mvT hZJRN (hw _ (List.mem_of_getElem? (i := 66) rfl))) (by decide) (backOf (W := 0) (rm10 l Z a0 hw [] b30 (.ref x) T35.heap n0 Z35 rfl GF35) hZJRN (hw _ (List.mem_of_getElem? (i := 68) rfl)) (hw _ (List.mem_of_getElem? (i := 32) rfl)) (by decide) (by decide)) q38a q38c (g := (mkF m 207 #[.val (.int p1), .val (.int p2), .val (.int p3), .val (.int p4), .val (.ref b1), .val (.ref b4), .val (.ref b7), .val (.ref x), .val .null, .val (.ref b30), .val (.ref x)] [(.ref b30)])) rfl (by rw [hml]; rfl) (Steps.refl _) (argsL := []) (rest := []) (lenOf pd_4 rfl) rfl (by show 2 * 0 + _ ≤ _; exact Nat.le_of_eq rfl) (hb hby at_207) (fun _ _ => ⟨rfl, e37, (by first | decide | exact Nat.le_of_ble_eq_true rfl), (by first | decide | exact Nat.le_of_ble_eq_true rfl)⟩)
      dsimp only [Pt.U, Pt.locs, Pt.cells, Pt.slots] at X38 l38 y38 z38 st38 hQ38
      have X38 := own_sn X38 (k' := 22) (n' := 62) y38 z38
      obtain ⟨hv38, N38, e38⟩ := hQ38
      rw [hv38] at st38
      have NF38 := own_fr l38 NF37 N38
      refine own_go (fun _ k => st38.trans k) ?_
      show own_Gl p.tables e below F (T38.setTop (mkF m 210 #[.val (.int p1), .val (.int p2), .val (.int p3), .val (.int p4), .val (.ref b1), .val (.ref b4), .val (.ref b7), .val (.ref x), .val .null, .val (.ref b30), .val (.ref x)] [(.ref x)]))
      refine own_go (fun _ k => XS.aload X38.here hx rfl (hb hby at_210) rfl rfl k) ?_
      show own_Gl p.tables e below F (T38.setTop (mkF m 212 #[.val (.int p1), .val (.int p2), .val (.int p3), .val (.int p4), .val (.ref b1), .val (.ref b4), .val (.ref b7), .val (.ref x), .val .null, .val (.ref b30), .val (.ref x)] [(.ref x), (.ref x)]))
      refine own_go (fun _ k => Jvm.RoadKit.acmp (g := (mkF m 212 #[.val (.int p1), .val (.int p2), .val (.int p3), .val (.int p4), .val (.ref b1), .val (.ref b4), .val (.ref b7), .val (.ref x), .val .null, .val (.ref b30), .val (.ref x)] [(.ref x), (.ref x)])) X38 hx rfl rfl rfl (pc0 := 212) (pc' := 215) (same := true) rfl (hb hby at_212) rfl (decide_eq_true rfl) (by decide) (by decide) k) ?_
      show own_Gl p.tables e below F (T38.setTop (mkF m 215 #[.val (.int p1), .val (.int p2), .val (.int p3), .val (.int p4), .val (.ref b1), .val (.ref b4), .val (.ref b7), .val (.ref x), .val .null, .val (.ref b30), .val (.ref x)] []))
      refine own_go (fun _ k => XS.iconst X38.here hx rfl (hb hby at_215) k) ?_
      show own_Gl p.tables e below F (T38.setTop (mkF m 216 #[.val (.int p1), .val (.int p2), .val (.int p3), .val (.int p4), .val (.ref b1), .val (.ref b4), .val (.ref b7), .val (.ref x), .val .null, .val (.ref b30), .val (.ref x)] [(.int (1 : Int32))]))
      refine own_go (fun _ k => XS.goto X38.here hx rfl (pc0 := 216) (pc' := 220) rfl (hb hby at_216) (by decide) (by decide) k) ?_
      show own_Gl p.tables e below F (T38.setTop (mkF m 220 #[.val (.int p1), .val (.int p2), .val (.int p3), .val (.int p4), .val (.ref b1), .val (.ref b4), .val (.ref b7), .val (.ref x), .val .null, .val (.ref b30), .val (.ref x)] [(.int (1 : Int32))]))
      obtain ⟨fs, hr, hrun, hended, hRW⟩ := Jvm.Stand.leaveW X38 hSJRN (by rw [e38]; exact hk35) (v := some (.int (1 : Int32))) (fun h => by rw [Bd.returns] at h; cases h)
      have CE : CHr Z own_EL s.vm s.heap T38.vm T38.heap := by rw [hh, e38]; exact CR35.trans (CHv.at X38 hZJRN hEL CR35.1)
      subst hF
      refine own_fin ?_ ⟨hrun, hended, _, _, rfl, ?_, CE, hRW.1, hRW.2.1, hRW.2.2.1, hRW.2.2.2.mono (by first | decide | exact Nat.le_of_ble_eq_true rfl) (by first | decide | exact Nat.le_of_ble_eq_true rfl)⟩
      · exact own_retN X38 hx (t := .boolean) Bd.returns (by simp) rfl (hb hby at_220) hr
      · show Q_rm0 Z _ _ _ _ _ h0 n0 _ T38.heap _
        rw [e38]
        exact ⟨rfl, NF38⟩
    show own_Gl p.tables e below F (TJR.setTop (mkF m 99 #[.val (.int p1), .val (.int p2), .val (.int p3), .val (.int p4), .val (.ref b1), .val (.ref b4), .val (.ref b7), .val (.ref x), .unset, .unset, .unset] [(.int (p3 &&& (2 : Int32)))]))
    have JRR : ∀ (TJRR : State) (lJRR : List Loc) (hJRR : Heap) (vJRR : Vm) (kJRR : Nat) (y : Addr) (XJRR : Stand p l e room_1 (s.setVm vJRR) m #[(.int p1), (.int p2), (.int p3), (.int p4)] below meth c TJRR lJRR 17 30) (eJRR : TJRR.heap = hJRR) (NJRR : Fr n0 lJRR) (ZJRR : n0 ≤ hJRR.size) (KJRR : Keep h0 hJRR []) (hZJRR : Z.Warmed39 (s.setVm vJRR).vm) (hoJRR : (s.setVm vJRR).vm.findClass "com/example/palimpsest/palimpsest/history/KeyHistoryDisorderPinLaw" = some m.cls) (hSJRR : s.Since vJRR kJRR) (hkJRR : kJRR ≤ hJRR.size) (CRJRR : CHr Z own_EL s.vm h0 vJRR hJRR) (sJRR_b1 : Safe Z own_EL vJRR hJRR b1) (sJRR_b4 : Safe Z own_EL vJRR hJRR b4) (sJRR_b7 : Safe Z own_EL vJRR hJRR b7) (fJRR_0 : Old Z n0 hJRR) (fJRR_1 : Arv Z hJRR b1 k1 .char (2 : Int32) [(.int (nar .char ((p1 &&& (255 : Int32)).toUInt32.toUInt16.toUInt32.toInt32))), (.int (nar .char (((XT.ushr p1 (8 : Int32)) &&& (255 : Int32)).toUInt32.toUInt16.toUInt32.toInt32)))] (.int (0 : Int32))) (fJRR_2 : Arv Z hJRR b4 k4 .char (2 : Int32) [(.int (nar .char ((p2 &&& (255 : Int32)).toUInt32.toUInt16.toUInt32.toInt32))), (.int (nar .char (((XT.ushr p2 (8 : Int32)) &&& (255 : Int32)).toUInt32.toUInt16.toUInt32.toInt32)))] (.int (0 : Int32))) (fJRR_3 : Arv Z hJRR b7 k7 .char (0 : Int32) [] (.int (0 : Int32))) , own_Gl p.tables e below F (TJRR.setTop (mkF m 134 #[.val (.int p1), .val (.int p2), .val (.int p3), .val (.int p4), .val (.ref b1), .val (.ref b4), .val (.ref b7), .val (.ref x), .unset, .unset, .unset] [(.ref y)])) := by
      intro TJRR lJRR hJRR vJRR kJRR y XJRR eJRR NJRR ZJRR KJRR hZJRR hoJRR hSJRR hkJRR CRJRR sJRR_b1 sJRR_b4 sJRR_b7 fJRR_0 fJRR_1 fJRR_2 fJRR_3
      show own_Gl p.tables e below F (TJRR.setTop (mkF m 134 #[.val (.int p1), .val (.int p2), .val (.int p3), .val (.int p4), .val (.ref b1), .val (.ref b4), .val (.ref b7), .val (.ref x), .unset, .unset, .unset] [(.ref y)]))
      refine own_go (fun _ k => XS.astore XJRR.here hx rfl (hb hby at_134) rfl rfl (l' := #[.val (.int p1), .val (.int p2), .val (.int p3), .val (.int p4), .val (.ref b1), .val (.ref b4), .val (.ref b7), .val (.ref x), .val (.ref y), .unset, .unset]) rfl k) ?_
      show own_Gl p.tables e below F (TJRR.setTop (mkF m 136 #[.val (.int p1), .val (.int p2), .val (.int p3), .val (.int p4), .val (.ref b1), .val (.ref b4), .val (.ref b7), .val (.ref x), .val (.ref y), .unset, .unset] []))
      obtain ⟨T39, h39, X39, e39, E39, A39, D39, -, st39⟩ := newO XJRR hx hZJRR hoJRR (hw _ (List.mem_of_getElem? (i := 30) rfl)) (hw _ (List.mem_of_getElem? (i := 31) rfl)) (hw _ (List.mem_of_getElem? (i := 32) rfl)) eJRR (g := (mkF m 136 #[.val (.int p1), .val (.int p2), .val (.int p3), .val (.int p4), .val (.ref b1), .val (.ref b4), .val (.ref b7), .val (.ref x), .val (.ref y), .unset, .unset] [])) rfl (hb hby at_136) (by first | decide | exact Nat.le_of_ble_eq_true rfl) (by first | decide | exact Nat.le_of_ble_eq_true rfl)
      obtain ⟨b39, g39⟩ : ∃ z, z = hJRR.size := ⟨_, rfl⟩
      rw [← g39] at A39 D39 st39
      have ne_b1_b39 : b1 ≠ b39 := Nat.ne_of_lt (Nat.lt_of_lt_of_le fJRR_1.lt (Nat.le_of_eq g39.symm))
      have ne_b4_b39 : b4 ≠ b39 := Nat.ne_of_lt (Nat.lt_of_lt_of_le fJRR_2.lt (Nat.le_of_eq g39.symm))
      have ne_b7_b39 : b7 ≠ b39 := Nat.ne_of_lt (Nat.lt_of_lt_of_le fJRR_3.lt (Nat.le_of_eq g39.symm))
      have ge_b39 : n0 ≤ b39 := Nat.le_trans ZJRR (Nat.le_of_eq g39.symm)
      have sz_b39 : h0.size ≤ b39 := Nat.le_trans (KJRR).1 (Nat.le_of_eq g39.symm)
      have sf_b39 := Safe.ext E39 CRJRR.1 (Safe.new (Z := Z) (EL := own_EL) (vm := vJRR) (Nat.le_of_eq g39.symm))
      have f39_0 := fJRR_0.ext E39
      have f39_1 := fJRR_1.ext E39
      have f39_2 := fJRR_2.ext E39
      have f39_3 := fJRR_3.ext E39
      have Z39 : n0 ≤ h39.size := Nat.le_trans ZJRR E39.1
      have K39 := Keep.ext KJRR E39
      have sf39_0 := Safe.ext E39 CRJRR.1 sJRR_b1
      have sf39_1 := Safe.ext E39 CRJRR.1 sJRR_b4
      have sf39_2 := Safe.ext E39 CRJRR.1 sJRR_b7
      have CR39 := CRJRR.trans (CHr.ext E39 CRJRR.1)
      have hk39 : kJRR ≤ h39.size := Nat.le_trans hkJRR E39.1
      have F39_appends : Fld Z h39 b39 "com/example/palimpsest/palimpsest/history/KeyHistory" "appends" "Ljava/util/Map;" .null := D39 (Or.inr (hw _ (List.mem_of_getElem? (i := 54) rfl))) (ty := (.object "java/util/Map")) (by decide)
      have F39_longest : Fld Z h39 b39 "com/example/palimpsest/palimpsest/history/KeyHistory" "longest" "[J" .null := D39 (Or.inl (hw _ (List.mem_of_getElem? (i := 57) rfl))) (ty := (.array .long)) (by decide)
      have F39_longestReader : Fld Z h39 b39 "com/example/palimpsest/palimpsest/history/KeyHistory" "longestReader" "I" (.int (0 : Int32)) := D39 (Or.inl (hw _ (List.mem_of_getElem? (i := 59) rfl))) (ty := .int) (by decide)
      have F39_name : Fld Z h39 b39 "com/example/palimpsest/palimpsest/history/KeyHistory" "name" "Ljava/lang/String;" .null := D39 (Or.inr (hw _ (List.mem_of_getElem? (i := 61) rfl))) (ty := (.object "java/lang/String")) (by decide)
      have F39_number : Fld Z h39 b39 "com/example/palimpsest/palimpsest/history/KeyHistory" "number" "I" (.int (0 : Int32)) := D39 (Or.inr (hw _ (List.mem_of_getElem? (i := 63) rfl))) (ty := .int) (by decide)
      have F39_disorder : Fld Z h39 b39 "com/example/palimpsest/palimpsest/history/KeyHistory" "disorder" "Ljava/lang/String;" .null := D39 (Or.inl (hw _ (List.mem_of_getElem? (i := 70) rfl))) (ty := (.object "java/lang/String")) (by decide)
      have X39 : Stand _ _ _ _ _ _ _ _ _ _ _ _ 18 40 := X39
      refine own_go st39 ?_
      show own_Gl p.tables e below F (T39.setTop (mkF m 139 #[.val (.int p1), .val (.int p2), .val (.int p3), .val (.int p4), .val (.ref b1), .val (.ref b4), .val (.ref b7), .val (.ref x), .val (.ref y), .unset, .unset] [(.ref b39)]))
      refine own_go (fun _ k => XS.dup X39.here hx rfl (hb hby at_139) rfl rfl k) ?_
      show own_Gl p.tables e below F (T39.setTop (mkF m 140 #[.val (.int p1), .val (.int p2), .val (.int p3), .val (.int p4), .val (.ref b1), .val (.ref b4), .val (.ref b7), .val (.ref x), .val (.ref y), .unset, .unset] [(.ref b39), (.ref b39)]))
      obtain ⟨T40, h40, X40, e40, E40, A40, D40, -, st40⟩ := newO X39 hx hZJRR hoJRR (hw _ (List.mem_of_getElem? (i := 1) rfl)) (hw _ (List.mem_of_getElem? (i := 2) rfl)) (hw _ (List.mem_of_getElem? (i := 3) rfl)) e39 (g := (mkF m 140 #[.val (.int p1), .val (.int p2), .val (.int p3), .val (.int p4), .val (.ref b1), .val (.ref b4), .val (.ref b7), .val (.ref x), .val (.ref y), .unset, .unset] [(.ref b39), (.ref b39)])) rfl (hb hby at_140) (by first | decide | exact Nat.le_of_ble_eq_true rfl) (by first | decide | exact Nat.le_of_ble_eq_true rfl)
      obtain ⟨b40, g40⟩ : ∃ z, z = h39.size := ⟨_, rfl⟩
      rw [← g40] at A40 D40 st40
      have ne_b1_b40 : b1 ≠ b40 := Nat.ne_of_lt (Nat.lt_of_lt_of_le f39_1.lt (Nat.le_of_eq g40.symm))
      have ne_b4_b40 : b4 ≠ b40 := Nat.ne_of_lt (Nat.lt_of_lt_of_le f39_2.lt (Nat.le_of_eq g40.symm))
      have ne_b7_b40 : b7 ≠ b40 := Nat.ne_of_lt (Nat.lt_of_lt_of_le f39_3.lt (Nat.le_of_eq g40.symm))
      have ne_b39_b40 : b39 ≠ b40 := Nat.ne_of_lt (Nat.lt_of_lt_of_le A39.lt (Nat.le_of_eq g40.symm))
      have ge_b40 : n0 ≤ b40 := Nat.le_trans Z39 (Nat.le_of_eq g40.symm)
      have sz_b40 : h0.size ≤ b40 := Nat.le_trans (K39).1 (Nat.le_of_eq g40.symm)
      have sf_b40 := Safe.ext E40 CR39.1 (Safe.new (Z := Z) (EL := own_EL) (vm := vJRR) (Nat.le_of_eq g40.symm))
      have f40_0 := f39_0.ext E40
      have f40_1 := f39_1.ext E40
      have f40_2 := f39_2.ext E40
      have f40_3 := f39_3.ext E40
      have f40_4 := A39.ext E40
      have f40_5 := F39_appends.ext E40
      have f40_6 := F39_longest.ext E40
      have f40_7 := F39_longestReader.ext E40
      have f40_8 := F39_name.ext E40
      have f40_9 := F39_number.ext E40
      have f40_10 := F39_disorder.ext E40
      have Z40 : n0 ≤ h40.size := Nat.le_trans Z39 E40.1
      have K40 := Keep.ext K39 E40
      have sf40_0 := Safe.ext E40 CR39.1 sf39_0
      have sf40_1 := Safe.ext E40 CR39.1 sf39_1
      have sf40_2 := Safe.ext E40 CR39.1 sf39_2
      have sf40_3 := Safe.ext E40 CR39.1 sf_b39
      have CR40 := CR39.trans (CHr.ext E40 CR39.1)
      have hk40 : kJRR ≤ h40.size := Nat.le_trans hk39 E40.1
      have F40_coder : Fld Z h40 b40 "java/lang/String" "coder" "B" (.int (0 : Int32)) := D40 (Or.inr (hw _ (List.mem_of_getElem? (i := 27) rfl))) (ty := .byte) (by decide)
      have F40_value : Fld Z h40 b40 "java/lang/String" "value" "[B" .null := D40 (Or.inr (hw _ (List.mem_of_getElem? (i := 29) rfl))) (ty := (.array .byte)) (by decide)
      have X40 : Stand _ _ _ _ _ _ _ _ _ _ _ _ 19 44 := X40
      refine own_go st40 ?_
      show own_Gl p.tables e below F (T40.setTop (mkF m 143 #[.val (.int p1), .val (.int p2), .val (.int p3), .val (.int p4), .val (.ref b1), .val (.ref b4), .val (.ref b7), .val (.ref x), .val (.ref y), .unset, .unset] [(.ref b40), (.ref b39), (.ref b39)]))
      refine own_go (fun _ k => XS.dup X40.here hx rfl (hb hby at_143) rfl rfl k) ?_
      show own_Gl p.tables e below F (T40.setTop (mkF m 144 #[.val (.int p1), .val (.int p2), .val (.int p3), .val (.int p4), .val (.ref b1), .val (.ref b4), .val (.ref b7), .val (.ref x), .val (.ref y), .unset, .unset] [(.ref b40), (.ref b40), (.ref b39), (.ref b39)]))
      refine own_go (fun _ k => XS.aload X40.here hx rfl (hb hby at_144) rfl rfl k) ?_
      show own_Gl p.tables e below F (T40.setTop (mkF m 146 #[.val (.int p1), .val (.int p2), .val (.int p3), .val (.int p4), .val (.ref b1), .val (.ref b4), .val (.ref b7), .val (.ref x), .val (.ref y), .unset, .unset] [(.ref b1), (.ref b40), (.ref b40), (.ref b39), (.ref b39)]))
      obtain ⟨_, _, ⟨T41, L41, k41, n41⟩, -, X41, ⟨Lc41, hQ41, l41, y41, z41⟩, st41⟩ := X40.specialBack hx (y := (⟨"java/lang/String", "<init>", "([C)V"⟩ : MethodName)) rfl hoJRR (mvT hZJRR (hw _ (List.mem_of_getElem? (i := 4) rfl))) (mvT hZJRR (hw _ (List.mem_of_getElem? (i := 5) rfl))) (mvT hZJRR (hw _ (List.mem_of_getElem? (i := 6) rfl))) (by decide) (StrChars.Road.backV (W := 3) hZJRR hws (kI := 4) (hw _ (List.mem_of_getElem? (i := 2) rfl)) (cs := ([(nar .char ((p1 &&& (255 : Int32)).toUInt32.toUInt16.toUInt32.toInt32)), (nar .char (((XT.ushr p1 (8 : Int32)) &&& (255 : Int32)).toUInt32.toUInt16.toUInt32.toInt32))] : List Int32)) (bs := ([(nar .char ((p1 &&& (255 : Int32)).toUInt32.toUInt16.toUInt32.toInt32)), (nar .char (((XT.ushr p1 (8 : Int32)) &&& (255 : Int32)).toUInt32.toUInt16.toUInt32.toInt32))] : List Int32).map (fun c => c.toInt8.toInt32)) (n := 2) ge_b40 Z40 A40 F40_value F40_coder f40_1 (O2.ext f40_0.2) P5 rfl rfl (by decide) (by decide) hpa rfl (by decide) (by decide)) (g := (mkF m 146 #[.val (.int p1), .val (.int p2), .val (.int p3), .val (.int p4), .val (.ref b1), .val (.ref b4), .val (.ref b7), .val (.ref x), .val (.ref y), .unset, .unset] [(.ref b1), (.ref b40), (.ref b40), (.ref b39), (.ref b39)])) rfl (by rw [hml]; rfl) (Steps.refl _) (a := b40) (argsL := [(.ref b1)]) (rest := [(.ref b40), (.ref b39), (.ref b39)]) (lenOf pd_2 rfl) rfl (by show 2 * 0 + _ ≤ _; exact Nat.le_of_eq rfl) (hb hby at_146) (fun _ _ => ⟨rfl, e40, (by first | decide | exact Nat.le_of_ble_eq_true rfl), (by first | decide | exact Nat.le_of_ble_eq_true rfl)⟩)
      dsimp only [Pt.U, Pt.locs, Pt.cells, Pt.slots] at X41 l41 y41 z41 st41 hQ41
      have X41 := own_sn X41 (k' := 20) (n' := 46) y41 z41
      obtain ⟨hv41, N41, K41, GE41, -, -⟩ := hQ41
      rw [hv41] at st41
      have NF41 := own_fr l41 NJRR N41
      have sf41_0 := Safe.keep K41 (sfS sf_b40 sf0) CR40.1 sf40_0
      have sf41_1 := Safe.keep K41 (sfS sf_b40 sf0) CR40.1 sf40_1
      have sf41_2 := Safe.keep K41 (sfS sf_b40 sf0) CR40.1 sf40_2
      have sf41_3 := Safe.keep K41 (sfS sf_b40 sf0) CR40.1 sf40_3
      have sf41_4 := Safe.keep K41 (sfS sf_b40 sf0) CR40.1 sf_b40
      have CR41 := CR40.trans (CHr.keep K41 (sfS sf_b40 sf0) CR40.1)
      have hk41 : kJRR ≤ T41.heap.size := Nat.le_trans hk40 K41.1
      have f41_1 := f40_0.keep K41 (allS ge_b40 (all0))
      have f41_2 := f40_1.keep K41 (ninS ne_b1_b40 nin0)
      have f41_3 := f40_2.keep K41 (ninS ne_b4_b40 nin0)
      have f41_4 := f40_3.keep K41 (ninS ne_b7_b40 nin0)
      have f41_5 := f40_4.keep K41
      have f41_6 := f40_5.keep K41 (ninS ne_b39_b40 nin0)
      have f41_7 := f40_6.keep K41 (ninS ne_b39_b40 nin0)
      have f41_8 := f40_7.keep K41 (ninS ne_b39_b40 nin0)
      have f41_9 := f40_8.keep K41 (ninS ne_b39_b40 nin0)
      have f41_10 := f40_9.keep K41 (ninS ne_b39_b40 nin0)
      have f41_11 := f40_10.keep K41 (ninS ne_b39_b40 nin0)
      have f41_12 := A40.keep K41
      have Z41 : n0 ≤ T41.heap.size := Nat.le_trans Z40 K41.1
      have KK41 := Keep.trans K40 K41 (by intro z hz; simp at hz; rcases hz with rfl; all_goals first | (left; simp; done) | (right; assumption))
      refine own_go (fun _ k => st41.trans k) ?_
      show own_Gl p.tables e below F (T41.setTop (mkF m 149 #[.val (.int p1), .val (.int p2), .val (.int p3), .val (.int p4), .val (.ref b1), .val (.ref b4), .val (.ref b7), .val (.ref x), .val (.ref y), .unset, .unset] [(.ref b40), (.ref b39), (.ref b39)]))
      refine own_go (fun _ k => XS.iloadN X41.here hx rfl (hb hby at_149) rfl k) ?_
      show own_Gl p.tables e below F (T41.setTop (mkF m 150 #[.val (.int p1), .val (.int p2), .val (.int p3), .val (.int p4), .val (.ref b1), .val (.ref b4), .val (.ref b7), .val (.ref x), .val (.ref y), .unset, .unset] [(.int p4), (.ref b40), (.ref b39), (.ref b39)]))
      obtain ⟨_, _, ⟨T42, L42, k42, n42⟩, -, X42, ⟨Lc42, hQ42, l42, y42, z42⟩, st42⟩ := X41.specialBack hx (y := (⟨"com/example/palimpsest/palimpsest/history/KeyHistory", "<init>", "(Ljava/lang/String;I)V"⟩ : MethodName)) rfl hoJRR (mvT hZJRR (hw _ (List.mem_of_getElem? (i := 33) rfl))) (mvT hZJRR (hw _ (List.mem_of_getElem? (i := 34) rfl))) (mvT hZJRR (hw _ (List.mem_of_getElem? (i := 35) rfl))) (by decide) (backOf (W := 1) (rm7 l Z a0 hw [] b39 b40 p4  T41.heap n0 Z41 f41_5 f41_6 f41_7 f41_8 f41_9 f41_10 f41_11 ge_b39) hZJRR (hw _ (List.mem_of_getElem? (i := 35) rfl)) (hw _ (List.mem_of_getElem? (i := 32) rfl)) (by decide) (by decide)) (g := (mkF m 150 #[.val (.int p1), .val (.int p2), .val (.int p3), .val (.int p4), .val (.ref b1), .val (.ref b4), .val (.ref b7), .val (.ref x), .val (.ref y), .unset, .unset] [(.int p4), (.ref b40), (.ref b39), (.ref b39)])) rfl (by rw [hml]; rfl) (Steps.refl _) (a := b39) (argsL := [(.ref b40), (.int p4)]) (rest := [(.ref b39)]) (lenOf pd_3 rfl) rfl (by show 2 * 0 + _ ≤ _; exact Nat.le_of_eq rfl) (hb hby at_150) (fun _ _ => ⟨rfl, rfl, (by first | decide | exact Nat.le_of_ble_eq_true rfl), (by first | decide | exact Nat.le_of_ble_eq_true rfl)⟩)
      dsimp only [Pt.U, Pt.locs, Pt.cells, Pt.slots] at X42 l42 y42 z42 st42 hQ42
      have X42 := own_sn X42 (k' := 22) (n' := 62) y42 z42
      obtain ⟨hv42, N42, K42, GE42, GF42⟩ := hQ42
      rw [hv42] at st42
      have NF42 := own_fr l42 NF41 N42
      have sf42_0 := Safe.keep K42 (sfS sf41_3 sf0) CR41.1 sf41_0
      have sf42_1 := Safe.keep K42 (sfS sf41_3 sf0) CR41.1 sf41_1
      have sf42_2 := Safe.keep K42 (sfS sf41_3 sf0) CR41.1 sf41_2
      have sf42_3 := Safe.keep K42 (sfS sf41_3 sf0) CR41.1 sf41_3
      have sf42_4 := Safe.keep K42 (sfS sf41_3 sf0) CR41.1 sf41_4
      have CR42 := CR41.trans (CHr.keep K42 (sfS sf41_3 sf0) CR41.1)
      have hk42 : kJRR ≤ T42.heap.size := Nat.le_trans hk41 K42.1
      have f42_1 := f41_1.keep K42 (allS ge_b39 (all0))
      have f42_2 := f41_2.keep K42 (ninS ne_b1_b39 nin0)
      have f42_3 := f41_3.keep K42 (ninS ne_b4_b39 nin0)
      have f42_4 := f41_4.keep K42 (ninS ne_b7_b39 nin0)
      have f42_5 := f41_5.keep K42
      have f42_12 := f41_12.keep K42
      have Z42 : n0 ≤ T42.heap.size := Nat.le_trans Z41 K42.1
      have KK42 := Keep.trans KK41 K42 (by intro z hz; simp at hz; rcases hz with rfl; all_goals first | (left; simp; done) | (right; assumption))
      refine own_go (fun _ k => st42.trans k) ?_
      show own_Gl p.tables e below F (T42.setTop (mkF m 153 #[.val (.int p1), .val (.int p2), .val (.int p3), .val (.int p4), .val (.ref b1), .val (.ref b4), .val (.ref b7), .val (.ref x), .val (.ref y), .unset, .unset] [(.ref b39)]))
      refine own_go (fun _ k => XS.astore X42.here hx rfl (hb hby at_153) rfl rfl (l' := #[.val (.int p1), .val (.int p2), .val (.int p3), .val (.int p4), .val (.ref b1), .val (.ref b4), .val (.ref b7), .val (.ref x), .val (.ref y), .val (.ref b39), .unset]) rfl k) ?_
      show own_Gl p.tables e below F (T42.setTop (mkF m 155 #[.val (.int p1), .val (.int p2), .val (.int p3), .val (.int p4), .val (.ref b1), .val (.ref b4), .val (.ref b7), .val (.ref x), .val (.ref y), .val (.ref b39), .unset] []))
      refine own_go (fun _ k => XS.aload X42.here hx rfl (hb hby at_155) rfl rfl k) ?_
      show own_Gl p.tables e below F (T42.setTop (mkF m 157 #[.val (.int p1), .val (.int p2), .val (.int p3), .val (.int p4), .val (.ref b1), .val (.ref b4), .val (.ref b7), .val (.ref x), .val (.ref y), .val (.ref b39), .unset] [(.ref b39)]))
      obtain ⟨cq43, kq43, q43a, q43b, q43c⟩ := isOf hZJRR rfl GE42
      obtain ⟨_, _, ⟨T43, L43, k43, n43⟩, -, X43, ⟨Lc43, hQ43, l43, y43, z43⟩, st43⟩ := X42.virtualBack hx (y := (⟨"com/example/palimpsest/palimpsest/history/KeyHistory", "disorder", "()Ljava/lang/String;"⟩ : MethodName)) (z := (⟨"com/example/palimpsest/palimpsest/history/KeyHistory", "disorder", "()Ljava/lang/String;"⟩ : MethodName)) hoJRR (mvT hZJRR (hw _ (List.mem_of_getElem? (i := 64) rfl))) (mvT hZJRR (hw _ (List.mem_of_getElem? (i := 65) rfl))) (notFace_of_selects (args := #[]) (mvT hZJRR (hw _ (List.mem_of_getElem? (i := 67) rfl)))) (mvT hZJRR (hw _ (List.mem_of_getElem? (i := 67) rfl))) (mvT hZJRR (hw _ (List.mem_of_getElem? (i := 66) rfl))) (by decide) (backOf (W := 0) (rm10 l Z a0 hw [] b39 .null T42.heap n0 Z42 rfl GF42) hZJRR (hw _ (List.mem_of_getElem? (i := 68) rfl)) (hw _ (List.mem_of_getElem? (i := 32) rfl)) (by decide) (by decide)) q43a q43c (g := (mkF m 157 #[.val (.int p1), .val (.int p2), .val (.int p3), .val (.int p4), .val (.ref b1), .val (.ref b4), .val (.ref b7), .val (.ref x), .val (.ref y), .val (.ref b39), .unset] [(.ref b39)])) rfl (by rw [hml]; rfl) (Steps.refl _) (argsL := []) (rest := []) (lenOf pd_4 rfl) rfl (by show 2 * 0 + _ ≤ _; exact Nat.le_of_eq rfl) (hb hby at_157) (fun _ _ => ⟨rfl, rfl, (by first | decide | exact Nat.le_of_ble_eq_true rfl), (by first | decide | exact Nat.le_of_ble_eq_true rfl)⟩)
      dsimp only [Pt.U, Pt.locs, Pt.cells, Pt.slots] at X43 l43 y43 z43 st43 hQ43
      have X43 := own_sn X43 (k' := 22) (n' := 62) y43 z43
      obtain ⟨hv43, N43, e43⟩ := hQ43
      rw [hv43] at st43
      have NF43 := own_fr l43 NF42 N43
      refine own_go (fun _ k => st43.trans k) ?_
      show own_Gl p.tables e below F (T43.setTop (mkF m 160 #[.val (.int p1), .val (.int p2), .val (.int p3), .val (.int p4), .val (.ref b1), .val (.ref b4), .val (.ref b7), .val (.ref x), .val (.ref y), .val (.ref b39), .unset] [.null]))
      refine own_go (fun _ k => XS.ifnullYes X43.here hx rfl (pc0 := 160) (pc' := 165) rfl (hb hby at_160) rfl (by decide) (by decide) k) ?_
      show own_Gl p.tables e below F (T43.setTop (mkF m 165 #[.val (.int p1), .val (.int p2), .val (.int p3), .val (.int p4), .val (.ref b1), .val (.ref b4), .val (.ref b7), .val (.ref x), .val (.ref y), .val (.ref b39), .unset] []))
      refine own_go (fun _ k => XS.aload X43.here hx rfl (hb hby at_165) rfl rfl k) ?_
      show own_Gl p.tables e below F (T43.setTop (mkF m 167 #[.val (.int p1), .val (.int p2), .val (.int p3), .val (.int p4), .val (.ref b1), .val (.ref b4), .val (.ref b7), .val (.ref x), .val (.ref y), .val (.ref b39), .unset] [(.ref b39)]))
      refine own_go (fun _ k => XS.aload X43.here hx rfl (hb hby at_167) rfl rfl k) ?_
      show own_Gl p.tables e below F (T43.setTop (mkF m 169 #[.val (.int p1), .val (.int p2), .val (.int p3), .val (.int p4), .val (.ref b1), .val (.ref b4), .val (.ref b7), .val (.ref x), .val (.ref y), .val (.ref b39), .unset] [(.ref x), (.ref b39)]))
      obtain ⟨cq44, kq44, q44a, q44b, q44c⟩ := isOf hZJRR e43 GE42
      obtain ⟨_, _, ⟨T44, L44, k44, n44⟩, -, X44, ⟨Lc44, hQ44, l44, y44, z44⟩, st44⟩ := X43.virtualBack hx (y := (⟨"com/example/palimpsest/palimpsest/history/KeyHistory", "disorder", "(Ljava/lang/String;)V"⟩ : MethodName)) (z := (⟨"com/example/palimpsest/palimpsest/history/KeyHistory", "disorder", "(Ljava/lang/String;)V"⟩ : MethodName)) hoJRR (mvT hZJRR (hw _ (List.mem_of_getElem? (i := 71) rfl))) (mvT hZJRR (hw _ (List.mem_of_getElem? (i := 72) rfl))) (notFace_of_selects (args := #[]) (mvT hZJRR (hw _ (List.mem_of_getElem? (i := 74) rfl)))) (mvT hZJRR (hw _ (List.mem_of_getElem? (i := 74) rfl))) (mvT hZJRR (hw _ (List.mem_of_getElem? (i := 73) rfl))) (by decide) (backOf (W := 0) (rm11_NR l Z a0 hw [] b39 x  T42.heap n0 Z42 GE42 GF42 ge_b39) hZJRR (hw _ (List.mem_of_getElem? (i := 75) rfl)) (hw _ (List.mem_of_getElem? (i := 32) rfl)) (by decide) (by decide)) q44a q44c (g := (mkF m 169 #[.val (.int p1), .val (.int p2), .val (.int p3), .val (.int p4), .val (.ref b1), .val (.ref b4), .val (.ref b7), .val (.ref x), .val (.ref y), .val (.ref b39), .unset] [(.ref x), (.ref b39)])) rfl (by rw [hml]; rfl) (Steps.refl _) (argsL := [(.ref x)]) (rest := []) (lenOf pd_5 rfl) rfl (by show 2 * 0 + _ ≤ _; exact Nat.le_of_eq rfl) (hb hby at_169) (fun _ _ => ⟨rfl, e43, (by first | decide | exact Nat.le_of_ble_eq_true rfl), (by first | decide | exact Nat.le_of_ble_eq_true rfl)⟩)
      dsimp only [Pt.U, Pt.locs, Pt.cells, Pt.slots] at X44 l44 y44 z44 st44 hQ44
      have X44 := own_sn X44 (k' := 22) (n' := 62) y44 z44
      obtain ⟨hv44, N44, K44, GE44, GF44⟩ := hQ44
      rw [hv44] at st44
      have NF44 := own_fr l44 NF43 N44
      have sf44_0 := Safe.keep K44 (sfS sf42_3 sf0) CR42.1 sf42_0
      have sf44_1 := Safe.keep K44 (sfS sf42_3 sf0) CR42.1 sf42_1
      have sf44_2 := Safe.keep K44 (sfS sf42_3 sf0) CR42.1 sf42_2
      have sf44_3 := Safe.keep K44 (sfS sf42_3 sf0) CR42.1 sf42_3
      have sf44_4 := Safe.keep K44 (sfS sf42_3 sf0) CR42.1 sf42_4
      have CR44 := CR42.trans (CHr.keep K44 (sfS sf42_3 sf0) CR42.1)
      have hk44 : kJRR ≤ T44.heap.size := Nat.le_trans hk42 K44.1
      have f44_1 := f42_1.keep K44 (allS ge_b39 (all0))
      have f44_2 := f42_2.keep K44 (ninS ne_b1_b39 nin0)
      have f44_3 := f42_3.keep K44 (ninS ne_b4_b39 nin0)
      have f44_4 := f42_4.keep K44 (ninS ne_b7_b39 nin0)
      have f44_5 := GE42.keep K44
      have f44_6 := f42_12.keep K44
      have Z44 : n0 ≤ T44.heap.size := Nat.le_trans Z42 K44.1
      have KK44 := Keep.trans KK42 K44 (by intro z hz; simp at hz; rcases hz with rfl; all_goals first | (left; simp; done) | (right; assumption))
      refine own_go (fun _ k => st44.trans k) ?_
      show own_Gl p.tables e below F (T44.setTop (mkF m 172 #[.val (.int p1), .val (.int p2), .val (.int p3), .val (.int p4), .val (.ref b1), .val (.ref b4), .val (.ref b7), .val (.ref x), .val (.ref y), .val (.ref b39), .unset] []))
      refine own_go (fun _ k => XS.aload X44.here hx rfl (hb hby at_172) rfl rfl k) ?_
      show own_Gl p.tables e below F (T44.setTop (mkF m 174 #[.val (.int p1), .val (.int p2), .val (.int p3), .val (.int p4), .val (.ref b1), .val (.ref b4), .val (.ref b7), .val (.ref x), .val (.ref y), .val (.ref b39), .unset] [(.ref b39)]))
      obtain ⟨cq45, kq45, q45a, q45b, q45c⟩ := isOf hZJRR rfl GE44
      obtain ⟨_, _, ⟨T45, L45, k45, n45⟩, -, X45, ⟨Lc45, hQ45, l45, y45, z45⟩, st45⟩ := X44.virtualBack hx (y := (⟨"com/example/palimpsest/palimpsest/history/KeyHistory", "disorder", "()Ljava/lang/String;"⟩ : MethodName)) (z := (⟨"com/example/palimpsest/palimpsest/history/KeyHistory", "disorder", "()Ljava/lang/String;"⟩ : MethodName)) hoJRR (mvT hZJRR (hw _ (List.mem_of_getElem? (i := 64) rfl))) (mvT hZJRR (hw _ (List.mem_of_getElem? (i := 65) rfl))) (notFace_of_selects (args := #[]) (mvT hZJRR (hw _ (List.mem_of_getElem? (i := 67) rfl)))) (mvT hZJRR (hw _ (List.mem_of_getElem? (i := 67) rfl))) (mvT hZJRR (hw _ (List.mem_of_getElem? (i := 66) rfl))) (by decide) (backOf (W := 0) (rm10 l Z a0 hw [] b39 (.ref x) T44.heap n0 Z44 rfl GF44) hZJRR (hw _ (List.mem_of_getElem? (i := 68) rfl)) (hw _ (List.mem_of_getElem? (i := 32) rfl)) (by decide) (by decide)) q45a q45c (g := (mkF m 174 #[.val (.int p1), .val (.int p2), .val (.int p3), .val (.int p4), .val (.ref b1), .val (.ref b4), .val (.ref b7), .val (.ref x), .val (.ref y), .val (.ref b39), .unset] [(.ref b39)])) rfl (by rw [hml]; rfl) (Steps.refl _) (argsL := []) (rest := []) (lenOf pd_4 rfl) rfl (by show 2 * 0 + _ ≤ _; exact Nat.le_of_eq rfl) (hb hby at_174) (fun _ _ => ⟨rfl, rfl, (by first | decide | exact Nat.le_of_ble_eq_true rfl), (by first | decide | exact Nat.le_of_ble_eq_true rfl)⟩)
      dsimp only [Pt.U, Pt.locs, Pt.cells, Pt.slots] at X45 l45 y45 z45 st45 hQ45
      have X45 := own_sn X45 (k' := 22) (n' := 62) y45 z45
      obtain ⟨hv45, N45, e45⟩ := hQ45
      rw [hv45] at st45
      have NF45 := own_fr l45 NF44 N45
      refine own_go (fun _ k => st45.trans k) ?_
      show own_Gl p.tables e below F (T45.setTop (mkF m 177 #[.val (.int p1), .val (.int p2), .val (.int p3), .val (.int p4), .val (.ref b1), .val (.ref b4), .val (.ref b7), .val (.ref x), .val (.ref y), .val (.ref b39), .unset] [(.ref x)]))
      refine own_go (fun _ k => XS.aload X45.here hx rfl (hb hby at_177) rfl rfl k) ?_
      show own_Gl p.tables e below F (T45.setTop (mkF m 179 #[.val (.int p1), .val (.int p2), .val (.int p3), .val (.int p4), .val (.ref b1), .val (.ref b4), .val (.ref b7), .val (.ref x), .val (.ref y), .val (.ref b39), .unset] [(.ref x), (.ref x)]))
      refine own_go (fun _ k => Jvm.RoadKit.acmp (g := (mkF m 179 #[.val (.int p1), .val (.int p2), .val (.int p3), .val (.int p4), .val (.ref b1), .val (.ref b4), .val (.ref b7), .val (.ref x), .val (.ref y), .val (.ref b39), .unset] [(.ref x), (.ref x)])) X45 hx rfl rfl rfl (pc0 := 179) (pc' := 184) (same := true) rfl (hb hby at_179) rfl (decide_eq_true rfl) (by decide) (by decide) k) ?_
      show own_Gl p.tables e below F (T45.setTop (mkF m 184 #[.val (.int p1), .val (.int p2), .val (.int p3), .val (.int p4), .val (.ref b1), .val (.ref b4), .val (.ref b7), .val (.ref x), .val (.ref y), .val (.ref b39), .unset] []))
      refine own_go (fun _ k => XS.aload X45.here hx rfl (hb hby at_184) rfl rfl k) ?_
      show own_Gl p.tables e below F (T45.setTop (mkF m 186 #[.val (.int p1), .val (.int p2), .val (.int p3), .val (.int p4), .val (.ref b1), .val (.ref b4), .val (.ref b7), .val (.ref x), .val (.ref y), .val (.ref b39), .unset] [(.ref b39)]))
      refine own_go (fun _ k => XS.aload X45.here hx rfl (hb hby at_186) rfl rfl k) ?_
      show own_Gl p.tables e below F (T45.setTop (mkF m 188 #[.val (.int p1), .val (.int p2), .val (.int p3), .val (.int p4), .val (.ref b1), .val (.ref b4), .val (.ref b7), .val (.ref x), .val (.ref y), .val (.ref b39), .unset] [(.ref y), (.ref b39)]))
      obtain ⟨cq46, kq46, q46a, q46b, q46c⟩ := isOf hZJRR e45 GE44
      obtain ⟨_, _, ⟨T46, L46, k46, n46⟩, -, X46, ⟨Lc46, hQ46, l46, y46, z46⟩, st46⟩ := X45.virtualBack hx (y := (⟨"com/example/palimpsest/palimpsest/history/KeyHistory", "disorder", "(Ljava/lang/String;)V"⟩ : MethodName)) (z := (⟨"com/example/palimpsest/palimpsest/history/KeyHistory", "disorder", "(Ljava/lang/String;)V"⟩ : MethodName)) hoJRR (mvT hZJRR (hw _ (List.mem_of_getElem? (i := 71) rfl))) (mvT hZJRR (hw _ (List.mem_of_getElem? (i := 72) rfl))) (notFace_of_selects (args := #[]) (mvT hZJRR (hw _ (List.mem_of_getElem? (i := 74) rfl)))) (mvT hZJRR (hw _ (List.mem_of_getElem? (i := 74) rfl))) (mvT hZJRR (hw _ (List.mem_of_getElem? (i := 73) rfl))) (by decide) (backOf (W := 0) (rm11_RR l Z a0 hw [] b39 y x  T44.heap n0 Z44 GE44 GF44 ge_b39) hZJRR (hw _ (List.mem_of_getElem? (i := 75) rfl)) (hw _ (List.mem_of_getElem? (i := 32) rfl)) (by decide) (by decide)) q46a q46c (g := (mkF m 188 #[.val (.int p1), .val (.int p2), .val (.int p3), .val (.int p4), .val (.ref b1), .val (.ref b4), .val (.ref b7), .val (.ref x), .val (.ref y), .val (.ref b39), .unset] [(.ref y), (.ref b39)])) rfl (by rw [hml]; rfl) (Steps.refl _) (argsL := [(.ref y)]) (rest := []) (lenOf pd_5 rfl) rfl (by show 2 * 0 + _ ≤ _; exact Nat.le_of_eq rfl) (hb hby at_188) (fun _ _ => ⟨rfl, e45, (by first | decide | exact Nat.le_of_ble_eq_true rfl), (by first | decide | exact Nat.le_of_ble_eq_true rfl)⟩)
      dsimp only [Pt.U, Pt.locs, Pt.cells, Pt.slots] at X46 l46 y46 z46 st46 hQ46
      have X46 := own_sn X46 (k' := 22) (n' := 62) y46 z46
      obtain ⟨hv46, N46, e46⟩ := hQ46
      rw [hv46] at st46
      have NF46 := own_fr l46 NF45 N46
      refine own_go (fun _ k => st46.trans k) ?_
      show own_Gl p.tables e below F (T46.setTop (mkF m 191 #[.val (.int p1), .val (.int p2), .val (.int p3), .val (.int p4), .val (.ref b1), .val (.ref b4), .val (.ref b7), .val (.ref x), .val (.ref y), .val (.ref b39), .unset] []))
      refine own_go (fun _ k => XS.aload X46.here hx rfl (hb hby at_191) rfl rfl k) ?_
      show own_Gl p.tables e below F (T46.setTop (mkF m 193 #[.val (.int p1), .val (.int p2), .val (.int p3), .val (.int p4), .val (.ref b1), .val (.ref b4), .val (.ref b7), .val (.ref x), .val (.ref y), .val (.ref b39), .unset] [(.ref x)]))
      refine own_go (fun _ k => XS.ifnullNo X46.here hx rfl (hb hby at_193) rfl k) ?_
      show own_Gl p.tables e below F (T46.setTop (mkF m 196 #[.val (.int p1), .val (.int p2), .val (.int p3), .val (.int p4), .val (.ref b1), .val (.ref b4), .val (.ref b7), .val (.ref x), .val (.ref y), .val (.ref b39), .unset] []))
      refine own_go (fun _ k => XS.aload X46.here hx rfl (hb hby at_196) rfl rfl k) ?_
      show own_Gl p.tables e below F (T46.setTop (mkF m 198 #[.val (.int p1), .val (.int p2), .val (.int p3), .val (.int p4), .val (.ref b1), .val (.ref b4), .val (.ref b7), .val (.ref x), .val (.ref y), .val (.ref b39), .unset] [(.ref x)]))
      refine own_go (fun _ k => XS.goto X46.here hx rfl (pc0 := 198) (pc' := 203) rfl (hb hby at_198) (by decide) (by decide) k) ?_
      show own_Gl p.tables e below F (T46.setTop (mkF m 203 #[.val (.int p1), .val (.int p2), .val (.int p3), .val (.int p4), .val (.ref b1), .val (.ref b4), .val (.ref b7), .val (.ref x), .val (.ref y), .val (.ref b39), .unset] [(.ref x)]))
      refine own_go (fun _ k => XS.astore X46.here hx rfl (hb hby at_203) rfl rfl (l' := #[.val (.int p1), .val (.int p2), .val (.int p3), .val (.int p4), .val (.ref b1), .val (.ref b4), .val (.ref b7), .val (.ref x), .val (.ref y), .val (.ref b39), .val (.ref x)]) rfl k) ?_
      show own_Gl p.tables e below F (T46.setTop (mkF m 205 #[.val (.int p1), .val (.int p2), .val (.int p3), .val (.int p4), .val (.ref b1), .val (.ref b4), .val (.ref b7), .val (.ref x), .val (.ref y), .val (.ref b39), .val (.ref x)] []))
      refine own_go (fun _ k => XS.aload X46.here hx rfl (hb hby at_205) rfl rfl k) ?_
      show own_Gl p.tables e below F (T46.setTop (mkF m 207 #[.val (.int p1), .val (.int p2), .val (.int p3), .val (.int p4), .val (.ref b1), .val (.ref b4), .val (.ref b7), .val (.ref x), .val (.ref y), .val (.ref b39), .val (.ref x)] [(.ref b39)]))
      obtain ⟨cq47, kq47, q47a, q47b, q47c⟩ := isOf hZJRR e46 GE44
      obtain ⟨_, _, ⟨T47, L47, k47, n47⟩, -, X47, ⟨Lc47, hQ47, l47, y47, z47⟩, st47⟩ := X46.virtualBack hx (y := (⟨"com/example/palimpsest/palimpsest/history/KeyHistory", "disorder", "()Ljava/lang/String;"⟩ : MethodName)) (z := (⟨"com/example/palimpsest/palimpsest/history/KeyHistory", "disorder", "()Ljava/lang/String;"⟩ : MethodName)) hoJRR (mvT hZJRR (hw _ (List.mem_of_getElem? (i := 64) rfl))) (mvT hZJRR (hw _ (List.mem_of_getElem? (i := 65) rfl))) (notFace_of_selects (args := #[]) (mvT hZJRR (hw _ (List.mem_of_getElem? (i := 67) rfl)))) (mvT hZJRR (hw _ (List.mem_of_getElem? (i := 67) rfl))) (mvT hZJRR (hw _ (List.mem_of_getElem? (i := 66) rfl))) (by decide) (backOf (W := 0) (rm10 l Z a0 hw [] b39 (.ref x) T44.heap n0 Z44 rfl GF44) hZJRR (hw _ (List.mem_of_getElem? (i := 68) rfl)) (hw _ (List.mem_of_getElem? (i := 32) rfl)) (by decide) (by decide)) q47a q47c (g := (mkF m 207 #[.val (.int p1), .val (.int p2), .val (.int p3), .val (.int p4), .val (.ref b1), .val (.ref b4), .val (.ref b7), .val (.ref x), .val (.ref y), .val (.ref b39), .val (.ref x)] [(.ref b39)])) rfl (by rw [hml]; rfl) (Steps.refl _) (argsL := []) (rest := []) (lenOf pd_4 rfl) rfl (by show 2 * 0 + _ ≤ _; exact Nat.le_of_eq rfl) (hb hby at_207) (fun _ _ => ⟨rfl, e46, (by first | decide | exact Nat.le_of_ble_eq_true rfl), (by first | decide | exact Nat.le_of_ble_eq_true rfl)⟩)
      dsimp only [Pt.U, Pt.locs, Pt.cells, Pt.slots] at X47 l47 y47 z47 st47 hQ47
      have X47 := own_sn X47 (k' := 22) (n' := 62) y47 z47
      obtain ⟨hv47, N47, e47⟩ := hQ47
      rw [hv47] at st47
      have NF47 := own_fr l47 NF46 N47
      refine own_go (fun _ k => st47.trans k) ?_
      show own_Gl p.tables e below F (T47.setTop (mkF m 210 #[.val (.int p1), .val (.int p2), .val (.int p3), .val (.int p4), .val (.ref b1), .val (.ref b4), .val (.ref b7), .val (.ref x), .val (.ref y), .val (.ref b39), .val (.ref x)] [(.ref x)]))
      refine own_go (fun _ k => XS.aload X47.here hx rfl (hb hby at_210) rfl rfl k) ?_
      show own_Gl p.tables e below F (T47.setTop (mkF m 212 #[.val (.int p1), .val (.int p2), .val (.int p3), .val (.int p4), .val (.ref b1), .val (.ref b4), .val (.ref b7), .val (.ref x), .val (.ref y), .val (.ref b39), .val (.ref x)] [(.ref x), (.ref x)]))
      refine own_go (fun _ k => Jvm.RoadKit.acmp (g := (mkF m 212 #[.val (.int p1), .val (.int p2), .val (.int p3), .val (.int p4), .val (.ref b1), .val (.ref b4), .val (.ref b7), .val (.ref x), .val (.ref y), .val (.ref b39), .val (.ref x)] [(.ref x), (.ref x)])) X47 hx rfl rfl rfl (pc0 := 212) (pc' := 215) (same := true) rfl (hb hby at_212) rfl (decide_eq_true rfl) (by decide) (by decide) k) ?_
      show own_Gl p.tables e below F (T47.setTop (mkF m 215 #[.val (.int p1), .val (.int p2), .val (.int p3), .val (.int p4), .val (.ref b1), .val (.ref b4), .val (.ref b7), .val (.ref x), .val (.ref y), .val (.ref b39), .val (.ref x)] []))
      refine own_go (fun _ k => XS.iconst X47.here hx rfl (hb hby at_215) k) ?_
      show own_Gl p.tables e below F (T47.setTop (mkF m 216 #[.val (.int p1), .val (.int p2), .val (.int p3), .val (.int p4), .val (.ref b1), .val (.ref b4), .val (.ref b7), .val (.ref x), .val (.ref y), .val (.ref b39), .val (.ref x)] [(.int (1 : Int32))]))
      refine own_go (fun _ k => XS.goto X47.here hx rfl (pc0 := 216) (pc' := 220) rfl (hb hby at_216) (by decide) (by decide) k) ?_
      show own_Gl p.tables e below F (T47.setTop (mkF m 220 #[.val (.int p1), .val (.int p2), .val (.int p3), .val (.int p4), .val (.ref b1), .val (.ref b4), .val (.ref b7), .val (.ref x), .val (.ref y), .val (.ref b39), .val (.ref x)] [(.int (1 : Int32))]))
      obtain ⟨fs, hr, hrun, hended, hRW⟩ := Jvm.Stand.leaveW X47 hSJRR (by rw [e47]; exact hk44) (v := some (.int (1 : Int32))) (fun h => by rw [Bd.returns] at h; cases h)
      have CE : CHr Z own_EL s.vm s.heap T47.vm T47.heap := by rw [hh, e47]; exact CR44.trans (CHv.at X47 hZJRR hEL CR44.1)
      subst hF
      refine own_fin ?_ ⟨hrun, hended, _, _, rfl, ?_, CE, hRW.1, hRW.2.1, hRW.2.2.1, hRW.2.2.2.mono (by first | decide | exact Nat.le_of_ble_eq_true rfl) (by first | decide | exact Nat.le_of_ble_eq_true rfl)⟩
      · exact own_retN X47 hx (t := .boolean) Bd.returns (by simp) rfl (hb hby at_220) hr
      · show Q_rm0 Z _ _ _ _ _ h0 n0 _ T47.heap _
        rw [e47]
        exact ⟨rfl, NF47⟩
    show own_Gl p.tables e below F (TJR.setTop (mkF m 99 #[.val (.int p1), .val (.int p2), .val (.int p3), .val (.int p4), .val (.ref b1), .val (.ref b4), .val (.ref b7), .val (.ref x), .unset, .unset, .unset] [(.int (p3 &&& (2 : Int32)))]))
    by_cases hb1 : (p3 &&& (2 : Int32)) = 0
    · refine own_go (fun _ k => XS.ifYes XJR.here hx rfl (pc0 := 99) (pc' := 106) rfl (hb hby at_99) rfl (XT.i0_eq_t hb1) (by decide) (by decide) k) ?_
      show own_Gl p.tables e below F (TJR.setTop (mkF m 106 #[.val (.int p1), .val (.int p2), .val (.int p3), .val (.int p4), .val (.ref b1), .val (.ref b4), .val (.ref b7), .val (.ref x), .unset, .unset, .unset] []))
      refine own_go (fun _ k => XS.iloadN XJR.here hx rfl (hb hby at_106) rfl k) ?_
      show own_Gl p.tables e below F (TJR.setTop (mkF m 107 #[.val (.int p1), .val (.int p2), .val (.int p3), .val (.int p4), .val (.ref b1), .val (.ref b4), .val (.ref b7), .val (.ref x), .unset, .unset, .unset] [(.int p3)]))
      refine own_go (fun _ k => XS.bipush XJR.here hx rfl (hb hby at_107) k) ?_
      show own_Gl p.tables e below F (TJR.setTop (mkF m 109 #[.val (.int p1), .val (.int p2), .val (.int p3), .val (.int p4), .val (.ref b1), .val (.ref b4), .val (.ref b7), .val (.ref x), .unset, .unset, .unset] [(.int (8 : Int32)), (.int p3)]))
      refine own_go (fun _ k => XS.iand XJR.here hx rfl (hb hby at_109) rfl k) ?_
      show own_Gl p.tables e below F (TJR.setTop (mkF m 110 #[.val (.int p1), .val (.int p2), .val (.int p3), .val (.int p4), .val (.ref b1), .val (.ref b4), .val (.ref b7), .val (.ref x), .unset, .unset, .unset] [(.int (p3 &&& (8 : Int32)))]))
      by_cases hb2 : (p3 &&& (8 : Int32)) = 0
      · refine own_go (fun _ k => XS.ifYes XJR.here hx rfl (pc0 := 110) (pc' := 125) rfl (hb hby at_110) rfl (XT.i0_eq_t hb2) (by decide) (by decide) k) ?_
        show own_Gl p.tables e below F (TJR.setTop (mkF m 125 #[.val (.int p1), .val (.int p2), .val (.int p3), .val (.int p4), .val (.ref b1), .val (.ref b4), .val (.ref b7), .val (.ref x), .unset, .unset, .unset] []))
        obtain ⟨T48, h48, X48, e48, E48, A48, D48, -, st48⟩ := newO XJR hx hZJR hoJR (hw _ (List.mem_of_getElem? (i := 1) rfl)) (hw _ (List.mem_of_getElem? (i := 2) rfl)) (hw _ (List.mem_of_getElem? (i := 3) rfl)) eJR (g := (mkF m 125 #[.val (.int p1), .val (.int p2), .val (.int p3), .val (.int p4), .val (.ref b1), .val (.ref b4), .val (.ref b7), .val (.ref x), .unset, .unset, .unset] [])) rfl (hb hby at_125) (by first | decide | exact Nat.le_of_ble_eq_true rfl) (by first | decide | exact Nat.le_of_ble_eq_true rfl)
        obtain ⟨b48, g48⟩ : ∃ z, z = hJR.size := ⟨_, rfl⟩
        rw [← g48] at A48 D48 st48
        have ne_b1_b48 : b1 ≠ b48 := Nat.ne_of_lt (Nat.lt_of_lt_of_le fJR_1.lt (Nat.le_of_eq g48.symm))
        have ne_b4_b48 : b4 ≠ b48 := Nat.ne_of_lt (Nat.lt_of_lt_of_le fJR_2.lt (Nat.le_of_eq g48.symm))
        have ne_b7_b48 : b7 ≠ b48 := Nat.ne_of_lt (Nat.lt_of_lt_of_le fJR_3.lt (Nat.le_of_eq g48.symm))
        have ge_b48 : n0 ≤ b48 := Nat.le_trans ZJR (Nat.le_of_eq g48.symm)
        have sz_b48 : h0.size ≤ b48 := Nat.le_trans (KJR).1 (Nat.le_of_eq g48.symm)
        have sf_b48 := Safe.ext E48 CRJR.1 (Safe.new (Z := Z) (EL := own_EL) (vm := vJR) (Nat.le_of_eq g48.symm))
        have f48_0 := fJR_0.ext E48
        have f48_1 := fJR_1.ext E48
        have f48_2 := fJR_2.ext E48
        have f48_3 := fJR_3.ext E48
        have Z48 : n0 ≤ h48.size := Nat.le_trans ZJR E48.1
        have K48 := Keep.ext KJR E48
        have sf48_0 := Safe.ext E48 CRJR.1 sJR_b1
        have sf48_1 := Safe.ext E48 CRJR.1 sJR_b4
        have sf48_2 := Safe.ext E48 CRJR.1 sJR_b7
        have CR48 := CRJR.trans (CHr.ext E48 CRJR.1)
        have hk48 : kJR ≤ h48.size := Nat.le_trans hkJR E48.1
        have F48_coder : Fld Z h48 b48 "java/lang/String" "coder" "B" (.int (0 : Int32)) := D48 (Or.inr (hw _ (List.mem_of_getElem? (i := 27) rfl))) (ty := .byte) (by decide)
        have F48_value : Fld Z h48 b48 "java/lang/String" "value" "[B" .null := D48 (Or.inr (hw _ (List.mem_of_getElem? (i := 29) rfl))) (ty := (.array .byte)) (by decide)
        have X48 : Stand _ _ _ _ _ _ _ _ _ _ _ _ 9 20 := X48
        refine own_go st48 ?_
        show own_Gl p.tables e below F (T48.setTop (mkF m 128 #[.val (.int p1), .val (.int p2), .val (.int p3), .val (.int p4), .val (.ref b1), .val (.ref b4), .val (.ref b7), .val (.ref x), .unset, .unset, .unset] [(.ref b48)]))
        refine own_go (fun _ k => XS.dup X48.here hx rfl (hb hby at_128) rfl rfl k) ?_
        show own_Gl p.tables e below F (T48.setTop (mkF m 129 #[.val (.int p1), .val (.int p2), .val (.int p3), .val (.int p4), .val (.ref b1), .val (.ref b4), .val (.ref b7), .val (.ref x), .unset, .unset, .unset] [(.ref b48), (.ref b48)]))
        refine own_go (fun _ k => XS.aload X48.here hx rfl (hb hby at_129) rfl rfl k) ?_
        show own_Gl p.tables e below F (T48.setTop (mkF m 131 #[.val (.int p1), .val (.int p2), .val (.int p3), .val (.int p4), .val (.ref b1), .val (.ref b4), .val (.ref b7), .val (.ref x), .unset, .unset, .unset] [(.ref b4), (.ref b48), (.ref b48)]))
        obtain ⟨_, _, ⟨T49, L49, k49, n49⟩, -, X49, ⟨Lc49, hQ49, l49, y49, z49⟩, st49⟩ := X48.specialBack hx (y := (⟨"java/lang/String", "<init>", "([C)V"⟩ : MethodName)) rfl hoJR (mvT hZJR (hw _ (List.mem_of_getElem? (i := 4) rfl))) (mvT hZJR (hw _ (List.mem_of_getElem? (i := 5) rfl))) (mvT hZJR (hw _ (List.mem_of_getElem? (i := 6) rfl))) (by decide) (StrChars.Road.backV (W := 1) hZJR hws (kI := 4) (hw _ (List.mem_of_getElem? (i := 2) rfl)) (cs := ([(nar .char ((p2 &&& (255 : Int32)).toUInt32.toUInt16.toUInt32.toInt32)), (nar .char (((XT.ushr p2 (8 : Int32)) &&& (255 : Int32)).toUInt32.toUInt16.toUInt32.toInt32))] : List Int32)) (bs := ([(nar .char ((p2 &&& (255 : Int32)).toUInt32.toUInt16.toUInt32.toInt32)), (nar .char (((XT.ushr p2 (8 : Int32)) &&& (255 : Int32)).toUInt32.toUInt16.toUInt32.toInt32))] : List Int32).map (fun c => c.toInt8.toInt32)) (n := 2) ge_b48 Z48 A48 F48_value F48_coder f48_2 (O2.ext f48_0.2) P5 rfl rfl (by decide) (by decide) hpb rfl (by decide) (by decide)) (g := (mkF m 131 #[.val (.int p1), .val (.int p2), .val (.int p3), .val (.int p4), .val (.ref b1), .val (.ref b4), .val (.ref b7), .val (.ref x), .unset, .unset, .unset] [(.ref b4), (.ref b48), (.ref b48)])) rfl (by rw [hml]; rfl) (Steps.refl _) (a := b48) (argsL := [(.ref b4)]) (rest := [(.ref b48)]) (lenOf pd_2 rfl) rfl (by show 2 * 0 + _ ≤ _; exact Nat.le_of_eq rfl) (hb hby at_131) (fun _ _ => ⟨rfl, e48, (by first | decide | exact Nat.le_of_ble_eq_true rfl), (by first | decide | exact Nat.le_of_ble_eq_true rfl)⟩)
        dsimp only [Pt.U, Pt.locs, Pt.cells, Pt.slots] at X49 l49 y49 z49 st49 hQ49
        have X49 := own_sn X49 (k' := 10) (n' := 22) y49 z49
        obtain ⟨hv49, N49, K49, GE49, -, -⟩ := hQ49
        rw [hv49] at st49
        have NF49 := own_fr l49 NJR N49
        have sf49_0 := Safe.keep K49 (sfS sf_b48 sf0) CR48.1 sf48_0
        have sf49_1 := Safe.keep K49 (sfS sf_b48 sf0) CR48.1 sf48_1
        have sf49_2 := Safe.keep K49 (sfS sf_b48 sf0) CR48.1 sf48_2
        have sf49_3 := Safe.keep K49 (sfS sf_b48 sf0) CR48.1 sf_b48
        have CR49 := CR48.trans (CHr.keep K49 (sfS sf_b48 sf0) CR48.1)
        have hk49 : kJR ≤ T49.heap.size := Nat.le_trans hk48 K49.1
        have f49_1 := f48_0.keep K49 (allS ge_b48 (all0))
        have f49_2 := f48_1.keep K49 (ninS ne_b1_b48 nin0)
        have f49_3 := f48_2.keep K49 (ninS ne_b4_b48 nin0)
        have f49_4 := f48_3.keep K49 (ninS ne_b7_b48 nin0)
        have f49_5 := A48.keep K49
        have Z49 : n0 ≤ T49.heap.size := Nat.le_trans Z48 K49.1
        have KK49 := Keep.trans K48 K49 (by intro z hz; simp at hz; rcases hz with rfl; all_goals first | (left; simp; done) | (right; assumption))
        refine own_go (fun _ k => st49.trans k) ?_
        show own_Gl p.tables e below F (T49.setTop (mkF m 134 #[.val (.int p1), .val (.int p2), .val (.int p3), .val (.int p4), .val (.ref b1), .val (.ref b4), .val (.ref b7), .val (.ref x), .unset, .unset, .unset] [(.ref b48)]))
        exact JRR _ _ _ _ _ b48 (X49.mono (by decide) (by decide)) rfl NF49 Z49 KK49 hZJR hoJR hSJR hk49 CR49 sf49_0 sf49_1 sf49_2 f49_1 f49_2 f49_3 f49_4
      · refine own_go (fun _ k => XS.ifNo XJR.here hx rfl (hb hby at_110) rfl (XT.i0_eq_f hb2) k) ?_
        show own_Gl p.tables e below F (TJR.setTop (mkF m 113 #[.val (.int p1), .val (.int p2), .val (.int p3), .val (.int p4), .val (.ref b1), .val (.ref b4), .val (.ref b7), .val (.ref x), .unset, .unset, .unset] []))
        obtain ⟨T50, h50, X50, e50, E50, A50, D50, -, st50⟩ := newO XJR hx hZJR hoJR (hw _ (List.mem_of_getElem? (i := 1) rfl)) (hw _ (List.mem_of_getElem? (i := 2) rfl)) (hw _ (List.mem_of_getElem? (i := 3) rfl)) eJR (g := (mkF m 113 #[.val (.int p1), .val (.int p2), .val (.int p3), .val (.int p4), .val (.ref b1), .val (.ref b4), .val (.ref b7), .val (.ref x), .unset, .unset, .unset] [])) rfl (hb hby at_113) (by first | decide | exact Nat.le_of_ble_eq_true rfl) (by first | decide | exact Nat.le_of_ble_eq_true rfl)
        obtain ⟨b50, g50⟩ : ∃ z, z = hJR.size := ⟨_, rfl⟩
        rw [← g50] at A50 D50 st50
        have ne_b1_b50 : b1 ≠ b50 := Nat.ne_of_lt (Nat.lt_of_lt_of_le fJR_1.lt (Nat.le_of_eq g50.symm))
        have ne_b4_b50 : b4 ≠ b50 := Nat.ne_of_lt (Nat.lt_of_lt_of_le fJR_2.lt (Nat.le_of_eq g50.symm))
        have ne_b7_b50 : b7 ≠ b50 := Nat.ne_of_lt (Nat.lt_of_lt_of_le fJR_3.lt (Nat.le_of_eq g50.symm))
        have ge_b50 : n0 ≤ b50 := Nat.le_trans ZJR (Nat.le_of_eq g50.symm)
        have sz_b50 : h0.size ≤ b50 := Nat.le_trans (KJR).1 (Nat.le_of_eq g50.symm)
        have sf_b50 := Safe.ext E50 CRJR.1 (Safe.new (Z := Z) (EL := own_EL) (vm := vJR) (Nat.le_of_eq g50.symm))
        have f50_0 := fJR_0.ext E50
        have f50_1 := fJR_1.ext E50
        have f50_2 := fJR_2.ext E50
        have f50_3 := fJR_3.ext E50
        have Z50 : n0 ≤ h50.size := Nat.le_trans ZJR E50.1
        have K50 := Keep.ext KJR E50
        have sf50_0 := Safe.ext E50 CRJR.1 sJR_b1
        have sf50_1 := Safe.ext E50 CRJR.1 sJR_b4
        have sf50_2 := Safe.ext E50 CRJR.1 sJR_b7
        have CR50 := CRJR.trans (CHr.ext E50 CRJR.1)
        have hk50 : kJR ≤ h50.size := Nat.le_trans hkJR E50.1
        have F50_coder : Fld Z h50 b50 "java/lang/String" "coder" "B" (.int (0 : Int32)) := D50 (Or.inr (hw _ (List.mem_of_getElem? (i := 27) rfl))) (ty := .byte) (by decide)
        have F50_value : Fld Z h50 b50 "java/lang/String" "value" "[B" .null := D50 (Or.inr (hw _ (List.mem_of_getElem? (i := 29) rfl))) (ty := (.array .byte)) (by decide)
        have X50 : Stand _ _ _ _ _ _ _ _ _ _ _ _ 9 20 := X50
        refine own_go st50 ?_
        show own_Gl p.tables e below F (T50.setTop (mkF m 116 #[.val (.int p1), .val (.int p2), .val (.int p3), .val (.int p4), .val (.ref b1), .val (.ref b4), .val (.ref b7), .val (.ref x), .unset, .unset, .unset] [(.ref b50)]))
        refine own_go (fun _ k => XS.dup X50.here hx rfl (hb hby at_116) rfl rfl k) ?_
        show own_Gl p.tables e below F (T50.setTop (mkF m 117 #[.val (.int p1), .val (.int p2), .val (.int p3), .val (.int p4), .val (.ref b1), .val (.ref b4), .val (.ref b7), .val (.ref x), .unset, .unset, .unset] [(.ref b50), (.ref b50)]))
        refine own_go (fun _ k => XS.aload X50.here hx rfl (hb hby at_117) rfl rfl k) ?_
        show own_Gl p.tables e below F (T50.setTop (mkF m 119 #[.val (.int p1), .val (.int p2), .val (.int p3), .val (.int p4), .val (.ref b1), .val (.ref b4), .val (.ref b7), .val (.ref x), .unset, .unset, .unset] [(.ref b7), (.ref b50), (.ref b50)]))
        obtain ⟨_, _, ⟨T51, L51, k51, n51⟩, -, X51, hs51, hg51, ⟨Lc51, hQ51, l51, y51, z51, hC51⟩, st51⟩ := X50.specialBackS hx (y := (⟨"java/lang/String", "<init>", "([C)V"⟩ : MethodName)) rfl hoJR (mvT hZJR (hw _ (List.mem_of_getElem? (i := 4) rfl))) (mvT hZJR (hw _ (List.mem_of_getElem? (i := 5) rfl))) (mvT hZJR (hw _ (List.mem_of_getElem? (i := 6) rfl))) (by decide) (backOfSH (W := 1) (rm1e l Z a0 hw [] b50 b7 k7 h50 n0 Z50 A50 F50_value F50_coder f50_3 ge_b50) hZJR (hw _ (List.mem_of_getElem? (i := 6) rfl)) (hw _ (List.mem_of_getElem? (i := 3) rfl)) (by decide) (by decide) hEL CR50.1) (g := (mkF m 119 #[.val (.int p1), .val (.int p2), .val (.int p3), .val (.int p4), .val (.ref b1), .val (.ref b4), .val (.ref b7), .val (.ref x), .unset, .unset, .unset] [(.ref b7), (.ref b50), (.ref b50)])) rfl (by rw [hml]; rfl) (Steps.refl _) (a := b50) (argsL := [(.ref b7)]) (rest := [(.ref b50)]) (lenOf pd_2 rfl) rfl (by show 2 * 0 + _ ≤ _; exact Nat.le_of_eq rfl) (hb hby at_119) (fun _ _ => ⟨rfl, e50, (by first | decide | exact Nat.le_of_ble_eq_true rfl), (by first | decide | exact Nat.le_of_ble_eq_true rfl)⟩)
        dsimp only [Pt.U, Pt.locs, Pt.cells, Pt.slots] at X51 l51 y51 z51 st51 hQ51 hs51 hg51 hC51
        have X51 := own_sn X51 (k' := 13) (n' := 28) y51 z51
        obtain ⟨hv51, N51, K51, GE51, -, -⟩ := hQ51
        rw [hv51] at st51
        have NF51 := own_fr l51 NJR N51
        obtain ⟨XR51, hS51, hZ51, hown51⟩ := rebS hSJR (by rw [e50]; exact hk50) X51 hs51 hg51 hZJR hoJR
        have CR51 := CR50.trans hC51
        have sf51_0 := hC51.safe f50_1.lt sf50_0
        have sf51_1 := hC51.safe f50_2.lt sf50_1
        have sf51_2 := hC51.safe f50_3.lt sf50_2
        have sf51_3 := hC51.safe A50.lt sf_b50
        have f51_1 := f50_0.keep K51 (allS ge_b50 (all0))
        have f51_2 := f50_1.keep K51 (ninS ne_b1_b50 nin0)
        have f51_3 := f50_2.keep K51 (ninS ne_b4_b50 nin0)
        have f51_4 := f50_3.keep K51 (ninS ne_b7_b50 nin0)
        have f51_5 := A50.keep K51
        have Z51 : n0 ≤ T51.heap.size := Nat.le_trans Z50 K51.1
        have KK51 := Keep.trans K50 K51 (by intro z hz; simp at hz; rcases hz with rfl; all_goals first | (left; simp; done) | (right; assumption))
        have hk51 : T51.heap.size ≤ T51.heap.size := Nat.le_refl _
        refine own_go (fun _ k => st51.trans k) ?_
        show own_Gl p.tables e below F (T51.setTop (mkF m 122 #[.val (.int p1), .val (.int p2), .val (.int p3), .val (.int p4), .val (.ref b1), .val (.ref b4), .val (.ref b7), .val (.ref x), .unset, .unset, .unset] [(.ref b50)]))
        refine own_go (fun _ k => XS.goto XR51.here hx rfl (pc0 := 122) (pc' := 134) rfl (hb hby at_122) (by decide) (by decide) k) ?_
        show own_Gl p.tables e below F (T51.setTop (mkF m 134 #[.val (.int p1), .val (.int p2), .val (.int p3), .val (.int p4), .val (.ref b1), .val (.ref b4), .val (.ref b7), .val (.ref x), .unset, .unset, .unset] [(.ref b50)]))
        exact JRR _ _ _ _ _ b50 (XR51.mono (by decide) (by decide)) rfl NF51 Z51 KK51 hZ51 hown51 hS51 hk51 CR51 sf51_0 sf51_1 sf51_2 f51_1 f51_2 f51_3 f51_4
    · refine own_go (fun _ k => XS.ifNo XJR.here hx rfl (hb hby at_99) rfl (XT.i0_eq_f hb1) k) ?_
      show own_Gl p.tables e below F (TJR.setTop (mkF m 102 #[.val (.int p1), .val (.int p2), .val (.int p3), .val (.int p4), .val (.ref b1), .val (.ref b4), .val (.ref b7), .val (.ref x), .unset, .unset, .unset] []))
      refine own_go (fun _ k => XS.aconstNull XJR.here hx rfl (hb hby at_102) k) ?_
      show own_Gl p.tables e below F (TJR.setTop (mkF m 103 #[.val (.int p1), .val (.int p2), .val (.int p3), .val (.int p4), .val (.ref b1), .val (.ref b4), .val (.ref b7), .val (.ref x), .unset, .unset, .unset] [.null]))
      refine own_go (fun _ k => XS.goto XJR.here hx rfl (pc0 := 103) (pc' := 134) rfl (hb hby at_103) (by decide) (by decide) k) ?_
      show own_Gl p.tables e below F (TJR.setTop (mkF m 134 #[.val (.int p1), .val (.int p2), .val (.int p3), .val (.int p4), .val (.ref b1), .val (.ref b4), .val (.ref b7), .val (.ref x), .unset, .unset, .unset] [.null]))
      exact JRN _ _ _ _ _ (XJR.mono (by decide) (by decide)) eJR NJR ZJR KJR hZJR hoJR hSJR hkJR CRJR sJR_b1 sJR_b4 sJR_b7 fJR_0 fJR_1 fJR_2 fJR_3
  show own_Gl p.tables e below F (T7.setTop (mkF m 60 #[.val (.int p1), .val (.int p2), .val (.int p3), .val (.int p4), .val (.ref b1), .val (.ref b4), .val (.ref b7), .unset, .unset, .unset, .unset] [(.int (p3 &&& (1 : Int32)))]))
  by_cases ha1 : (p3 &&& (1 : Int32)) = 0
  · refine own_go (fun _ k => XS.ifYes X7.here hx rfl (pc0 := 60) (pc' := 67) rfl (hb hby at_60) rfl (XT.i0_eq_t ha1) (by decide) (by decide) k) ?_
    show own_Gl p.tables e below F (T7.setTop (mkF m 67 #[.val (.int p1), .val (.int p2), .val (.int p3), .val (.int p4), .val (.ref b1), .val (.ref b4), .val (.ref b7), .unset, .unset, .unset, .unset] []))
    refine own_go (fun _ k => XS.iloadN X7.here hx rfl (hb hby at_67) rfl k) ?_
    show own_Gl p.tables e below F (T7.setTop (mkF m 68 #[.val (.int p1), .val (.int p2), .val (.int p3), .val (.int p4), .val (.ref b1), .val (.ref b4), .val (.ref b7), .unset, .unset, .unset, .unset] [(.int p3)]))
    refine own_go (fun _ k => XS.iconst X7.here hx rfl (hb hby at_68) k) ?_
    show own_Gl p.tables e below F (T7.setTop (mkF m 69 #[.val (.int p1), .val (.int p2), .val (.int p3), .val (.int p4), .val (.ref b1), .val (.ref b4), .val (.ref b7), .unset, .unset, .unset, .unset] [(.int (4 : Int32)), (.int p3)]))
    refine own_go (fun _ k => XS.iand X7.here hx rfl (hb hby at_69) rfl k) ?_
    show own_Gl p.tables e below F (T7.setTop (mkF m 70 #[.val (.int p1), .val (.int p2), .val (.int p3), .val (.int p4), .val (.ref b1), .val (.ref b4), .val (.ref b7), .unset, .unset, .unset, .unset] [(.int (p3 &&& (4 : Int32)))]))
    by_cases ha2 : (p3 &&& (4 : Int32)) = 0
    · refine own_go (fun _ k => XS.ifYes X7.here hx rfl (pc0 := 70) (pc' := 85) rfl (hb hby at_70) rfl (XT.i0_eq_t ha2) (by decide) (by decide) k) ?_
      show own_Gl p.tables e below F (T7.setTop (mkF m 85 #[.val (.int p1), .val (.int p2), .val (.int p3), .val (.int p4), .val (.ref b1), .val (.ref b4), .val (.ref b7), .unset, .unset, .unset, .unset] []))
      obtain ⟨T52, h52, X52, e52, E52, A52, D52, -, st52⟩ := newO X7 hx hZ0 hown0 (hw _ (List.mem_of_getElem? (i := 1) rfl)) (hw _ (List.mem_of_getElem? (i := 2) rfl)) (hw _ (List.mem_of_getElem? (i := 3) rfl)) e7 (g := (mkF m 85 #[.val (.int p1), .val (.int p2), .val (.int p3), .val (.int p4), .val (.ref b1), .val (.ref b4), .val (.ref b7), .unset, .unset, .unset, .unset] [])) rfl (hb hby at_85) (by first | decide | exact Nat.le_of_ble_eq_true rfl) (by first | decide | exact Nat.le_of_ble_eq_true rfl)
      obtain ⟨b52, g52⟩ : ∃ z, z = h7.size := ⟨_, rfl⟩
      rw [← g52] at A52 D52 st52
      have ne_b1_b52 : b1 ≠ b52 := Nat.ne_of_lt (Nat.lt_of_lt_of_le f7_1.lt (Nat.le_of_eq g52.symm))
      have ne_b4_b52 : b4 ≠ b52 := Nat.ne_of_lt (Nat.lt_of_lt_of_le f7_2.lt (Nat.le_of_eq g52.symm))
      have ne_b7_b52 : b7 ≠ b52 := Nat.ne_of_lt (Nat.lt_of_lt_of_le V7.lt (Nat.le_of_eq g52.symm))
      have ge_b52 : n0 ≤ b52 := Nat.le_trans Z7 (Nat.le_of_eq g52.symm)
      have sz_b52 : h0.size ≤ b52 := Nat.le_trans (K7).1 (Nat.le_of_eq g52.symm)
      have sf_b52 := Safe.ext E52 CR7.1 (Safe.new (Z := Z) (EL := own_EL) (vm := s.vm) (Nat.le_of_eq g52.symm))
      have f52_0 := f7_0.ext E52
      have f52_1 := f7_1.ext E52
      have f52_2 := f7_2.ext E52
      have f52_3 := V7.ext E52
      have Z52 : n0 ≤ h52.size := Nat.le_trans Z7 E52.1
      have K52 := Keep.ext K7 E52
      have sf52_0 := Safe.ext E52 CR7.1 sf7_0
      have sf52_1 := Safe.ext E52 CR7.1 sf7_1
      have sf52_2 := Safe.ext E52 CR7.1 sf_b7
      have CR52 := CR7.trans (CHr.ext E52 CR7.1)
      have hk52 : 0 ≤ h52.size := Nat.le_trans hk7 E52.1
      have F52_coder : Fld Z h52 b52 "java/lang/String" "coder" "B" (.int (0 : Int32)) := D52 (Or.inr (hw _ (List.mem_of_getElem? (i := 27) rfl))) (ty := .byte) (by decide)
      have F52_value : Fld Z h52 b52 "java/lang/String" "value" "[B" .null := D52 (Or.inr (hw _ (List.mem_of_getElem? (i := 29) rfl))) (ty := (.array .byte)) (by decide)
      have X52 : Stand _ _ _ _ _ _ _ _ _ _ _ _ 4 8 := X52
      refine own_go st52 ?_
      show own_Gl p.tables e below F (T52.setTop (mkF m 88 #[.val (.int p1), .val (.int p2), .val (.int p3), .val (.int p4), .val (.ref b1), .val (.ref b4), .val (.ref b7), .unset, .unset, .unset, .unset] [(.ref b52)]))
      refine own_go (fun _ k => XS.dup X52.here hx rfl (hb hby at_88) rfl rfl k) ?_
      show own_Gl p.tables e below F (T52.setTop (mkF m 89 #[.val (.int p1), .val (.int p2), .val (.int p3), .val (.int p4), .val (.ref b1), .val (.ref b4), .val (.ref b7), .unset, .unset, .unset, .unset] [(.ref b52), (.ref b52)]))
      refine own_go (fun _ k => XS.aload X52.here hx rfl (hb hby at_89) rfl rfl k) ?_
      show own_Gl p.tables e below F (T52.setTop (mkF m 91 #[.val (.int p1), .val (.int p2), .val (.int p3), .val (.int p4), .val (.ref b1), .val (.ref b4), .val (.ref b7), .unset, .unset, .unset, .unset] [(.ref b1), (.ref b52), (.ref b52)]))
      obtain ⟨_, _, ⟨T53, L53, k53, n53⟩, -, X53, ⟨Lc53, hQ53, l53, y53, z53⟩, st53⟩ := X52.specialBack hx (y := (⟨"java/lang/String", "<init>", "([C)V"⟩ : MethodName)) rfl hown0 (mvT hZ0 (hw _ (List.mem_of_getElem? (i := 4) rfl))) (mvT hZ0 (hw _ (List.mem_of_getElem? (i := 5) rfl))) (mvT hZ0 (hw _ (List.mem_of_getElem? (i := 6) rfl))) (by decide) (StrChars.Road.backV (W := 1) hZ0 hws (kI := 4) (hw _ (List.mem_of_getElem? (i := 2) rfl)) (cs := ([(nar .char ((p1 &&& (255 : Int32)).toUInt32.toUInt16.toUInt32.toInt32)), (nar .char (((XT.ushr p1 (8 : Int32)) &&& (255 : Int32)).toUInt32.toUInt16.toUInt32.toInt32))] : List Int32)) (bs := ([(nar .char ((p1 &&& (255 : Int32)).toUInt32.toUInt16.toUInt32.toInt32)), (nar .char (((XT.ushr p1 (8 : Int32)) &&& (255 : Int32)).toUInt32.toUInt16.toUInt32.toInt32))] : List Int32).map (fun c => c.toInt8.toInt32)) (n := 2) ge_b52 Z52 A52 F52_value F52_coder f52_1 (O2.ext f52_0.2) P5 rfl rfl (by decide) (by decide) hpa rfl (by decide) (by decide)) (g := (mkF m 91 #[.val (.int p1), .val (.int p2), .val (.int p3), .val (.int p4), .val (.ref b1), .val (.ref b4), .val (.ref b7), .unset, .unset, .unset, .unset] [(.ref b1), (.ref b52), (.ref b52)])) rfl (by rw [hml]; rfl) (Steps.refl _) (a := b52) (argsL := [(.ref b1)]) (rest := [(.ref b52)]) (lenOf pd_2 rfl) rfl (by show 2 * 0 + _ ≤ _; exact Nat.le_of_eq rfl) (hb hby at_91) (fun _ _ => ⟨rfl, e52, (by first | decide | exact Nat.le_of_ble_eq_true rfl), (by first | decide | exact Nat.le_of_ble_eq_true rfl)⟩)
      dsimp only [Pt.U, Pt.locs, Pt.cells, Pt.slots] at X53 l53 y53 z53 st53 hQ53
      have X53 := own_sn X53 (k' := 5) (n' := 10) y53 z53
      obtain ⟨hv53, N53, K53, GE53, -, -⟩ := hQ53
      rw [hv53] at st53
      have NF53 := own_fr l53 N6 N53
      have sf53_0 := Safe.keep K53 (sfS sf_b52 sf0) CR52.1 sf52_0
      have sf53_1 := Safe.keep K53 (sfS sf_b52 sf0) CR52.1 sf52_1
      have sf53_2 := Safe.keep K53 (sfS sf_b52 sf0) CR52.1 sf52_2
      have sf53_3 := Safe.keep K53 (sfS sf_b52 sf0) CR52.1 sf_b52
      have CR53 := CR52.trans (CHr.keep K53 (sfS sf_b52 sf0) CR52.1)
      have hk53 : 0 ≤ T53.heap.size := Nat.le_trans hk52 K53.1
      have f53_1 := f52_0.keep K53 (allS ge_b52 (all0))
      have f53_2 := f52_1.keep K53 (ninS ne_b1_b52 nin0)
      have f53_3 := f52_2.keep K53 (ninS ne_b4_b52 nin0)
      have f53_4 := f52_3.keep K53 (ninS ne_b7_b52 nin0)
      have f53_5 := A52.keep K53
      have Z53 : n0 ≤ T53.heap.size := Nat.le_trans Z52 K53.1
      have KK53 := Keep.trans K52 K53 (by intro z hz; simp at hz; rcases hz with rfl; all_goals first | (left; simp; done) | (right; assumption))
      refine own_go (fun _ k => st53.trans k) ?_
      show own_Gl p.tables e below F (T53.setTop (mkF m 94 #[.val (.int p1), .val (.int p2), .val (.int p3), .val (.int p4), .val (.ref b1), .val (.ref b4), .val (.ref b7), .unset, .unset, .unset, .unset] [(.ref b52)]))
      exact JR _ _ _ _ _ b52 (X53.mono (by decide) (by decide)) rfl NF53 Z53 KK53 hZ0 hown0 hS0 hk53 CR53 sf53_0 sf53_1 sf53_2 f53_1 f53_2 f53_3 f53_4
    · refine own_go (fun _ k => XS.ifNo X7.here hx rfl (hb hby at_70) rfl (XT.i0_eq_f ha2) k) ?_
      show own_Gl p.tables e below F (T7.setTop (mkF m 73 #[.val (.int p1), .val (.int p2), .val (.int p3), .val (.int p4), .val (.ref b1), .val (.ref b4), .val (.ref b7), .unset, .unset, .unset, .unset] []))
      obtain ⟨T54, h54, X54, e54, E54, A54, D54, -, st54⟩ := newO X7 hx hZ0 hown0 (hw _ (List.mem_of_getElem? (i := 1) rfl)) (hw _ (List.mem_of_getElem? (i := 2) rfl)) (hw _ (List.mem_of_getElem? (i := 3) rfl)) e7 (g := (mkF m 73 #[.val (.int p1), .val (.int p2), .val (.int p3), .val (.int p4), .val (.ref b1), .val (.ref b4), .val (.ref b7), .unset, .unset, .unset, .unset] [])) rfl (hb hby at_73) (by first | decide | exact Nat.le_of_ble_eq_true rfl) (by first | decide | exact Nat.le_of_ble_eq_true rfl)
      obtain ⟨b54, g54⟩ : ∃ z, z = h7.size := ⟨_, rfl⟩
      rw [← g54] at A54 D54 st54
      have ne_b1_b54 : b1 ≠ b54 := Nat.ne_of_lt (Nat.lt_of_lt_of_le f7_1.lt (Nat.le_of_eq g54.symm))
      have ne_b4_b54 : b4 ≠ b54 := Nat.ne_of_lt (Nat.lt_of_lt_of_le f7_2.lt (Nat.le_of_eq g54.symm))
      have ne_b7_b54 : b7 ≠ b54 := Nat.ne_of_lt (Nat.lt_of_lt_of_le V7.lt (Nat.le_of_eq g54.symm))
      have ge_b54 : n0 ≤ b54 := Nat.le_trans Z7 (Nat.le_of_eq g54.symm)
      have sz_b54 : h0.size ≤ b54 := Nat.le_trans (K7).1 (Nat.le_of_eq g54.symm)
      have sf_b54 := Safe.ext E54 CR7.1 (Safe.new (Z := Z) (EL := own_EL) (vm := s.vm) (Nat.le_of_eq g54.symm))
      have f54_0 := f7_0.ext E54
      have f54_1 := f7_1.ext E54
      have f54_2 := f7_2.ext E54
      have f54_3 := V7.ext E54
      have Z54 : n0 ≤ h54.size := Nat.le_trans Z7 E54.1
      have K54 := Keep.ext K7 E54
      have sf54_0 := Safe.ext E54 CR7.1 sf7_0
      have sf54_1 := Safe.ext E54 CR7.1 sf7_1
      have sf54_2 := Safe.ext E54 CR7.1 sf_b7
      have CR54 := CR7.trans (CHr.ext E54 CR7.1)
      have hk54 : 0 ≤ h54.size := Nat.le_trans hk7 E54.1
      have F54_coder : Fld Z h54 b54 "java/lang/String" "coder" "B" (.int (0 : Int32)) := D54 (Or.inr (hw _ (List.mem_of_getElem? (i := 27) rfl))) (ty := .byte) (by decide)
      have F54_value : Fld Z h54 b54 "java/lang/String" "value" "[B" .null := D54 (Or.inr (hw _ (List.mem_of_getElem? (i := 29) rfl))) (ty := (.array .byte)) (by decide)
      have X54 : Stand _ _ _ _ _ _ _ _ _ _ _ _ 4 8 := X54
      refine own_go st54 ?_
      show own_Gl p.tables e below F (T54.setTop (mkF m 76 #[.val (.int p1), .val (.int p2), .val (.int p3), .val (.int p4), .val (.ref b1), .val (.ref b4), .val (.ref b7), .unset, .unset, .unset, .unset] [(.ref b54)]))
      refine own_go (fun _ k => XS.dup X54.here hx rfl (hb hby at_76) rfl rfl k) ?_
      show own_Gl p.tables e below F (T54.setTop (mkF m 77 #[.val (.int p1), .val (.int p2), .val (.int p3), .val (.int p4), .val (.ref b1), .val (.ref b4), .val (.ref b7), .unset, .unset, .unset, .unset] [(.ref b54), (.ref b54)]))
      refine own_go (fun _ k => XS.aload X54.here hx rfl (hb hby at_77) rfl rfl k) ?_
      show own_Gl p.tables e below F (T54.setTop (mkF m 79 #[.val (.int p1), .val (.int p2), .val (.int p3), .val (.int p4), .val (.ref b1), .val (.ref b4), .val (.ref b7), .unset, .unset, .unset, .unset] [(.ref b7), (.ref b54), (.ref b54)]))
      obtain ⟨_, _, ⟨T55, L55, k55, n55⟩, -, X55, hs55, hg55, ⟨Lc55, hQ55, l55, y55, z55, hC55⟩, st55⟩ := X54.specialBackS hx (y := (⟨"java/lang/String", "<init>", "([C)V"⟩ : MethodName)) rfl hown0 (mvT hZ0 (hw _ (List.mem_of_getElem? (i := 4) rfl))) (mvT hZ0 (hw _ (List.mem_of_getElem? (i := 5) rfl))) (mvT hZ0 (hw _ (List.mem_of_getElem? (i := 6) rfl))) (by decide) (backOfSH (W := 1) (rm1e l Z a0 hw [] b54 b7 k7 h54 n0 Z54 A54 F54_value F54_coder f54_3 ge_b54) hZ0 (hw _ (List.mem_of_getElem? (i := 6) rfl)) (hw _ (List.mem_of_getElem? (i := 3) rfl)) (by decide) (by decide) hEL CR54.1) (g := (mkF m 79 #[.val (.int p1), .val (.int p2), .val (.int p3), .val (.int p4), .val (.ref b1), .val (.ref b4), .val (.ref b7), .unset, .unset, .unset, .unset] [(.ref b7), (.ref b54), (.ref b54)])) rfl (by rw [hml]; rfl) (Steps.refl _) (a := b54) (argsL := [(.ref b7)]) (rest := [(.ref b54)]) (lenOf pd_2 rfl) rfl (by show 2 * 0 + _ ≤ _; exact Nat.le_of_eq rfl) (hb hby at_79) (fun _ _ => ⟨rfl, e54, (by first | decide | exact Nat.le_of_ble_eq_true rfl), (by first | decide | exact Nat.le_of_ble_eq_true rfl)⟩)
      dsimp only [Pt.U, Pt.locs, Pt.cells, Pt.slots] at X55 l55 y55 z55 st55 hQ55 hs55 hg55 hC55
      have X55 := own_sn X55 (k' := 8) (n' := 16) y55 z55
      obtain ⟨hv55, N55, K55, GE55, -, -⟩ := hQ55
      rw [hv55] at st55
      have NF55 := own_fr l55 N6 N55
      obtain ⟨XR55, hS55, hZ55, hown55⟩ := rebS hS0 (by rw [e54]; exact hk54) X55 hs55 hg55 hZ0 hown0
      have CR55 := CR54.trans hC55
      have sf55_0 := hC55.safe f54_1.lt sf54_0
      have sf55_1 := hC55.safe f54_2.lt sf54_1
      have sf55_2 := hC55.safe f54_3.lt sf54_2
      have sf55_3 := hC55.safe A54.lt sf_b54
      have f55_1 := f54_0.keep K55 (allS ge_b54 (all0))
      have f55_2 := f54_1.keep K55 (ninS ne_b1_b54 nin0)
      have f55_3 := f54_2.keep K55 (ninS ne_b4_b54 nin0)
      have f55_4 := f54_3.keep K55 (ninS ne_b7_b54 nin0)
      have f55_5 := A54.keep K55
      have Z55 : n0 ≤ T55.heap.size := Nat.le_trans Z54 K55.1
      have KK55 := Keep.trans K54 K55 (by intro z hz; simp at hz; rcases hz with rfl; all_goals first | (left; simp; done) | (right; assumption))
      have hk55 : T55.heap.size ≤ T55.heap.size := Nat.le_refl _
      refine own_go (fun _ k => st55.trans k) ?_
      show own_Gl p.tables e below F (T55.setTop (mkF m 82 #[.val (.int p1), .val (.int p2), .val (.int p3), .val (.int p4), .val (.ref b1), .val (.ref b4), .val (.ref b7), .unset, .unset, .unset, .unset] [(.ref b54)]))
      refine own_go (fun _ k => XS.goto XR55.here hx rfl (pc0 := 82) (pc' := 94) rfl (hb hby at_82) (by decide) (by decide) k) ?_
      show own_Gl p.tables e below F (T55.setTop (mkF m 94 #[.val (.int p1), .val (.int p2), .val (.int p3), .val (.int p4), .val (.ref b1), .val (.ref b4), .val (.ref b7), .unset, .unset, .unset, .unset] [(.ref b54)]))
      exact JR _ _ _ _ _ b54 (XR55.mono (by decide) (by decide)) rfl NF55 Z55 KK55 hZ55 hown55 hS55 hk55 CR55 sf55_0 sf55_1 sf55_2 f55_1 f55_2 f55_3 f55_4
  · refine own_go (fun _ k => XS.ifNo X7.here hx rfl (hb hby at_60) rfl (XT.i0_eq_f ha1) k) ?_
    show own_Gl p.tables e below F (T7.setTop (mkF m 63 #[.val (.int p1), .val (.int p2), .val (.int p3), .val (.int p4), .val (.ref b1), .val (.ref b4), .val (.ref b7), .unset, .unset, .unset, .unset] []))
    refine own_go (fun _ k => XS.aconstNull X7.here hx rfl (hb hby at_63) k) ?_
    show own_Gl p.tables e below F (T7.setTop (mkF m 64 #[.val (.int p1), .val (.int p2), .val (.int p3), .val (.int p4), .val (.ref b1), .val (.ref b4), .val (.ref b7), .unset, .unset, .unset, .unset] [.null]))
    refine own_go (fun _ k => XS.goto X7.here hx rfl (pc0 := 64) (pc' := 94) rfl (hb hby at_64) (by decide) (by decide) k) ?_
    show own_Gl p.tables e below F (T7.setTop (mkF m 94 #[.val (.int p1), .val (.int p2), .val (.int p3), .val (.int p4), .val (.ref b1), .val (.ref b4), .val (.ref b7), .unset, .unset, .unset, .unset] [.null]))
    exact JN _ _ _ _ _ (X7.mono (by decide) (by decide)) e7 N6 Z7 K7 hZ0 hown0 hS0 hk7 CR7 sf7_0 sf7_1 sf_b7 f7_0 f7_1 f7_2 V7
theorem own_args {args : Array Value} (hs : args.size = 4) : ∃ w0 w1 w2 w3 : Value, args = #[w0, w1, w2, w3] := by
  obtain ⟨L⟩ := args
  match L, hs with
  | [w0, w1, w2, w3], _ => exact ⟨w0, w1, w2, w3, rfl⟩
set_option maxRecDepth 65536 in
set_option maxHeartbeats 40000000 in
theorem comes_1 {Post : Tables → Env → Array Value → State → Outcome → State → Prop} (hpost : ∀ tb e args s v u, (limb_1_1.after args s (.returned v) u = true ∧ limb_1_2.after args s (.returned v) u = true ∧ True) → ReturnedEndW s (.returned v) u (Jvm.fieldLocs frame_1_writes args s ++ Jvm.arrayLocs frame_1_arrays args s ++ Jvm.staticLocs frame_1_statics s) 40 1216 → Post tb e args s (.returned v) u) :
    ArmFor flags0 classFile x code maxLocals ret World_1 tables_1 room_1 Calls_1 rest_1 Pre_1 Post := by
  intro l hfl _ _ p e ha hc hk s m args below hf hA hF happ hP
  obtain ⟨hcalls, hrest, hpre⟩ := hP
  obtain ⟨-, -, -, hnamed, -, -, -, hat⟩ := (Spec.applies_iff hf).mp happ
  obtain ⟨hg, hn⟩ := and_e (Cond.before_iff.mp (show (Jvm.Cond.and given_1 narrow_1).before args s = true from hpre))
  obtain ⟨gv1, gv2⟩ := and_e hg
  obtain ⟨gv3, gv4⟩ := and_e gv2
  obtain ⟨gv5, gv6⟩ := and_e gv4
  obtain ⟨gv7, gv8⟩ := and_e gv6
  obtain ⟨w0, w1, w2, w3, rfl⟩ := own_args (args := args) (by simpa [Cond.value, given_1] using gv1)
  have hw := fun d (hd : d ∈ tables_1) => atoms_spec (ws := Jvm.Cond.code x code maxLocals ret :: tables_1) hat d (List.mem_cons_of_mem _ hd)
  have hfit : Fit s := fun {y c} hc i hi => by
    obtain ⟨ha, rfl⟩ := Array.getElem?_eq_some_iff.mp hc
    have q := List.all_eq_true.mp ((Array.all_eq_true_iff_forall_mem.mp hF) _ (Array.getElem_mem ha)) i (List.mem_range.mpr hi)
    simpa [Array.getElem?_eq_getElem hi] using q
  obtain ⟨hsets, hown0⟩ := atoms_of _ (rest_1_c_eq ▸ (show rest_1_c.before _ s = true from hrest))
  have hr0 := Cond.before_iff.mp hown0
  obtain ⟨i0, ei0⟩ := is_v gv3
  obtain rfl : w0 = (.int i0) := Option.some.inj ei0
  obtain ⟨i1, ei1⟩ := is_v gv5
  obtain rfl : w1 = (.int i1) := Option.some.inj ei1
  obtain ⟨i2, ei2⟩ := is_v gv7
  obtain rfl : w2 = (.int i2) := Option.some.inj ei2
  obtain ⟨i3, ei3⟩ := is_v gv8
  obtain rfl : w3 = (.int i3) := Option.some.inj ei3
  obtain ⟨zc, ezc⟩ := is_v (Cond.before_iff.mp (hsets _ (List.mem_of_getElem? (i := 1) rfl)))
  have O2 := Sta.start ezc (Or.inl (hsets _ (List.mem_of_getElem? (i := 0) rfl)))
  have P5 : ¬ zc = 0 := gotF (Cond.eq_ints ezc (Term.int_eval (0 : Int32))) (by simpa using not_v (Cond.before_iff.mp (hsets _ (List.mem_of_getElem? (i := 2) rfl))))
  have hCH : CHv s own_EL s.vm s.heap := CHv.start (own_hEL hw) (fun p hp => hcalls.1 p hp) (hsets _ (List.mem_of_getElem? (i := 2) rfl)) (hw _ (List.mem_of_getElem? (i := 19) rfl)) (hw _ (List.mem_of_getElem? (i := 2) rfl))
  obtain ⟨n, o, h1, h2, h3, _, L, rfl, ⟨rfl, N⟩, -, hq⟩ := rm0 l s _ hw tables_1 i0 i1 i2 i3 zc s.heap s.heap.size (Nat.le_refl _) (Old.start s) O2 P5 p e ha hc hk s m _ below hf ((Spec.applies_iff_loose hf).mp happ).1 ⟨rfl, State.Warmed39.refl s, rfl, hCH⟩ trivial
  refine ⟨n, _, h1, h2, h3, hpost _ _ _ _ _ _ ⟨Cond.after_iff.mpr rfl, Cond.after_iff.mpr (eq_i res_at (Term.int_eval (1)) rfl), trivial⟩ ⟨hq.1, hq.2.1, hq.2.2.1, (hq.2.2.2.sift fun y hy => Or.inr (N y hy)).mono (by decide) (by decide)⟩⟩
theorem main_1_1 : Claimed_1_1 := comes_1 fun _ _ _ _ _ _ h hF => ⟨h.1, hF⟩
theorem main_1_2 : Claimed_1_2 := comes_1 fun _ _ _ _ _ _ h hF => ⟨h.2.1, hF⟩
end Jvm.Pilot.@@N@@
namespace Jvm.Pilot.@@N@@
open Jvm Jvm.ClassFile Sem Op Lib Jvm.Free Jvm.Stand Jvm.Pilot.@@N@@.Jvm.D
/-! MADE BY PROGRAM (witnessworld.py) out of the Statement's table words and the real class files: 25 classes; the members and pool entries that the words name. The judged class is class 1, her method 1. -/
namespace start1
open Jvm.ClassFile
def u (s : String) : CpInfo := .utf8 (stringToUtf16 s)
/-- a pool by its gaps: so many unusable entries, then the entry; so many at the end -/
def gap : Nat → List CpInfo → List CpInfo
  | 0, r => r
  | n + 1, r => .unusable :: gap n r
def poolList (es : List (Nat × CpInfo)) (last : Nat) : List CpInfo := es.foldr (fun e r => gap e.1 (e.2 :: r)) (gap last [])
def pool (es : List (Nat × CpInfo)) (last : Nat) : Array CpInfo := ⟨poolList es last⟩
def fileOf (pool : Array CpInfo) (this : Nat) (attrs : Array Attribute := #[]) (ms : Array MethodInfo := #[]) (fl : Nat := 33) (sup : Nat := 0) (ifs : Array Nat := #[]) (fds : Array FieldInfo := #[]) : ClassFile where
  minorVersion := 0
  majorVersion := 65
  constantPool := pool
  accessFlags := fl
  thisClass := this
  superClass := sup
  interfaces := ifs
  fields := fds
  methods := ms
  attributes := attrs
def plain (name : String) (sup : Option ClassId) : Class where
  name := name
  kind := .ordinary
  loader := none
  accessFlags := 33
  super := sup
  interfaces := #[]
  cf := none
  fields := #[]
  methods := #[]
  instanceTypes := #[]
  staticTypes := #[]
  resolved := #[]
  callSites := []
  init := .initialized
  statics := none
  mirror := none

def pool0 : Array CpInfo := pool [(5, u "<init>"), (0, u "()V"), (1, .class_ 10), (1, u "java/lang/Object")] 113

def k0c0 : Code := { maxStack := 0, maxLocals := 1, code := object_method_1_code, exceptionTable := #[], attributes := #[] }
def k0m0 : Method := { name := "<init>", desc := "()V", sig := { parameters := [], returnType := none }, accessFlags := 1, code := some k0c0 }
/-- java/lang/Object -/
def k0 : Class := { plain "java/lang/Object" none with
  accessFlags := 33
  interfaces := #[]
  cf := some (fileOf pool0 8 #[] #[{ accessFlags := 1, nameIndex := 5, descriptorIndex := 6, attributes := #[] }] 33 0 #[] #[])
  fields := #[]
  methods := #[k0m0]
  instanceTypes := #[]
  staticTypes := #[]
  resolved := Array.replicate 124 none
  statics := none }

def pool1 : Array CpInfo := pool [(2, .class_ 4), (1, u "java/lang/Object"), (0, u "<init>"), (0, u "()V"), (0, .class_ 8), (0, u "java/lang/String"), (0, .methodref 7 10), (0, .nameAndType 5 11), (0, u "([C)V"), (0, .class_ 13), (0, u "com/example/palimpsest/palimpsest/history/KeyHistory"), (0, .methodref 12 15), (0, .nameAndType 5 16), (0, u "(Ljava/lang/String;I)V"), (0, .methodref 12 18), (0, .nameAndType 19 20), (0, u "disorder"), (0, u "()Ljava/lang/String;"), (0, .methodref 12 22), (0, .nameAndType 19 23), (0, u "(Ljava/lang/String;)V"), (0, .class_ 25), (0, u "com/example/palimpsest/palimpsest/history/KeyHistoryDisorderPinLaw"), (2, u "law"), (0, u "(IIII)Z")] 5

def k1m0 : Method := { name := "<init>", desc := "()V", sig := { parameters := [], returnType := none }, accessFlags := 1, code := none }
def k1c1 : Code := { maxStack := 5, maxLocals := 11, code := code, exceptionTable := #[], attributes := #[] }
def k1m1 : Method := { name := "law", desc := "(IIII)Z", sig := { parameters := [.int, .int, .int, .int], returnType := some .boolean }, accessFlags := 9, code := some k1c1 }
/-- com/example/palimpsest/palimpsest/history/KeyHistoryDisorderPinLaw -/
def k1 : Class := { plain "com/example/palimpsest/palimpsest/history/KeyHistoryDisorderPinLaw" (some 0) with
  accessFlags := 49
  interfaces := #[]
  cf := some (fileOf pool1 24 #[] #[{ accessFlags := 1, nameIndex := 5, descriptorIndex := 6, attributes := #[] }, { accessFlags := 9, nameIndex := 28, descriptorIndex := 29, attributes := #[] }] 49 2 #[] #[])
  fields := #[]
  methods := #[k1m0, k1m1]
  instanceTypes := #[]
  staticTypes := #[]
  resolved := Array.replicate 35 none
  statics := none }

def pool2 : Array CpInfo := pool [(1, .class_ 2), (0, u "java/io/Serializable"), (0, .class_ 4), (0, u "java/lang/Object")] 2

/-- java/io/Serializable -/
def k2 : Class := { plain "java/io/Serializable" (some 0) with
  accessFlags := 1537
  interfaces := #[]
  cf := some (fileOf pool2 1 #[] #[] 1537 3 #[] #[])
  fields := #[]
  methods := #[]
  instanceTypes := #[]
  staticTypes := #[]
  resolved := Array.replicate 7 none
  statics := none }

def pool3 : Array CpInfo := pool [(1, .class_ 2), (0, u "java/lang/Comparable"), (0, .class_ 4), (0, u "java/lang/Object")] 7

/-- java/lang/Comparable -/
def k3 : Class := { plain "java/lang/Comparable" (some 0) with
  accessFlags := 1537
  interfaces := #[]
  cf := some (fileOf pool3 1 #[] #[] 1537 3 #[] #[])
  fields := #[]
  methods := #[]
  instanceTypes := #[]
  staticTypes := #[]
  resolved := Array.replicate 12 none
  statics := none }

def pool4 : Array CpInfo := pool [(2, .class_ 4), (1, u "java/lang/CharSequence"), (42, .class_ 48), (0, u "java/lang/CharSequence$1CodePointIterator"), (10, .class_ 60), (0, u "java/lang/CharSequence$1CharIterator"), (5, .class_ 67), (0, u "java/lang/Object")] 63

/-- java/lang/CharSequence -/
def k4 : Class := { plain "java/lang/CharSequence" (some 0) with
  accessFlags := 1537
  interfaces := #[]
  cf := some (fileOf pool4 2 #[.nestMembers #[47, 59]] #[] 1537 66 #[] #[])
  fields := #[]
  methods := #[]
  instanceTypes := #[]
  staticTypes := #[]
  resolved := Array.replicate 131 none
  statics := none }

def pool5 : Array CpInfo := pool [(1, .class_ 2), (0, u "java/lang/constant/Constable"), (0, .class_ 4), (0, u "java/lang/Object")] 6

/-- java/lang/constant/Constable -/
def k5 : Class := { plain "java/lang/constant/Constable" (some 0) with
  accessFlags := 1537
  interfaces := #[]
  cf := some (fileOf pool5 1 #[] #[] 1537 3 #[] #[])
  fields := #[]
  methods := #[]
  instanceTypes := #[]
  staticTypes := #[]
  resolved := Array.replicate 11 none
  statics := none }

def pool6 : Array CpInfo := pool [(1, .class_ 2), (0, u "java/lang/constant/ConstantDesc"), (0, .class_ 4), (0, u "java/lang/Object")] 32

/-- java/lang/constant/ConstantDesc -/
def k6 : Class := { plain "java/lang/constant/ConstantDesc" (some 0) with
  accessFlags := 1537
  interfaces := #[]
  cf := some (fileOf pool6 1 #[] #[] 1537 3 #[] #[])
  fields := #[]
  methods := #[]
  instanceTypes := #[]
  staticTypes := #[]
  resolved := Array.replicate 37 none
  statics := none }

def pool7 : Array CpInfo := pool [(1, .methodref 2 3), (0, .class_ 4), (0, .nameAndType 5 6), (0, u "java/lang/Object"), (0, u "<init>"), (0, u "()V"), (0, .string 8), (0, u ""), (0, .fieldref 10 11), (0, .class_ 12), (0, .nameAndType 13 14), (0, u "java/lang/String"), (0, u "value"), (0, u "[B"), (0, .fieldref 10 16), (0, .nameAndType 17 18), (0, u "coder"), (0, u "B"), (2, u "hash"), (0, u "I"), (2, u "hashIsZero"), (0, u "Z"), (0, .methodref 10 28), (0, .nameAndType 5 29), (0, u "([CIILjava/lang/Void;)V"), (8, .fieldref 10 39), (0, .nameAndType 40 26), (0, u "COMPACT_STRINGS"), (1, .class_ 44), (1, u "java/lang/StringUTF16"), (0, u "compress"), (1, .methodref 42 48), (0, .nameAndType 49 50), (0, u "coderFromArrayLen"), (0, u "([BI)B"), (126, .methodref 42 178), (0, .nameAndType 45 179), (0, u "([CII)[B"), (395, .class_ 576), (0, u "java/lang/CharSequence"), (22, u "CASE_INSENSITIVE_ORDER"), (0, u "Ljava/util/Comparator;"), (409, u "([C)V"), (90, u "serialPersistentFields"), (0, u "[Ljava/io/ObjectStreamField;"), (0, .class_ 1104), (0, u "java/lang/String$CaseInsensitiveComparator"), (1, .class_ 1107), (0, u "java/io/Serializable"), (0, .class_ 1109), (0, u "java/lang/Comparable"), (0, .class_ 1111), (0, u "java/lang/constant/Constable"), (0, .class_ 1113), (0, u "java/lang/constant/ConstantDesc"), (2, u "serialVersionUID"), (0, u "J"), (3, u "REPL"), (0, u "C"), (2, u "LATIN1"), (1, u "UTF16")] 323

def k7m0 : Method := { name := "<init>", desc := "()V", sig := { parameters := [], returnType := none }, accessFlags := 1, code := none }
def k7c1 : Code := { maxStack := 5, maxLocals := 2, code := jdk_42_method_3_code, exceptionTable := #[], attributes := #[] }
def k7m1 : Method := { name := "<init>", desc := "([C)V", sig := { parameters := [(.array .char)], returnType := none }, accessFlags := 1, code := some k7c1 }
def k7c2 : Code := { maxStack := 4, maxLocals := 6, code := jdk_42_method_149_code, exceptionTable := #[], attributes := #[] }
def k7m2 : Method := { name := "<init>", desc := "([CIILjava/lang/Void;)V", sig := { parameters := [(.array .char), .int, .int, (.object "java/lang/Void")], returnType := none }, accessFlags := 2, code := some k7c2 }
/-- java/lang/String -/
def k7 : Class := { plain "java/lang/String" (some 0) with
  accessFlags := 49
  interfaces := #[2, 3, 4, 5, 6]
  cf := some (fileOf pool7 10 #[.nestMembers #[1103]] #[{ accessFlags := 1, nameIndex := 5, descriptorIndex := 6, attributes := #[] }, { accessFlags := 1, nameIndex := 5, descriptorIndex := 1010, attributes := #[] }, { accessFlags := 2, nameIndex := 5, descriptorIndex := 29, attributes := #[] }] 49 2 #[1106, 1108, 575, 1110, 1112] #[{ accessFlags := 18, nameIndex := 13, descriptorIndex := 14, attributes := #[] }, { accessFlags := 18, nameIndex := 17, descriptorIndex := 18, attributes := #[] }, { accessFlags := 2, nameIndex := 21, descriptorIndex := 22, attributes := #[] }, { accessFlags := 2, nameIndex := 25, descriptorIndex := 26, attributes := #[] }, { accessFlags := 26, nameIndex := 1116, descriptorIndex := 1117, attributes := #[] }, { accessFlags := 24, nameIndex := 40, descriptorIndex := 26, attributes := #[] }, { accessFlags := 26, nameIndex := 1101, descriptorIndex := 1102, attributes := #[] }, { accessFlags := 26, nameIndex := 1121, descriptorIndex := 1122, attributes := #[] }, { accessFlags := 25, nameIndex := 599, descriptorIndex := 600, attributes := #[] }, { accessFlags := 24, nameIndex := 1125, descriptorIndex := 18, attributes := #[] }, { accessFlags := 24, nameIndex := 1127, descriptorIndex := 18, attributes := #[] }])
  fields := #[{ name := "value", type := (.array .byte), accessFlags := 18, slot := 0, constantValue := 0 }, { name := "coder", type := .byte, accessFlags := 18, slot := 1, constantValue := 0 }, { name := "hash", type := .int, accessFlags := 2, slot := 2, constantValue := 0 }, { name := "hashIsZero", type := .boolean, accessFlags := 2, slot := 3, constantValue := 0 }, { name := "serialVersionUID", type := .long, accessFlags := 26, slot := 0, constantValue := 0 }, { name := "COMPACT_STRINGS", type := .boolean, accessFlags := 24, slot := 1, constantValue := 0 }, { name := "serialPersistentFields", type := (.array (.object "java/io/ObjectStreamField")), accessFlags := 26, slot := 2, constantValue := 0 }, { name := "REPL", type := .char, accessFlags := 26, slot := 3, constantValue := 0 }, { name := "CASE_INSENSITIVE_ORDER", type := (.object "java/util/Comparator"), accessFlags := 25, slot := 4, constantValue := 0 }, { name := "LATIN1", type := .byte, accessFlags := 24, slot := 5, constantValue := 0 }, { name := "UTF16", type := .byte, accessFlags := 24, slot := 6, constantValue := 0 }]
  methods := #[k7m0, k7m1, k7m2]
  instanceTypes := #[(.array .byte), .byte, .int, .boolean]
  staticTypes := #[.long, .boolean, (.array (.object "java/io/ObjectStreamField")), .char, (.object "java/util/Comparator"), .byte, .byte]
  resolved := Array.replicate 1451 none
  statics := some 0 }

def pool8 : Array CpInfo := pool [(6, .class_ 8), (1, u "java/lang/Object"), (0, u "<init>"), (0, u "()V"), (1, .class_ 14), (1, u "java/lang/StringUTF16"), (31, u "$assertionsDisabled"), (0, u "Z"), (13, u "HI_BYTE_SHIFT"), (0, u "I"), (2, u "LO_BYTE_SHIFT"), (49, .methodref 12 116), (0, .nameAndType 117 118), (0, u "compress"), (0, u "([CI[BII)I"), (3, u "([CII)[B"), (138, u "coderFromArrayLen"), (0, u "([BI)B"), (106, .class_ 371), (1, u "java/lang/StringUTF16$LinesSpliterator"), (58, u "MAX_LENGTH"), (196, .class_ 628), (0, u "java/lang/StringUTF16$CodePointsSpliterator"), (0, .class_ 630), (0, u "java/lang/StringUTF16$CharsSpliterator")] 4

def k8m0 : Method := { name := "<init>", desc := "()V", sig := { parameters := [], returnType := none }, accessFlags := 0, code := none }
def k8c1 : Code := { maxStack := 2, maxLocals := 2, code := jdk_52_method_15_code, exceptionTable := #[], attributes := #[] }
def k8m1 : Method := { name := "coderFromArrayLen", desc := "([BI)B", sig := { parameters := [(.array .byte), .int], returnType := some .byte }, accessFlags := 8, code := some k8c1 }
def k8c2 : Code := { maxStack := 5, maxLocals := 6, code := jdk_52_method_16_code, exceptionTable := #[], attributes := #[] }
def k8m2 : Method := { name := "compress", desc := "([CII)[B", sig := { parameters := [(.array .char), .int, .int], returnType := some (.array .byte) }, accessFlags := 9, code := some k8c2 }
def k8c3 : Code := { maxStack := 3, maxLocals := 7, code := jdk_52_method_21_code, exceptionTable := #[], attributes := #[] }
def k8m3 : Method := { name := "compress", desc := "([CI[BII)I", sig := { parameters := [(.array .char), .int, (.array .byte), .int, .int], returnType := some .int }, accessFlags := 9, code := some k8c3 }
/-- java/lang/StringUTF16 -/
def k8 : Class := { plain "java/lang/StringUTF16" (some 0) with
  accessFlags := 48
  interfaces := #[]
  cf := some (fileOf pool8 12 #[.nestMembers #[627, 629, 369]] #[{ accessFlags := 0, nameIndex := 9, descriptorIndex := 10, attributes := #[] }, { accessFlags := 8, nameIndex := 261, descriptorIndex := 262, attributes := #[] }, { accessFlags := 9, nameIndex := 117, descriptorIndex := 122, attributes := #[] }, { accessFlags := 9, nameIndex := 117, descriptorIndex := 118, attributes := #[] }] 48 6 #[] #[{ accessFlags := 26, nameIndex := 61, descriptorIndex := 62, attributes := #[] }, { accessFlags := 26, nameIndex := 65, descriptorIndex := 62, attributes := #[] }, { accessFlags := 24, nameIndex := 430, descriptorIndex := 62, attributes := #[] }, { accessFlags := 4120, nameIndex := 46, descriptorIndex := 47, attributes := #[] }])
  fields := #[{ name := "HI_BYTE_SHIFT", type := .int, accessFlags := 26, slot := 0, constantValue := 0 }, { name := "LO_BYTE_SHIFT", type := .int, accessFlags := 26, slot := 1, constantValue := 0 }, { name := "MAX_LENGTH", type := .int, accessFlags := 24, slot := 2, constantValue := 0 }, { name := "$assertionsDisabled", type := .boolean, accessFlags := 4120, slot := 3, constantValue := 0 }]
  methods := #[k8m0, k8m1, k8m2, k8m3]
  instanceTypes := #[]
  staticTypes := #[.int, .int, .int, .boolean]
  resolved := Array.replicate 635 none
  statics := none }

def pool9 : Array CpInfo := pool [(1, .methodref 2 3), (0, .class_ 4), (0, .nameAndType 5 6), (0, u "java/lang/Object"), (0, u "<init>"), (0, u "()V"), (0, .class_ 8), (0, u "java/util/HashMap"), (0, .methodref 7 3), (0, .fieldref 11 12), (0, .class_ 13), (0, .nameAndType 14 15), (0, u "com/example/palimpsest/palimpsest/history/KeyHistory"), (0, u "appends"), (0, u "Ljava/util/Map;"), (0, .fieldref 11 17), (0, .nameAndType 18 19), (0, u "longest"), (0, u "[J"), (0, .fieldref 11 21), (0, .nameAndType 22 23), (0, u "longestReader"), (0, u "I"), (0, .fieldref 11 25), (0, .nameAndType 26 27), (0, u "name"), (0, u "Ljava/lang/String;"), (0, .fieldref 11 29), (0, .nameAndType 30 23), (0, u "number"), (2, u "length"), (25, .fieldref 11 60), (0, .nameAndType 61 27), (0, u "disorder"), (2, u "order"), (0, u "[I"), (0, u "nextCommitted"), (0, u "nextOtherCommitted"), (0, u "(Ljava/lang/String;I)V"), (9, u "()Ljava/lang/String;"), (0, u "(Ljava/lang/String;)V")] 2

def k9c0 : Code := { maxStack := 3, maxLocals := 3, code := prog_139_method_1_code, exceptionTable := #[], attributes := #[] }
def k9m0 : Method := { name := "<init>", desc := "(Ljava/lang/String;I)V", sig := { parameters := [(.object "java/lang/String"), .int], returnType := none }, accessFlags := 0, code := some k9c0 }
def k9c1 : Code := { maxStack := 1, maxLocals := 1, code := prog_139_method_6_code, exceptionTable := #[], attributes := #[] }
def k9m1 : Method := { name := "disorder", desc := "()Ljava/lang/String;", sig := { parameters := [], returnType := some (.object "java/lang/String") }, accessFlags := 0, code := some k9c1 }
def k9c2 : Code := { maxStack := 2, maxLocals := 2, code := prog_139_method_7_code, exceptionTable := #[], attributes := #[] }
def k9m2 : Method := { name := "disorder", desc := "(Ljava/lang/String;)V", sig := { parameters := [(.object "java/lang/String")], returnType := none }, accessFlags := 0, code := some k9c2 }
/-- com/example/palimpsest/palimpsest/history/KeyHistory -/
def k9 : Class := { plain "com/example/palimpsest/palimpsest/history/KeyHistory" (some 0) with
  accessFlags := 48
  interfaces := #[]
  cf := some (fileOf pool9 11 #[] #[{ accessFlags := 0, nameIndex := 5, descriptorIndex := 68, attributes := #[] }, { accessFlags := 0, nameIndex := 61, descriptorIndex := 78, attributes := #[] }, { accessFlags := 0, nameIndex := 61, descriptorIndex := 79, attributes := #[] }] 48 2 #[] #[{ accessFlags := 16, nameIndex := 26, descriptorIndex := 27, attributes := #[] }, { accessFlags := 16, nameIndex := 30, descriptorIndex := 23, attributes := #[] }, { accessFlags := 16, nameIndex := 14, descriptorIndex := 15, attributes := #[] }, { accessFlags := 2, nameIndex := 18, descriptorIndex := 19, attributes := #[] }, { accessFlags := 2, nameIndex := 33, descriptorIndex := 23, attributes := #[] }, { accessFlags := 2, nameIndex := 22, descriptorIndex := 23, attributes := #[] }, { accessFlags := 2, nameIndex := 61, descriptorIndex := 27, attributes := #[] }, { accessFlags := 0, nameIndex := 64, descriptorIndex := 65, attributes := #[] }, { accessFlags := 0, nameIndex := 66, descriptorIndex := 65, attributes := #[] }, { accessFlags := 0, nameIndex := 67, descriptorIndex := 65, attributes := #[] }])
  fields := #[{ name := "name", type := (.object "java/lang/String"), accessFlags := 16, slot := 0, constantValue := 0 }, { name := "number", type := .int, accessFlags := 16, slot := 1, constantValue := 0 }, { name := "appends", type := (.object "java/util/Map"), accessFlags := 16, slot := 2, constantValue := 0 }, { name := "longest", type := (.array .long), accessFlags := 2, slot := 3, constantValue := 0 }, { name := "length", type := .int, accessFlags := 2, slot := 4, constantValue := 0 }, { name := "longestReader", type := .int, accessFlags := 2, slot := 5, constantValue := 0 }, { name := "disorder", type := (.object "java/lang/String"), accessFlags := 2, slot := 6, constantValue := 0 }, { name := "order", type := (.array .int), accessFlags := 0, slot := 7, constantValue := 0 }, { name := "nextCommitted", type := (.array .int), accessFlags := 0, slot := 8, constantValue := 0 }, { name := "nextOtherCommitted", type := (.array .int), accessFlags := 0, slot := 9, constantValue := 0 }]
  methods := #[k9m0, k9m1, k9m2]
  instanceTypes := #[(.object "java/lang/String"), .int, (.object "java/util/Map"), (.array .long), .int, .int, (.object "java/lang/String"), (.array .int), (.array .int), (.array .int)]
  staticTypes := #[]
  resolved := Array.replicate 82 none
  statics := none }

def pool10 : Array CpInfo := pool [(2, .class_ 4), (1, u "java/util/Map"), (31, .class_ 37), (0, u "java/util/Map$Entry"), (55, .class_ 94), (0, u "java/lang/Object")] 168

/-- java/util/Map -/
def k10 : Class := { plain "java/util/Map" (some 0) with
  accessFlags := 1537
  interfaces := #[]
  cf := some (fileOf pool10 2 #[.nestMembers #[36]] #[] 1537 93 #[] #[])
  fields := #[]
  methods := #[]
  instanceTypes := #[]
  staticTypes := #[]
  resolved := Array.replicate 263 none
  statics := none }

def pool11 : Array CpInfo := pool [(1, .methodref 2 3), (0, .class_ 4), (0, .nameAndType 5 6), (0, u "java/lang/Object"), (0, u "<init>"), (0, u "()V"), (1, .class_ 10), (1, u "java/util/AbstractMap"), (42, .class_ 54), (0, u "java/util/Map"), (9, u "keySet"), (0, u "Ljava/util/Set;"), (0, .class_ 67), (0, u "java/util/AbstractMap$1"), (5, u "values"), (0, u "Ljava/util/Collection;"), (0, .class_ 76), (0, u "java/util/AbstractMap$2"), (104, .class_ 182), (0, u "java/util/AbstractMap$ViewCollection"), (0, .class_ 184), (0, u "java/util/AbstractMap$SimpleImmutableEntry"), (0, .class_ 186), (0, u "java/util/AbstractMap$SimpleEntry"), (0, .class_ 188), (0, u "java/util/AbstractMap$2$1"), (0, .class_ 190), (0, u "java/util/AbstractMap$1$1")] 5

def k11c0 : Code := { maxStack := 1, maxLocals := 1, code := jdk_71_method_1_code, exceptionTable := #[], attributes := #[] }
def k11m0 : Method := { name := "<init>", desc := "()V", sig := { parameters := [], returnType := none }, accessFlags := 4, code := some k11c0 }
/-- java/util/AbstractMap -/
def k11 : Class := { plain "java/util/AbstractMap" (some 0) with
  accessFlags := 1057
  interfaces := #[10]
  cf := some (fileOf pool11 8 #[.nestMembers #[181, 183, 185, 75, 187, 66, 189]] #[{ accessFlags := 4, nameIndex := 5, descriptorIndex := 6, attributes := #[] }] 1057 2 #[53] #[{ accessFlags := 128, nameIndex := 64, descriptorIndex := 65, attributes := #[] }, { accessFlags := 128, nameIndex := 73, descriptorIndex := 74, attributes := #[] }])
  fields := #[{ name := "keySet", type := (.object "java/util/Set"), accessFlags := 128, slot := 0, constantValue := 0 }, { name := "values", type := (.object "java/util/Collection"), accessFlags := 128, slot := 1, constantValue := 0 }]
  methods := #[k11m0]
  instanceTypes := #[(.object "java/util/Set"), (.object "java/util/Collection")]
  staticTypes := #[]
  resolved := Array.replicate 196 none
  statics := none }

def pool12 : Array CpInfo := pool [(1, .class_ 2), (0, u "java/lang/Cloneable"), (0, .class_ 4), (0, u "java/lang/Object")] 2

/-- java/lang/Cloneable -/
def k12 : Class := { plain "java/lang/Cloneable" (some 0) with
  accessFlags := 1537
  interfaces := #[]
  cf := some (fileOf pool12 1 #[] #[] 1537 3 #[] #[])
  fields := #[]
  methods := #[]
  instanceTypes := #[]
  staticTypes := #[]
  resolved := Array.replicate 7 none
  statics := none }

def pool13 : Array CpInfo := pool [(40, .class_ 41), (0, u "java/util/HashMap"), (1, .methodref 44 45), (0, .class_ 46), (0, .nameAndType 47 48), (0, u "java/util/AbstractMap"), (0, u "<init>"), (0, u "()V"), (32, .fieldref 40 82), (0, .nameAndType 83 84), (0, u "loadFactor"), (0, u "F"), (5, u "threshold"), (0, u "I"), (0, .float 1061158912), (8, .class_ 103), (1, u "java/util/Map"), (0, u "size"), (2, u "table"), (0, u "[Ljava/util/HashMap$Node;"), (14, u "entrySet"), (39, .class_ 165), (1, u "java/util/HashMap$Node"), (14, .class_ 181), (0, u "java/util/HashMap$TreeNode"), (22, u "modCount"), (37, u "Ljava/util/Set;"), (0, .class_ 244), (0, u "java/util/HashMap$KeySet"), (18, .class_ 264), (0, u "java/util/HashMap$Values"), (3, .class_ 269), (0, u "java/util/HashMap$EntrySet"), (76, .class_ 348), (1, u "java/util/HashMap$UnsafeHolder"), (43, .class_ 393), (0, u "java/lang/Cloneable"), (0, .class_ 395), (0, u "java/io/Serializable"), (0, u "serialVersionUID"), (0, u "J"), (3, u "DEFAULT_INITIAL_CAPACITY"), (1, u "MAXIMUM_CAPACITY"), (0, u "DEFAULT_LOAD_FACTOR"), (0, u "TREEIFY_THRESHOLD"), (1, u "UNTREEIFY_THRESHOLD"), (1, u "MIN_TREEIFY_CAPACITY"), (186, .class_ 597), (0, u "java/util/HashMap$EntrySpliterator"), (0, .class_ 599), (0, u "java/util/HashMap$ValueSpliterator"), (0, .class_ 601), (0, u "java/util/HashMap$KeySpliterator"), (0, .class_ 603), (0, u "java/util/HashMap$HashMapSpliterator"), (0, .class_ 605), (0, u "java/util/HashMap$EntryIterator"), (0, .class_ 607), (0, u "java/util/HashMap$ValueIterator"), (0, .class_ 609), (0, u "java/util/HashMap$KeyIterator"), (0, .class_ 611), (0, u "java/util/HashMap$HashIterator")] 17

def k13c0 : Code := { maxStack := 2, maxLocals := 1, code := jdk_69_method_7_code, exceptionTable := #[], attributes := #[] }
def k13m0 : Method := { name := "<init>", desc := "()V", sig := { parameters := [], returnType := none }, accessFlags := 1, code := some k13c0 }
/-- java/util/HashMap -/
def k13 : Class := { plain "java/util/HashMap" (some 11) with
  accessFlags := 33
  interfaces := #[10, 12, 2]
  cf := some (fileOf pool13 40 #[.nestMembers #[180, 596, 598, 600, 602, 604, 606, 608, 610, 346, 268, 263, 243, 163]] #[{ accessFlags := 1, nameIndex := 47, descriptorIndex := 48, attributes := #[] }] 33 44 #[101, 392, 394] #[{ accessFlags := 26, nameIndex := 396, descriptorIndex := 397, attributes := #[] }, { accessFlags := 24, nameIndex := 401, descriptorIndex := 91, attributes := #[] }, { accessFlags := 24, nameIndex := 403, descriptorIndex := 91, attributes := #[] }, { accessFlags := 24, nameIndex := 404, descriptorIndex := 84, attributes := #[] }, { accessFlags := 24, nameIndex := 405, descriptorIndex := 91, attributes := #[] }, { accessFlags := 24, nameIndex := 407, descriptorIndex := 91, attributes := #[] }, { accessFlags := 24, nameIndex := 409, descriptorIndex := 91, attributes := #[] }, { accessFlags := 128, nameIndex := 107, descriptorIndex := 108, attributes := #[] }, { accessFlags := 128, nameIndex := 123, descriptorIndex := 242, attributes := #[] }, { accessFlags := 128, nameIndex := 104, descriptorIndex := 91, attributes := #[] }, { accessFlags := 128, nameIndex := 204, descriptorIndex := 91, attributes := #[] }, { accessFlags := 0, nameIndex := 90, descriptorIndex := 91, attributes := #[] }, { accessFlags := 16, nameIndex := 83, descriptorIndex := 84, attributes := #[] }])
  fields := #[{ name := "serialVersionUID", type := .long, accessFlags := 26, slot := 0, constantValue := 0 }, { name := "DEFAULT_INITIAL_CAPACITY", type := .int, accessFlags := 24, slot := 1, constantValue := 0 }, { name := "MAXIMUM_CAPACITY", type := .int, accessFlags := 24, slot := 2, constantValue := 0 }, { name := "DEFAULT_LOAD_FACTOR", type := .float, accessFlags := 24, slot := 3, constantValue := 0 }, { name := "TREEIFY_THRESHOLD", type := .int, accessFlags := 24, slot := 4, constantValue := 0 }, { name := "UNTREEIFY_THRESHOLD", type := .int, accessFlags := 24, slot := 5, constantValue := 0 }, { name := "MIN_TREEIFY_CAPACITY", type := .int, accessFlags := 24, slot := 6, constantValue := 0 }, { name := "table", type := (.array (.object "java/util/HashMap$Node")), accessFlags := 128, slot := 2, constantValue := 0 }, { name := "entrySet", type := (.object "java/util/Set"), accessFlags := 128, slot := 3, constantValue := 0 }, { name := "size", type := .int, accessFlags := 128, slot := 4, constantValue := 0 }, { name := "modCount", type := .int, accessFlags := 128, slot := 5, constantValue := 0 }, { name := "threshold", type := .int, accessFlags := 0, slot := 6, constantValue := 0 }, { name := "loadFactor", type := .float, accessFlags := 16, slot := 7, constantValue := 0 }]
  methods := #[k13m0]
  instanceTypes := #[(.object "java/util/Set"), (.object "java/util/Collection"), (.array (.object "java/util/HashMap$Node")), (.object "java/util/Set"), .int, .int, .int, .float]
  staticTypes := #[.long, .int, .int, .float, .int, .int, .int]
  resolved := Array.replicate 629 none
  statics := none }

def pool14 : Array CpInfo := pool [(4, .class_ 6), (1, u "java/lang/Object"), (0, u "<init>"), (0, u "()V"), (5, .class_ 16), (1, u "java/lang/StringLatin1"), (104, u "$assertionsDisabled"), (0, u "Z"), (98, .class_ 223), (1, u "java/lang/StringLatin1$LinesSpliterator"), (166, .class_ 391), (0, u "java/lang/StringLatin1$CharsSpliterator")] 3

def k14m0 : Method := { name := "<init>", desc := "()V", sig := { parameters := [], returnType := none }, accessFlags := 0, code := none }
/-- java/lang/StringLatin1 -/
def k14 : Class := { plain "java/lang/StringLatin1" (some 0) with
  accessFlags := 48
  interfaces := #[]
  cf := some (fileOf pool14 14 #[.nestMembers #[390, 221]] #[{ accessFlags := 0, nameIndex := 7, descriptorIndex := 8, attributes := #[] }] 48 4 #[] #[{ accessFlags := 4120, nameIndex := 121, descriptorIndex := 122, attributes := #[] }])
  fields := #[{ name := "$assertionsDisabled", type := .boolean, accessFlags := 4120, slot := 0, constantValue := 0 }]
  methods := #[k14m0]
  instanceTypes := #[]
  staticTypes := #[.boolean]
  resolved := Array.replicate 395 none
  statics := none }

def pool15 : Array CpInfo := pool [(2, .class_ 4), (1, u "java/lang/Object"), (0, u "<init>"), (0, u "()V"), (17, .class_ 26), (1, u "jdk/internal/util/Preconditions"), (28, .class_ 56), (0, u "jdk/internal/util/Preconditions$4"), (57, .class_ 115), (0, u "jdk/internal/util/Preconditions$1"), (7, u "SIOOBE_FORMATTER"), (0, u "Ljava/util/function/BiFunction;"), (0, .class_ 126), (0, u "jdk/internal/util/Preconditions$2"), (3, u "AIOOBE_FORMATTER"), (0, .class_ 132), (0, u "jdk/internal/util/Preconditions$3"), (3, u "IOOBE_FORMATTER")] 57

def k15m0 : Method := { name := "<init>", desc := "()V", sig := { parameters := [], returnType := none }, accessFlags := 1, code := none }
/-- jdk/internal/util/Preconditions -/
def k15 : Class := { plain "jdk/internal/util/Preconditions" (some 0) with
  accessFlags := 33
  interfaces := #[]
  cf := some (fileOf pool15 24 #[.nestMembers #[55, 131, 125, 114]] #[{ accessFlags := 1, nameIndex := 5, descriptorIndex := 6, attributes := #[] }] 33 2 #[] #[{ accessFlags := 25, nameIndex := 123, descriptorIndex := 124, attributes := #[] }, { accessFlags := 25, nameIndex := 130, descriptorIndex := 124, attributes := #[] }, { accessFlags := 25, nameIndex := 136, descriptorIndex := 124, attributes := #[] }])
  fields := #[{ name := "SIOOBE_FORMATTER", type := (.object "java/util/function/BiFunction"), accessFlags := 25, slot := 0, constantValue := 0 }, { name := "AIOOBE_FORMATTER", type := (.object "java/util/function/BiFunction"), accessFlags := 25, slot := 1, constantValue := 0 }, { name := "IOOBE_FORMATTER", type := (.object "java/util/function/BiFunction"), accessFlags := 25, slot := 2, constantValue := 0 }]
  methods := #[k15m0]
  instanceTypes := #[]
  staticTypes := #[(.object "java/util/function/BiFunction"), (.object "java/util/function/BiFunction"), (.object "java/util/function/BiFunction")]
  resolved := Array.replicate 194 none
  statics := some 1 }

def pool16 : Array CpInfo := pool [(9, u "<init>"), (6, .class_ 18), (1, u "java/lang/Object"), (0, u "()V"), (1, .class_ 23), (1, u "jdk/internal/util/ArraysSupport"), (0, u "LOG2_ARRAY_LONG_INDEX_SCALE"), (0, u "I"), (2, u "U"), (0, u "Ljdk/internal/misc/Unsafe;"), (8, u "BIG_ENDIAN"), (0, u "Z"), (8, u "LOG2_BYTE_BIT_SIZE"), (4, u "LOG2_ARRAY_INT_INDEX_SCALE"), (54, u "JLA"), (0, u "Ljdk/internal/access/JavaLangAccess;"), (11, u "LOG2_ARRAY_BOOLEAN_INDEX_SCALE"), (9, u "LOG2_ARRAY_BYTE_INDEX_SCALE"), (5, u "LOG2_ARRAY_CHAR_INDEX_SCALE"), (5, u "LOG2_ARRAY_SHORT_INDEX_SCALE"), (18, u "LOG2_ARRAY_FLOAT_INDEX_SCALE"), (24, u "LOG2_ARRAY_DOUBLE_INDEX_SCALE"), (89, u "T_BOOLEAN"), (2, u "T_CHAR"), (1, u "T_FLOAT"), (1, u "T_DOUBLE"), (1, u "T_BYTE"), (1, u "T_SHORT"), (1, u "T_INT"), (1, u "T_LONG"), (1, u "SOFT_MAX_ARRAY_LENGTH")] 83

def k16m0 : Method := { name := "<init>", desc := "()V", sig := { parameters := [], returnType := none }, accessFlags := 2, code := none }
/-- jdk/internal/util/ArraysSupport -/
def k16 : Class := { plain "jdk/internal/util/ArraysSupport" (some 0) with
  accessFlags := 33
  interfaces := #[]
  cf := some (fileOf pool16 21 #[] #[{ accessFlags := 2, nameIndex := 9, descriptorIndex := 19, attributes := #[] }] 33 16 #[] #[{ accessFlags := 24, nameIndex := 28, descriptorIndex := 29, attributes := #[] }, { accessFlags := 26, nameIndex := 38, descriptorIndex := 39, attributes := #[] }, { accessFlags := 25, nameIndex := 121, descriptorIndex := 25, attributes := #[] }, { accessFlags := 25, nameIndex := 131, descriptorIndex := 25, attributes := #[] }, { accessFlags := 25, nameIndex := 137, descriptorIndex := 25, attributes := #[] }, { accessFlags := 25, nameIndex := 143, descriptorIndex := 25, attributes := #[] }, { accessFlags := 25, nameIndex := 53, descriptorIndex := 25, attributes := #[] }, { accessFlags := 25, nameIndex := 24, descriptorIndex := 25, attributes := #[] }, { accessFlags := 25, nameIndex := 162, descriptorIndex := 25, attributes := #[] }, { accessFlags := 25, nameIndex := 187, descriptorIndex := 25, attributes := #[] }, { accessFlags := 26, nameIndex := 48, descriptorIndex := 25, attributes := #[] }, { accessFlags := 25, nameIndex := 277, descriptorIndex := 25, attributes := #[] }, { accessFlags := 25, nameIndex := 280, descriptorIndex := 25, attributes := #[] }, { accessFlags := 25, nameIndex := 282, descriptorIndex := 25, attributes := #[] }, { accessFlags := 25, nameIndex := 284, descriptorIndex := 25, attributes := #[] }, { accessFlags := 25, nameIndex := 286, descriptorIndex := 25, attributes := #[] }, { accessFlags := 25, nameIndex := 288, descriptorIndex := 25, attributes := #[] }, { accessFlags := 25, nameIndex := 290, descriptorIndex := 25, attributes := #[] }, { accessFlags := 25, nameIndex := 292, descriptorIndex := 25, attributes := #[] }, { accessFlags := 26, nameIndex := 108, descriptorIndex := 109, attributes := #[] }, { accessFlags := 25, nameIndex := 294, descriptorIndex := 25, attributes := #[] }])
  fields := #[{ name := "U", type := (.object "jdk/internal/misc/Unsafe"), accessFlags := 24, slot := 0, constantValue := 0 }, { name := "BIG_ENDIAN", type := .boolean, accessFlags := 26, slot := 1, constantValue := 0 }, { name := "LOG2_ARRAY_BOOLEAN_INDEX_SCALE", type := .int, accessFlags := 25, slot := 2, constantValue := 0 }, { name := "LOG2_ARRAY_BYTE_INDEX_SCALE", type := .int, accessFlags := 25, slot := 3, constantValue := 0 }, { name := "LOG2_ARRAY_CHAR_INDEX_SCALE", type := .int, accessFlags := 25, slot := 4, constantValue := 0 }, { name := "LOG2_ARRAY_SHORT_INDEX_SCALE", type := .int, accessFlags := 25, slot := 5, constantValue := 0 }, { name := "LOG2_ARRAY_INT_INDEX_SCALE", type := .int, accessFlags := 25, slot := 6, constantValue := 0 }, { name := "LOG2_ARRAY_LONG_INDEX_SCALE", type := .int, accessFlags := 25, slot := 7, constantValue := 0 }, { name := "LOG2_ARRAY_FLOAT_INDEX_SCALE", type := .int, accessFlags := 25, slot := 8, constantValue := 0 }, { name := "LOG2_ARRAY_DOUBLE_INDEX_SCALE", type := .int, accessFlags := 25, slot := 9, constantValue := 0 }, { name := "LOG2_BYTE_BIT_SIZE", type := .int, accessFlags := 26, slot := 10, constantValue := 0 }, { name := "T_BOOLEAN", type := .int, accessFlags := 25, slot := 11, constantValue := 0 }, { name := "T_CHAR", type := .int, accessFlags := 25, slot := 12, constantValue := 0 }, { name := "T_FLOAT", type := .int, accessFlags := 25, slot := 13, constantValue := 0 }, { name := "T_DOUBLE", type := .int, accessFlags := 25, slot := 14, constantValue := 0 }, { name := "T_BYTE", type := .int, accessFlags := 25, slot := 15, constantValue := 0 }, { name := "T_SHORT", type := .int, accessFlags := 25, slot := 16, constantValue := 0 }, { name := "T_INT", type := .int, accessFlags := 25, slot := 17, constantValue := 0 }, { name := "T_LONG", type := .int, accessFlags := 25, slot := 18, constantValue := 0 }, { name := "JLA", type := (.object "jdk/internal/access/JavaLangAccess"), accessFlags := 26, slot := 19, constantValue := 0 }, { name := "SOFT_MAX_ARRAY_LENGTH", type := .int, accessFlags := 25, slot := 20, constantValue := 0 }]
  methods := #[k16m0]
  instanceTypes := #[]
  staticTypes := #[(.object "jdk/internal/misc/Unsafe"), .boolean, .int, .int, .int, .int, .int, .int, .int, .int, .int, .int, .int, .int, .int, .int, .int, .int, .int, (.object "jdk/internal/access/JavaLangAccess"), .int]
  resolved := Array.replicate 378 none
  statics := none }

/-- the primitive byte -/
def k17 : Class := { plain "byte" none with kind := .primitive 'B', accessFlags := 0x411 }
/-- [B -/
def k18 : Class := { plain "[B" (some 0) with kind := .array 17 .byte, interfaces := #[12, 2], accessFlags := 1041 }

/-- the primitive char -/
def k19 : Class := { plain "char" none with kind := .primitive 'C', accessFlags := 0x411 }
/-- [C -/
def k20 : Class := { plain "[C" (some 0) with kind := .array 19 .char, interfaces := #[12, 2], accessFlags := 1041 }

/-- the primitive int -/
def k21 : Class := { plain "int" none with kind := .primitive 'I', accessFlags := 0x411 }
/-- [I -/
def k22 : Class := { plain "[I" (some 0) with kind := .array 21 .int, interfaces := #[12, 2], accessFlags := 1041 }

/-- the primitive long -/
def k23 : Class := { plain "long" none with kind := .primitive 'J', accessFlags := 0x411 }
/-- [J -/
def k24 : Class := { plain "[J" (some 0) with kind := .array 23 .long, interfaces := #[12, 2], accessFlags := 1041 }

def heap : Heap := #[{ cls := 7, slots := #[.long 0, .int 1, .null, .int 0, .null, .int 0, .int 0], vm := .statics 7 },
  { cls := 15, slots := #[.null, .null, .null], vm := .statics 15 }]
def classes : Array Class := #[k0, k1, k2, k3, k4, k5, k6, k7, k8, k9, k10, k11, k12, k13, k14, k15, k16, k17, k18, k19, k20, k21, k22, k23, k24]
def interned : List (Array UInt16 × Addr) := []
def slotsUsed : Nat := 10
def theMethod : MethodId := ⟨1, 1⟩
def args0 : Array Value := #[.int 5, .int 9, .int 0, .int 3]
def aboutOver (below : List Frame) : State where
  vm := { classes := classes, interned := interned.toArray }
  heap := heap
  slotsUsed := slotsUsed
  threads := #[{ frames := .invoking theMethod args0 :: below }]
def below0 : List Frame := [.native { method := ⟨0, 0⟩, args := #[] }]
def about1 : State := aboutOver below0
def p0 : Program := .bare "" "" ""
def e0 : Env := launch0.env 0 0 0
theorem w_frames : about1.frames = Frame.invoking theMethod args0 :: below0 := rfl
set_option maxRecDepth 65536 in
theorem w_args : argsFit about1.vm theMethod args0 = true := by decide +kernel
set_option maxRecDepth 65536 in
theorem w_heap : heapFits about1 = true := by decide +kernel
set_option maxRecDepth 65536 in
theorem w_runnable : about1.curStatus? = some .runnable := by decide +kernel
set_option maxRecDepth 65536 in
theorem w_alone : about1.alone = true := by decide +kernel
set_option maxRecDepth 65536 in
theorem w_named : about1.methodNamed? x = some theMethod := by decide +kernel
set_option maxRecDepth 65536 in
theorem w_hears : about1.hears theMethod below0 = true := by decide +kernel
set_option maxRecDepth 65536 in
theorem w_ripe : about1.ripe theMethod args0 below0 = true := by decide +kernel
theorem w_running : about1.status = .running := rfl
set_option maxRecDepth 65536 in
theorem w_room : about1.hasRoom e0.platform room_1 = true :=
  launch0.hasRoom_least _ room_1 (by decide +kernel) (by decide +kernel) (by decide +kernel) (by decide +kernel) (by decide +kernel) (by decide +kernel)
theorem allAtoms_all (ts : List Jvm.Cond) (a : Array Jvm.Value) (st : Jvm.State) : (allAtoms ts).before a st = ts.all (fun c => c.before a st) := by
  induction ts with
  | nil => rfl
  | cons c t ih =>
    show (Jvm.Cond.and c (allAtoms t)).before a st = _
    rw [Jvm.Cond.before_and, ih, List.all_cons]
def words1 : List Jvm.Cond := Jvm.Cond.code x code maxLocals ret :: tables_1
/-- a 'code' word, met by the world's own term for the bytes: nothing is compared byte by byte -/
theorem code_word {y : MethodName} {bytes : ByteArray} {mx : Nat} {rt : Option FieldType} {a : Array Value} {s : State} {m : MethodId} {meth : Method} {c : Code} (h1 : s.methodNamed? y = some m) (h2 : s.vm.method? m = some meth) (h3 : meth.code = some c) (h4 : c.code = bytes)
    (h5 : (c.maxLocals == mx && c.exceptionTable.isEmpty && decide (c.maxStack ≤ mostOperands) && decide (meth.sig.returnType = rt) && !meth.locks && decide (parseMethodDescriptor y.desc = some meth.sig)) = true) : (Jvm.Cond.code y bytes mx rt).before a s = true := by
  simp only [Bool.and_eq_true, beq_iff_eq, Bool.not_eq_true', decide_eq_true_eq] at h5
  obtain ⟨⟨⟨⟨⟨g1, g2⟩, g3⟩, g4⟩, g5⟩, g6⟩ := h5
  simp [Cond.before, Cond.holds, Cond.value, h1, h2, h3, h4, g1, g2, g3, g4, g5, g6]
def isCode : Jvm.Cond → Bool
  | .code _ _ _ _ => true
  | _ => false
theorem all_split {L : List Jvm.Cond} {P : Jvm.Cond → Bool} (h1 : L.all (fun c => isCode c || P c) = true) (h2 : ∀ c ∈ L.filter isCode, P c = true) : L.all P = true := by
  refine List.all_eq_true.mpr fun c hc => ?_
  have h := List.all_eq_true.mp h1 c hc
  rcases Bool.eq_false_or_eq_true (isCode c) with hi | hi
  · exact h2 c (List.mem_filter.mpr ⟨hc, hi⟩)
  · simpa [hi] using h
set_option maxRecDepth 65536 in
theorem w_c0 : (Jvm.Cond.code x code maxLocals ret).before args0 about1 = true := code_word (m := ⟨1, 1⟩) (meth := k1m1) (c := k1c1) (by decide +kernel) rfl rfl rfl (by decide +kernel)
set_option maxRecDepth 65536 in
theorem w_c1 : (Jvm.Cond.code ({ cls := "java/lang/String", name := "<init>", desc := "([C)V" } : Jvm.MethodName) jdk_42_method_3_code (2 : Nat) (Option.none : Option Jvm.ClassFile.FieldType)).before args0 about1 = true := code_word (m := ⟨7, 1⟩) (meth := k7m1) (c := k7c1) (by decide +kernel) rfl rfl rfl (by decide +kernel)
set_option maxRecDepth 65536 in
theorem w_c2 : (Jvm.Cond.code ({ cls := "java/lang/String", name := "<init>", desc := "([CIILjava/lang/Void;)V" } : Jvm.MethodName) jdk_42_method_149_code (6 : Nat) (Option.none : Option Jvm.ClassFile.FieldType)).before args0 about1 = true := code_word (m := ⟨7, 2⟩) (meth := k7m2) (c := k7c2) (by decide +kernel) rfl rfl rfl (by decide +kernel)
set_option maxRecDepth 65536 in
theorem w_c3 : (Jvm.Cond.code ({ cls := "java/lang/Object", name := "<init>", desc := "()V" } : Jvm.MethodName) object_method_1_code (1 : Nat) (Option.none : Option Jvm.ClassFile.FieldType)).before args0 about1 = true := code_word (m := ⟨0, 0⟩) (meth := k0m0) (c := k0c0) (by decide +kernel) rfl rfl rfl (by decide +kernel)
set_option maxRecDepth 65536 in
theorem w_c4 : (Jvm.Cond.code ({ cls := "java/lang/StringUTF16", name := "compress", desc := "([CII)[B" } : Jvm.MethodName) jdk_52_method_16_code (6 : Nat) (Option.some (Jvm.ClassFile.FieldType.array Jvm.ClassFile.FieldType.byte))).before args0 about1 = true := code_word (m := ⟨8, 2⟩) (meth := k8m2) (c := k8c2) (by decide +kernel) rfl rfl rfl (by decide +kernel)
set_option maxRecDepth 65536 in
theorem w_c5 : (Jvm.Cond.code ({ cls := "java/lang/StringUTF16", name := "compress", desc := "([CI[BII)I" } : Jvm.MethodName) jdk_52_method_21_code (7 : Nat) (Option.some Jvm.ClassFile.FieldType.int)).before args0 about1 = true := code_word (m := ⟨8, 3⟩) (meth := k8m3) (c := k8c3) (by decide +kernel) rfl rfl rfl (by decide +kernel)
set_option maxRecDepth 65536 in
theorem w_c6 : (Jvm.Cond.code ({ cls := "java/lang/StringUTF16", name := "coderFromArrayLen", desc := "([BI)B" } : Jvm.MethodName) jdk_52_method_15_code (2 : Nat) (Option.some Jvm.ClassFile.FieldType.byte)).before args0 about1 = true := code_word (m := ⟨8, 1⟩) (meth := k8m1) (c := k8c1) (by decide +kernel) rfl rfl rfl (by decide +kernel)
set_option maxRecDepth 65536 in
theorem w_c7 : (Jvm.Cond.code ({ cls := "com/example/palimpsest/palimpsest/history/KeyHistory", name := "<init>", desc := "(Ljava/lang/String;I)V" } : Jvm.MethodName) prog_139_method_1_code (3 : Nat) (Option.none : Option Jvm.ClassFile.FieldType)).before args0 about1 = true := code_word (m := ⟨9, 0⟩) (meth := k9m0) (c := k9c0) (by decide +kernel) rfl rfl rfl (by decide +kernel)
set_option maxRecDepth 65536 in
theorem w_c8 : (Jvm.Cond.code ({ cls := "java/util/HashMap", name := "<init>", desc := "()V" } : Jvm.MethodName) jdk_69_method_7_code (1 : Nat) (Option.none : Option Jvm.ClassFile.FieldType)).before args0 about1 = true := code_word (m := ⟨13, 0⟩) (meth := k13m0) (c := k13c0) (by decide +kernel) rfl rfl rfl (by decide +kernel)
set_option maxRecDepth 65536 in
theorem w_c9 : (Jvm.Cond.code ({ cls := "java/util/AbstractMap", name := "<init>", desc := "()V" } : Jvm.MethodName) jdk_71_method_1_code (1 : Nat) (Option.none : Option Jvm.ClassFile.FieldType)).before args0 about1 = true := code_word (m := ⟨11, 0⟩) (meth := k11m0) (c := k11c0) (by decide +kernel) rfl rfl rfl (by decide +kernel)
set_option maxRecDepth 65536 in
theorem w_c10 : (Jvm.Cond.code ({ cls := "com/example/palimpsest/palimpsest/history/KeyHistory", name := "disorder", desc := "()Ljava/lang/String;" } : Jvm.MethodName) prog_139_method_6_code (1 : Nat) (Option.some (Jvm.ClassFile.FieldType.object "java/lang/String"))).before args0 about1 = true := code_word (m := ⟨9, 1⟩) (meth := k9m1) (c := k9c1) (by decide +kernel) rfl rfl rfl (by decide +kernel)
set_option maxRecDepth 65536 in
theorem w_c11 : (Jvm.Cond.code ({ cls := "com/example/palimpsest/palimpsest/history/KeyHistory", name := "disorder", desc := "(Ljava/lang/String;)V" } : Jvm.MethodName) prog_139_method_7_code (2 : Nat) (Option.none : Option Jvm.ClassFile.FieldType)).before args0 about1 = true := code_word (m := ⟨9, 2⟩) (meth := k9m2) (c := k9c2) (by decide +kernel) rfl rfl rfl (by decide +kernel)
def codes1 : List Jvm.Cond := [Jvm.Cond.code x code maxLocals ret, Jvm.Cond.code ({ cls := "java/lang/String", name := "<init>", desc := "([C)V" } : Jvm.MethodName) jdk_42_method_3_code (2 : Nat) (Option.none : Option Jvm.ClassFile.FieldType), Jvm.Cond.code ({ cls := "java/lang/String", name := "<init>", desc := "([CIILjava/lang/Void;)V" } : Jvm.MethodName) jdk_42_method_149_code (6 : Nat) (Option.none : Option Jvm.ClassFile.FieldType), Jvm.Cond.code ({ cls := "java/lang/Object", name := "<init>", desc := "()V" } : Jvm.MethodName) object_method_1_code (1 : Nat) (Option.none : Option Jvm.ClassFile.FieldType), Jvm.Cond.code ({ cls := "java/lang/StringUTF16", name := "compress", desc := "([CII)[B" } : Jvm.MethodName) jdk_52_method_16_code (6 : Nat) (Option.some (Jvm.ClassFile.FieldType.array Jvm.ClassFile.FieldType.byte)), Jvm.Cond.code ({ cls := "java/lang/StringUTF16", name := "compress", desc := "([CI[BII)I" } : Jvm.MethodName) jdk_52_method_21_code (7 : Nat) (Option.some Jvm.ClassFile.FieldType.int), Jvm.Cond.code ({ cls := "java/lang/StringUTF16", name := "coderFromArrayLen", desc := "([BI)B" } : Jvm.MethodName) jdk_52_method_15_code (2 : Nat) (Option.some Jvm.ClassFile.FieldType.byte), Jvm.Cond.code ({ cls := "com/example/palimpsest/palimpsest/history/KeyHistory", name := "<init>", desc := "(Ljava/lang/String;I)V" } : Jvm.MethodName) prog_139_method_1_code (3 : Nat) (Option.none : Option Jvm.ClassFile.FieldType), Jvm.Cond.code ({ cls := "java/util/HashMap", name := "<init>", desc := "()V" } : Jvm.MethodName) jdk_69_method_7_code (1 : Nat) (Option.none : Option Jvm.ClassFile.FieldType), Jvm.Cond.code ({ cls := "java/util/AbstractMap", name := "<init>", desc := "()V" } : Jvm.MethodName) jdk_71_method_1_code (1 : Nat) (Option.none : Option Jvm.ClassFile.FieldType), Jvm.Cond.code ({ cls := "com/example/palimpsest/palimpsest/history/KeyHistory", name := "disorder", desc := "()Ljava/lang/String;" } : Jvm.MethodName) prog_139_method_6_code (1 : Nat) (Option.some (Jvm.ClassFile.FieldType.object "java/lang/String")), Jvm.Cond.code ({ cls := "com/example/palimpsest/palimpsest/history/KeyHistory", name := "disorder", desc := "(Ljava/lang/String;)V" } : Jvm.MethodName) prog_139_method_7_code (2 : Nat) (Option.none : Option Jvm.ClassFile.FieldType)]
set_option maxRecDepth 65536 in
theorem codes_eq : words1.filter isCode = codes1 := rfl
theorem w_codes : ∀ c ∈ words1.filter isCode, c.before args0 about1 = true := by
  rw [codes_eq]
  intro c hc
  simp only [codes1, List.mem_cons, List.not_mem_nil, or_false] at hc
  rcases hc with rfl | rfl | rfl | rfl | rfl | rfl | rfl | rfl | rfl | rfl | rfl | rfl
  · exact w_c0
  · exact w_c1
  · exact w_c2
  · exact w_c3
  · exact w_c4
  · exact w_c5
  · exact w_c6
  · exact w_c7
  · exact w_c8
  · exact w_c9
  · exact w_c10
  · exact w_c11
set_option maxRecDepth 65536 in
theorem w_t1 : (words1.take 24).all (fun c => isCode c || c.before args0 about1) = true := by decide +kernel
set_option maxRecDepth 65536 in
theorem w_t2 : ((words1.drop 24).take 24).all (fun c => isCode c || c.before args0 about1) = true := by decide +kernel
set_option maxRecDepth 65536 in
theorem w_t3 : (((words1.drop 24).drop 24).take 24).all (fun c => isCode c || c.before args0 about1) = true := by decide +kernel
set_option maxRecDepth 65536 in
theorem w_t4 : (((words1.drop 24).drop 24).drop 24).all (fun c => isCode c || c.before args0 about1) = true := by decide +kernel
theorem w_tables : (allAtoms (Jvm.Cond.code x code maxLocals ret :: tables_1)).before args0 about1 = true := by
  rw [allAtoms_all]
  show words1.all (fun c => c.before args0 about1) = true
  refine all_split ?_ w_codes
  rw [← List.take_append_drop 24 words1, List.all_append, w_t1, ← List.take_append_drop 24 (words1.drop 24), List.all_append, w_t2, ← List.take_append_drop 24 ((words1.drop 24).drop 24), List.all_append, w_t3, w_t4]
  rfl
set_option maxRecDepth 65536 in
theorem w_rest : rest_1_c.before args0 about1 = true := by decide +kernel
set_option maxRecDepth 65536 in
theorem w_case : (Jvm.Cond.and given_1 narrow_1).before args0 about1 = true := by decide +kernel
set_option maxRecDepth 65536 in
theorem w_consts : constsHeld consts_1 about1 := Jvm.Lit.constsHeldB_iff.mp (by decide +kernel)
theorem w_applies : (headSpec (Jvm.Cond.code x code maxLocals ret :: tables_1) room_1).applies x e0.platform about1 = true :=
  (Spec.applies_iff w_frames).mpr ⟨w_running, w_runnable, w_alone, w_named, w_hears, w_ripe, w_room, w_tables⟩
theorem atStart : AtStart classFile x code maxLocals ret World_1 tables_1 room_1 Calls_1 rest_1 Pre_1 launch0 p0 e0 about1 theMethod args0 below0 :=
  ⟨lists_1, trivial, launch0.admits_env _ _ _, launch0.least_env, fairChoices_fair.cas, fairChoices_fair.clock, w_frames, w_args, w_heap, w_applies, ⟨w_consts, trivial⟩, w_rest, w_case⟩
end start1
theorem witness_1 : WitnessClaimed_1 := ⟨start1.p0, start1.e0, start1.about1, start1.theMethod, start1.args0, start1.below0, start1.atStart⟩
end Jvm.Pilot.@@N@@
